/- A file of a component beside content, layouts and archetypes that is built of folders, a name and an extension is a file, and its base is its path. Condition: none but the statement's own. -/
import Derived.Deep.QuietTactic
import Derived.BigQuiet
import Derived.Test.YtcdgldnphhidlaaGreatDoorVa
import Derived.Test.YtcdgldnphhidlaaGreatDoorV21
set_option linter.unusedVariables false
set_option linter.unusedSimpArgs false
set_option maxRecDepth 100000
set_option maxHeartbeats 16000000
namespace Go.Proofs.YtcdgldnphhidlaaGreatDoor.fnBuiltFile
open Go.ChangeShapes Go.WideShapes Go.ChangeAt Go.RowKit Go.WideMaps Go.ZW.PrintWords Go.Proofs.YtcdgldnphhidlaaGreatDoor.Base Go.Proofs.YtcdgldnphhidlaaGreatDoor.Lower Go.Proofs.YtcdgldnphhidlaaGreatDoor.Total Go.Proofs.YtcdgldnphhidlaaGreatDoor.Path Go.Proofs.YtcdgldnphhidlaaGreatDoor.PCore
section
variable {w:World} {st:fD} {vl vd vf vc:Value}
theorem walk (S:lW w st vl vd vf vc) (comp:ByteArray) {vx:Value} {dirs:List ByteArray} (D:eT w 0 vx dirs) (zd:dirs.length≤9223372036854775807) (name:ByteArray) (ext:ByteArray):Calls Tryz.prog 7 #[.agg #[vl,vd,vf,vc],.string comp,vx,.string name,.string ext] w fun e w'=>e = .returned (.bool true)∧Below w.heap.size w w':=by
 have HSA:=cH S;obtain ⟨Al,cl,rfl,_,_⟩:=S.l;obtain ⟨Ad,cd,rfl,_,_⟩:=S.d;obtain ⟨Af,cf,rfl,_,_⟩:=S.f;obtain ⟨Ac,cc,rfl,_,_⟩:=S.c;obtain ⟨Ax,cx,ex,hcx,hdx⟩:=id D;subst ex;have HDD:=cH D;have HZD:=cH zd;clear S D hcx hdx zd;have hB1:Below w.heap.size w (w.alloc (.cells #[.slice Al st.langs.length cl,.slice Ad st.dis.length cd,.slice Af st.fmts.length cf,.slice Ac st.cont.length cc] 25)):=(Below.refl _ _).alloc (Nat.le_refl _) _;have hR1:=Row.new w [.slice Al st.langs.length cl,.slice Ad st.dis.length cd,.slice Af st.fmts.length cf,.slice Ac st.cont.length cc] 25;go_enter Tryz.func7,Tryz.ntmps7;go_upto_region 1 with fail
 obtain ⟨w1,hw1⟩:∃ w1,w.alloc (.cells #[.slice Al st.langs.length cl,.slice Ad st.dis.length cd,.slice Af st.fmts.length cf,.slice Ac st.cont.length cc] 25)=w1:=⟨_,rfl⟩
 rw[hw1] at hB1 hR1 ⊢;clear hw1;have HB1:=cH hB1;have HRS1:=cH hR1;have cz:=nX (HSA.out.below hB1)
 obtain ⟨ft,hft⟩:∃ f,pY st=f:=⟨_,rfl⟩
 rw[hft] at cz;have HFT:=cH hft;clear hB1 hR1 hft;have r0:=HRS1.out.at 0 _ rfl;have r1:=HRS1.out.at 1 _ rfl;have r2:=HRS1.out.at 2 _ rfl;have r3:=HRS1.out.at 3 _ rfl;go_wp2_with fail
 refine (cz).mono ?_;rintro e w2 ⟨rfl,hb⟩;have HB2:=cH (eB HB1.out hb);have HRS2:=cH (HRS1.out.below hb (HRS1.out.lt bJ));clear hb cz r0 r1 r2 r3;cases ft
 ·go_wp2_with fail
  go_ret;exact ⟨rfl,HB2.out⟩
 have hgo:=trivial
 obtain ⟨bq,hq⟩:∃ q,decide ((2147483647:Int) < (comp.size:Int))=q:=⟨_,rfl⟩
 have hq' : decide (2147483647 < comp.size)=bq:=by rw[← hq];by_cases c:2147483647 < comp.size <;> simp[c] <;> omega
 have HQcomp:=cH hq;cases bq;rotate_left
 ·go_wp2_with fail
  go_ret;exact ⟨rfl,HB2.out⟩
 have hgo:=trivial;have zcomp:comp.size≤2147483647:=by have:=of_decide_eq_false HQcomp.out;omega
 clear hq hq' hgo
 obtain ⟨fd,hfd⟩:∃ f,fits2 dirs=f:=⟨_,rfl⟩
 have cd':=oE (HDD.out.below HB2.out) HZD.out;rw[hfd] at cd';have HFD:=cH hfd;clear hfd;go_wp2_with fail
 refine (cd').mono ?_;rintro e w3 ⟨rfl,hb⟩;have HB3:=cH (eB HB2.out hb);have HRS3:=cH (HRS2.out.below hb (HRS2.out.lt bJ));clear hb cd';cases fd
 ·go_wp2_with fail
  go_ret;exact ⟨rfl,HB3.out⟩
 have hgo:=trivial
 obtain ⟨bq,hq⟩:∃ q,decide ((2147483647:Int) < (name.size:Int))=q:=⟨_,rfl⟩
 have hq' : decide (2147483647 < name.size)=bq:=by rw[← hq];by_cases c:2147483647 < name.size <;> simp[c] <;> omega
 have HQname:=cH hq;cases bq;rotate_left
 ·go_wp2_with fail
  go_ret;exact ⟨rfl,HB3.out⟩
 have hgo:=trivial;have zname:name.size≤2147483647:=by have:=of_decide_eq_false HQname.out;omega
 clear hq hq' hgo
 obtain ⟨bq,hq⟩:∃ q,decide ((2147483647:Int) < (ext.size:Int))=q:=⟨_,rfl⟩
 have hq' : decide (2147483647 < ext.size)=bq:=by rw[← hq];by_cases c:2147483647 < ext.size <;> simp[c] <;> omega
 have HQext:=cH hq;cases bq;rotate_left
 ·go_wp2_with fail
  go_ret;exact ⟨rfl,HB3.out⟩
 have hgo:=trivial;have zext:ext.size≤2147483647:=by have:=of_decide_eq_false HQext.out;omega
 clear hq hq' hgo
 obtain ⟨bq,hc1⟩:∃ b,(comp.toList==[99,111,110,116,101,110,116])=b:=⟨_,rfl⟩
 cases bq;rotate_left
 ·go_wp2_with fail
  go_ret;exact ⟨rfl,HB3.out⟩
 have hgo:=trivial
 obtain ⟨bq,hc2⟩:∃ b,(comp.toList==[108,97,121,111,117,116,115])=b:=⟨_,rfl⟩
 cases bq;rotate_left
 ·go_wp2_with fail
  go_ret;exact ⟨rfl,HB3.out⟩
 have hgo:=trivial
 obtain ⟨bq,hc3⟩:∃ b,(comp.toList==[97,114,99,104,101,116,121,112,101,115])=b:=⟨_,rfl⟩
 cases bq;rotate_left
 ·go_wp2_with fail
  go_ret;exact ⟨rfl,HB3.out⟩
 have hgo:=trivial;obtain ⟨pd,hpd,cpd⟩:=oM (HDD.out.below HB3.out) HFD.out (oK HFD.out).2;have HPD:=cH hpd;clear hpd;go_wp2_with fail
 refine (cpd).mono ?_;rintro e w4 ⟨rfl,hb⟩;have HB4:=cH (eB HB3.out hb);have HRS4:=cH (HRS3.out.below hb (HRS3.out.lt bJ));clear hb cpd;cases pd
 ·go_wp2_with fail
  go_ret;exact ⟨rfl,HB4.out⟩
 have hgo:=trivial;obtain ⟨pp,hpp,cpp⟩:=nQ name bA;have HP1:=cH hpp;clear hpp;go_wp2_with fail
 refine (cpp _).mono ?_;rintro e w5 ⟨rfl,hb⟩;have HB5:=cH (eB HB4.out hb);have HRS5:=cH (HRS4.out.below hb (HRS4.out.lt bJ));clear hb cpp;cases pp
 ·go_wp2_with fail
  go_ret;exact ⟨rfl,HB5.out⟩
 have hgo:=trivial;obtain ⟨pp,hpp,cpp⟩:=nQ ext bA;have HP2:=cH hpp;clear hpp;go_wp2_with fail
 refine (cpp _).mono ?_;rintro e w6 ⟨rfl,hb⟩;have HB6:=cH (eB HB5.out hb);have HRS6:=cH (HRS5.out.below hb (HRS5.out.lt bJ));clear hb cpp;cases pp
 ·go_wp2_with fail
  go_ret;exact ⟨rfl,HB6.out⟩
 have hgo:=trivial;obtain ⟨hdp,hfew⟩:=HPD.out bL;have hfl:dirs.length+wt dirs≤2000:=by unfold fewB at hfew;exact of_decide_eq_true hfew
 have cf:=mV (HDD.out.below HB6.out) bA;have zdir:(gU dirs).size≤2000:=by rw[nT];exact hfl
 obtain ⟨dir,hdir⟩:∃ d,gU dirs=d:=⟨_,rfl⟩
 rw[hdir] at cf zdir;have HDIR:=cH hdir;have HDP:=cH hdp;have HFL:=cH hfl;have HC1:=cH hc1;have HC2:=cH hc2;have HC3:=cH hc3;clear hdir hdp hfew hfl hc1 hc2 hc3;go_wp2_with fail
 refine (cf).mono ?_;rintro e w7 ⟨rfl,hb⟩;have HB7:=cH (eB HB6.out hb);have HRS7:=cH (HRS6.out.below hb (HRS6.out.lt bJ));clear hb cf;have r0:=HRS7.out.at 0 _ rfl;have r1:=HRS7.out.at 1 _ rfl;have r2:=HRS7.out.at 2 _ rfl;have r3:=HRS7.out.at 3 _ rfl
 obtain ⟨s,hs⟩:∃ x:ByteArray,(((dir++⟨#[47]⟩)++name)++⟨#[46]⟩)++ext=x:=⟨_,rfl⟩
 have HS:=cH hs
 have hsz:s.size≤100000000000:=by
  rw[← hs];simp only[size_append];have z0:(⟨#[47]⟩:ByteArray).size=1:=rfl;have z1:(⟨#[46]⟩:ByteArray).size=1:=rfl;omega
 have HB2:=HB7;have HBA:=HB7;have HRS2:=HRS7;obtain ⟨ok,HOK,ck⟩:=pD (HSA.out.below HBA.out) HFT.out comp s bA;replace HOK:=cH HOK;go_wp2_with fail
 refine ck.mono ?_;rintro e wq ⟨t,l1,l2,l3,v1,v2,v3,rfl,hsl,ht,hbq⟩;have HSL:=cH hsl;clear hsl hs;have HT:=cH ht;have HBQ:=cH hbq;obtain ⟨A1,c1,e1,_⟩:=HSL.out.1;obtain ⟨A2,c2,e2,_⟩:=HSL.out.2.1;obtain ⟨A3,c3,e3,_⟩:=HSL.out.2.2;clear ck ht hbq r0 r1 r2 r3
 obtain ⟨C,hC⟩:∃ C:Array Value,oY t v1 v2 v3=C:=⟨_,rfl⟩
 have hval:iB t v1 v2 v3 = .agg C:=by rw[← hC];rfl
 have HCS:=cH (show C.size=31 by rw[← hC];rfl);have HON:=cH (show C.all (·.oneCell')=true by rw[← hC,e1,e2,e3];exact mF _ _ _ _ _ _ _ _ _ _);rw[hval];have HC:=cH hC;clear hval e1 e2 e3 hC;have hRZ:=Row.new wq fY 35;have HCE:=cH (nM hRZ rfl HCS.out);have HBW:=cH (qD wq C)
 go_upto_region 7 with (first | (refine nN rfl _ _ rfl wq.heap.size C rfl rfl hRZ rfl HCS.out HON.out ?_) | fail)
 change Code.wp _ _ _ _ ((wq.alloc (.cells fY.toArray 35)).setCells wq.heap.size 0 C.toList)
 obtain ⟨W,hW⟩:∃ W,(wq.alloc (.cells fY.toArray 35)).setCells wq.heap.size 0 C.toList=W:=⟨_,rfl⟩
 rw[hW] at HCE HBW ⊢
 obtain ⟨bk,hbk⟩:∃ b,wq.heap.size=b:=⟨_,rfl⟩
 have HBK:=cH hbk;rw[hbk] at HCE ⊢;clear hW hbk hRZ;have HBX:=cH (eB (eB HBA.out HBQ.out) HBW.out);have HRS3:=cH ((HRS2.out.below HBQ.out (HRS2.out.lt bJ)).below HBW.out (Nat.lt_of_lt_of_le (HRS2.out.lt bJ) HBQ.out.size));cases ok
 ·go_wp2_with fail
  go_ret;exact ⟨rfl,HBX.out⟩
 have hgo:=trivial;obtain ⟨ht1,rfl,rfl,rfl⟩:=HT.out bL;obtain ⟨OS,HASC,HASCC,hs400,hc2000,hPK⟩:=HOK.out bL;have HPK:=cH hPK;clear hPK
 obtain ⟨p,hp⟩:∃ p,fL (eI st) comp (norm s)=p:=⟨_,rfl⟩
 rw[hp] at ht1 HSL;subst ht1;have HP:=cH hp;have hpo:=nP (eI st) comp (norm s) (by rw[norm_size];omega);rw[hp] at hpo;have HPO:=cH hpo;have HPN:=cH (oL (eI st) comp (norm s));rw[hp] at HPN;have k9:=HCE.out 9 (.string (nrm p.trim p.s)) (by rw[← HC.out];rfl);have hne:=HPN.out;clear hp hpo HT HOK k9 hne
 obtain ⟨f1,f2,f3,f4,f5,f6,f7,f8,f9,f10,f11,f12⟩:=aEm HPK.out HP.out HDP.out (name:=name) (ext:=ext) (by
  rw[← HS.out,← HDIR.out];simp only[iP,jL]
  simp[L]) (HP1.out bL) (HP2.out bL) HC1.out HC2.out HC3.out
 have t0:(s.toList==s.toList)=true:=by simp
 have t1:(name.toList==name.toList)=true:=by simp
 have t2:(ext.toList==ext.toList)=true:=by simp
 obtain ⟨fn,hfn⟩:∃ x,gU dirs++⟨#[47]⟩++name=x:=⟨_,rfl⟩
 have t3:(fn.toList==fn.toList)=true:=by simp
 obtain ⟨fh,hfh⟩:∃ x,dirs.head?.getD ⟨#[]⟩=x:=⟨_,rfl⟩
 have t4:(fh.toList==fh.toList)=true:=by simp
 rw[hfn] at f8;rw[hfh] at f12;rw[HDIR.out] at hfn;have hss:=HS.out;have k30:=HCE.out 30 (.int .i64 0) (by rw[← HC.out,← show p.typ=0 from f1];rfl);have k25:=HCE.out 25 (.bool false) (by rw[← HC.out,← show qA p=false from (by unfold qA;rw[f1];rfl)];rfl);have k26:=HCE.out 26 (.bool false) (by rw[← HC.out,← show qY p=false from (by unfold qY;rw[f1];rfl)];rfl);have k15:=HCE.out 15 (.string ext) (by rw[← HC.out,← show fH p 0=ext from f2];rfl);have k19:=HCE.out 19 (.string ⟨#[]⟩) (by rw[← HC.out,← show pE p=⟨#[]⟩ from f3];rfl);have k13:=HCE.out 13 (.string s) (by rw[← HC.out,← show nH p=s from f6];rfl);have k9:=HCE.out 9 (.string s) (by rw[← HC.out,← show nrm p.trim p.s=s from f7];rfl)
 have k11:=HCE.out 11 (.string fn) (by rw[← HC.out,← show jH p false false=fn from f8];rfl);have k7:=HCE.out 7 (.string name) (by rw[← HC.out,← show jA p=name from f9];rfl);have k5:=HCE.out 5 (.string name) (by rw[← HC.out,← show nJ p=name from f10];rfl);have k6:=HCE.out 6 (.string name) (by rw[← HC.out,← show nI p=name from f11];rfl);have k3:=HCE.out 3 (.string fh) (by rw[← HC.out,← show kS p=fh from f12];rfl);have hr2:=(HSL.out.2.1.below HBW.out).mono (Nat.zero_le _);rw[show iV p=[ext] from f4] at hr2;obtain ⟨A2,c2,e2,hc2,hd2⟩:=id hr2;have HR2:=cH (show eT W 0 (.slice A2 1 c2) [ext] from e2▸hr2);have k22:=HCE.out 22 (.slice A2 1 c2) (by rw[← HC.out,show (Value.slice A2 1 c2)=v2 from e2.symm];rfl);clear e2 hr2 hc2 hd2
 have hr3:=(HSL.out.2.2.below HBW.out).mono (Nat.zero_le _);rw[show kB p=[name] from f5] at hr3;obtain ⟨A3,c3,e3,hc3,hd3⟩:=id hr3;have HR3:=cH (show eT W 0 (.slice A3 1 c3) [name] from e3▸hr3);have k23:=HCE.out 23 (.slice A3 1 c3) (by rw[← HC.out,show (Value.slice A3 1 c3)=v3 from e3.symm];rfl);clear e3 hr3 hc3 hd3;have HFH:=cH hfh;have HFN:=cH hfn;have HSS:=cH hss;clear f1 f2 f3 f4 f5 f6 f7 f8 f9 f10 f11 f12 hfh hfn hss;have hal:Below W.heap.size W (W.alloc (.cells #[.string ext] 9)):=(Below.refl _ _).alloc (Nat.le_refl _) _;have ct:=lK (w:=W.alloc (.cells #[.string ext] 9)) (HR2.out.below hal) ((eT.of_row (l:=[ext]) (Row.new W [.string ext] 9) 1 bJ).mono (Nat.zero_le _)) bJ;go_wp2_with fail
 refine ct.mono ?_;rintro e wt1 ⟨rfl,hbt⟩;have hbx:=eB hal hbt;have HBt1:=cH (eB HBX.out hbx);have HVt1:=cH (hbx);replace k30:=eH k30 hbx;replace k25:=eH k25 hbx;replace k26:=eH k26 hbx;replace k15:=eH k15 hbx;replace k19:=eH k19 hbx;replace k13:=eH k13 hbx;replace k9:=eH k9 hbx;replace k11:=eH k11 hbx;replace k7:=eH k7 hbx;replace k5:=eH k5 hbx;replace k6:=eH k6 hbx;replace k3:=eH k3 hbx;replace k22:=eH k22 hbx;replace k23:=eH k23 hbx;clear hal ct hbt hbx;have hal:Below wt1.heap.size wt1 (wt1.alloc (.cells #[.string name] 9)):=(Below.refl _ _).alloc (Nat.le_refl _) _
 have ct:=lK (w:=wt1.alloc (.cells #[.string name] 9)) (HR3.out.below (eB HVt1.out hal)) ((eT.of_row (l:=[name]) (Row.new wt1 [.string name] 9) 1 bJ).mono (Nat.zero_le _)) bJ;go_wp2_with fail
 refine ct.mono ?_;rintro e wt2 ⟨rfl,hbt⟩;have hbx:=eB hal hbt;have HBt2:=cH (eB HBt1.out hbx);have HVt2:=cH (eB HVt1.out hbx);replace k30:=eH k30 hbx;replace k25:=eH k25 hbx;replace k26:=eH k26 hbx;replace k15:=eH k15 hbx;replace k19:=eH k19 hbx;replace k13:=eH k13 hbx;replace k9:=eH k9 hbx;replace k11:=eH k11 hbx;replace k7:=eH k7 hbx;replace k5:=eH k5 hbx;replace k6:=eH k6 hbx;replace k3:=eH k3 hbx;replace k22:=eH k22 hbx;replace k23:=eH k23 hbx;clear hal ct hbt hbx;have hfn:=HFN.out;have hss:fn++⟨#[46]⟩++ext=s:=by rw[← hfn];exact HSS.out
 have u1:(⟨#[47]⟩:ByteArray).size=1:=rfl;have u2:(⟨#[46]⟩:ByteArray).size=1:=rfl;have zfn:fn.size=dir.size+1+name.size:=by rw[← hfn,size_append,size_append,u1]
 have m1:dir.size+1≤9223372036854775807:=by omega
 have m2:(dir++⟨#[47]⟩).size+name.size≤9223372036854775807:=by rw[size_append,u1];omega
 have m3:dir.size+1+name.size≤9223372036854775807:=by omega
 have m4:fn.size+1≤9223372036854775807:=by omega
 have m5:(fn++⟨#[46]⟩).size+ext.size≤9223372036854775807:=by rw[size_append,u2];omega
 have m6:fn.size+1+ext.size≤9223372036854775807:=by omega
 clear u1 u2 zfn;have xq:=fun (m:Nat)=>aHb (w:=wt2.drewN m) ((HDD.out.below (eB HBX.out HVt2.out)).below (eW.below ⟨m,rfl⟩)) bS;rw[HFH.out] at xq;go_wp2_with fail
 go_quiet (first | (go_at_call 30;exact Calls.quiet_of (xq _)))
 go_wp2_with fail
 go_ret
 first
 | exact ⟨rfl,eB HBt2.out (eW.below ⟨_,rfl⟩)⟩
 | exact ⟨congrArg (fun b=>Ending.returned (Value.bool b)) (by assumption),eB HBt2.out (eW.below ⟨_,rfl⟩)⟩
end
theorem lifted (os:Os) (started:os.Started) (H:Type) (enc:TypeId×Value→H) :
 ReturnsInHanded {} Tryz.checked os 7 .any (fun w args=>(Rows.fnBuiltFileSpec.pre enc Tryz.prog Tryz.f7 Rows.fnBuiltFileRow.domain false w args∧laidMetH Tryz.prog Rows.fnBuiltFileRow.laid w)∧sizedMet enc Tryz.prog Tryz.f7 (OpenSpec.ofChange Rows.fnBuiltFileSpec) false w args)
  (Rows.fnBuiltFileSpec.post enc Tryz.prog Tryz.f7 false true false false):=by
 refine returnsInHanded_of_change_and (C:=Tryz.checked) (X:=fun w _=>laidMetH Tryz.prog Rows.fnBuiltFileRow.laid w) (fun _ _ _ hh h=>h.of_heap hh) RowKit.own started bB Tryz.func7
  (ChangeSpec.witness_shaped (enc:=enc) (C:=Tryz.checked) (os:=os) (X:=fun w _=>laidMetH Tryz.prog Rows.fnBuiltFileRow.laid w) false (World.laidAll Tryz.prog os Rows.fnBuiltFileRow.laid) #[.agg #[.slice none 0 0,.slice none 0 0,.slice none 0 0,.slice none 0 0],.string ByteArray.empty,.slice none 0 0,.string ByteArray.empty,.string ByteArray.empty] 8 (World.laidAll_os _ _ _)
   (World.shaped_of_ZipB bB bB) bB bB bB
   bN) ?_
 intro W base args ds gs before hval0 hW _ _ _ _;have hval:∀ (j:Nat) t v,Tryz.f7.params[j]? = some t→args[j]? = some v→Value.okWide Tryz.prog W .any base t v:=hval0;have hW':=hW;obtain ⟨p,q,hA0,hV,rfl,_,_⟩:=hW;have hA:DataW.TrodAll enc Tryz.prog W 0 (fun _=>true) true Tryz.f7.params.toList args.toList ds p:=hA0;rw[Tryz.params7] at hA hval;obtain ⟨v0,vs0,d0,ds0,p0,q0,hargs,rfl,rfl,h0,r0⟩:=trodAll_cons hA;obtain ⟨v1,vs1,d1,ds1,p1,q1,rfl,rfl,rfl,h1,r1⟩:=trodAll_cons r0;obtain ⟨v2,vs2,d2,ds2,p2,q2,rfl,rfl,rfl,h2,r2⟩:=trodAll_cons r1;obtain ⟨v3,vs3,d3,ds3,p3,q3,rfl,rfl,rfl,h3,r3⟩:=trodAll_cons r2;obtain ⟨v4,vs4,d4,ds4,p4,q4,rfl,rfl,rfl,h4,r4⟩:=trodAll_cons r3;obtain ⟨rfl,rfl,rfl⟩:=trodAll_nil r4;obtain rfl:args = #[v0,v1,v2,v3,v4]:=by cases args;simp_all
 obtain ⟨rfl,rfl⟩:=trodVars_none hV;have k0:=h0;have lt0:∀ x∈p0,x.block < W.heap.size:=by obtain ⟨m,hm⟩:=k0;exact DataW.trod_lt m _ _ _ hm
 obtain ⟨st0,vl0,vd0,vf0,vc0,rfl,S0⟩:=SiteRow.open_site (hval 0 25 v0 rfl rfl) h0;obtain ⟨a1,rfl,rfl,rfl,y1⟩:=Go.ChangeMaps.open_string Tryz.underlying9 (hval 1 9 v1 rfl rfl) h1;have k2:=h2;have lt2:∀ x∈p2,x.block < W.heap.size:=by obtain ⟨m,hm⟩:=k2;exact DataW.trod_lt m _ _ _ hm
 obtain ⟨l2,S2,z2⟩:∃ l,eT W 0 v2 l∧l.length≤9223372036854775807:=by obtain ⟨a9,n9,c9,rfl⟩:=okWide_slice Tryz.underlying22 (hval 2 22 v2 rfl rfl);obtain ⟨m,hm⟩:=k2;exact SiteRow.open_strs hm
 obtain ⟨a3,rfl,rfl,rfl,y3⟩:=Go.ChangeMaps.open_string Tryz.underlying9 (hval 3 9 v3 rfl rfl) h3;obtain ⟨a4,rfl,rfl,rfl,y4⟩:=Go.ChangeMaps.open_string Tryz.underlying9 (hval 4 9 v4 rfl rfl) h4;clear hA0 hval0;refine (walk (w:=W) S0 a1 S2 z2 a3 a4).mono fun e W' ⟨he,bel⟩=>?_;subst he;exact ⟨_,rfl,_,_,_,[],_,[],hW',trodAll_mk1 (shut_bool Tryz.underlying4 _),(trodAll_cons_mk (Below.trod SiteRow.laidOut bB (of_decide_eq_true bB) k0 bel lt0) (trodAll_cons_mk (Go.ChangeMaps.shut_string Tryz.underlying9 y1) (trodAll_cons_mk (Below.trod SiteRow.laidOut bB (of_decide_eq_true bB) k2 bel lt2) (trodAll_cons_mk (Go.ChangeMaps.shut_string Tryz.underlying9 y3) (trodAll_cons_mk (Go.ChangeMaps.shut_string Tryz.underlying9 y4) trodAll_mk0))))),rfl,bel.frame _,fun h=>by cases h⟩
theorem said:Rows.FnBuiltFileSaid :=
 OpenClaim.holds_of_wide 7 Tryz.f7 rfl rfl rfl rfl rfl rfl rfl ⟨rfl,rfl,rfl,rfl,rfl⟩ rfl rfl rfl rfl rfl bB Tryz.func7 bB
  (of_decide_eq_true bB) bM
  (fun os started H enc _=>lifted os started H enc)
theorem plain (f:FuncId) (fn:Func) (hf:Tryz.pinned.checked.prog.funcNamed "pub-trackway/laws.FnBuiltFile" = some f) (hfn:Tryz.pinned.checked.prog.funcs[f]? = some fn) :
 false=Tryz.pinned.checked.prog.looks []∧∀ (j:Nat) t,fn.params[j]? = some t→Tryz.pinned.checked.prog.wantsStandIn t=false:=by
 obtain rfl:f=7:=Option.some.inj ((show Tryz.prog.funcNamed "pub-trackway/laws.FnBuiltFile" = some 7 by kernel_rfl).symm.trans hf) |>.symm
 obtain rfl:fn=Tryz.f7:=(Option.some.inj (Tryz.func7.symm.trans hfn)).symm;refine ⟨by kernel_rfl,fun j t ht=>?_⟩;rw[Tryz.params7] at ht;have hm:t∈[25,9,22,9,9]:=by simpa using Array.mem_of_getElem? ht
 have hall:([25,9,22,9,9].all fun u=>!Tryz.prog.wantsStandIn u)=true:=by kernel_rfl
 exact (show Tryz.prog.wantsStandIn t=false by simpa using List.all_eq_true.1 hall t hm)
theorem card:Rows.FnBuiltFileCardSaid :=
 Claim7.holds_tied_plain_at .later [] _ _ _ _ said (fun _ h=>by cases h) bB (fun _ h=>by cases h) fnBuiltFile_row_tie rfl ⟨rfl,rfl⟩ bB rfl plain bB
end Go.Proofs.YtcdgldnphhidlaaGreatDoor.fnBuiltFile
namespace Go.Proofs.YtcdgldnphhidlaaGreatDoor
theorem fnBuiltFile_card:Rows.FnBuiltFileCardSaid:=fnBuiltFile.card
#print axioms fnBuiltFile_card
end Go.Proofs.YtcdgldnphhidlaaGreatDoor
