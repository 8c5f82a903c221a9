/- Texts that the law leans on: Do4. Condition: as told at each. -/
import Derived.Test.YtlkoeeccebmjmaaGreatDoorXa
import Derived.Test.YtlkoeeccebmjmaaGreatDoorX6
import Derived.Test.YtlkoeeccebmjmaaGreatDoorX13
set_option linter.unusedVariables false
set_option linter.unusedSimpArgs false
set_option maxRecDepth 100000
set_option maxHeartbeats 16000000
namespace Go.Proofs.YtlkoeeccebmjmaaGreatDoor.Path
open Go.RowKit Go.WideMaps Go.ZW.PrintWords Go.ZW.PrintLast Go.Proofs.YtlkoeeccebmjmaaGreatDoor.Base Go.Proofs.YtlkoeeccebmjmaaGreatDoor.PCore
theorem aIv {s t1 t2:ByteArray} {z f:Bool} (hz:(s.toList==[])=z) (h1:(if z then (⟨#[47]⟩:ByteArray) else s)=t1) (hf:Lib.hasPrefix t1.data.toList [47]=f) (h2:(if f then t1 else (⟨#[47]⟩:ByteArray)++t1)=t2):L t2=kG (L s):=by
 unfold kG
 have hp:∀ l:List UInt8,Lib.hasPrefix l [47]=(l.head? == some 47):=by
  intro l
  cases l with
  | nil=>rfl
  | cons a r =>
   show ((47:UInt8)==a && List.isPrefixOf [] r)=_
   by_cases c:a=47
   ·subst c;simp
   have h1:((47:UInt8)==a)=false:=beq_eq_false_iff_ne.2 (fun h=>c h.symm);have h2:(some a==some (47:UInt8))=false:=beq_eq_false_iff_ne.2 (fun h=>c (by injection h));rw[h1];exact h2.symm
 cases z
 ·have hne:¬ L s=[]:=by intro h;rw[L_toList,h] at hz;simp at hz
  rw[if_neg hne];simp only[Bool.false_eq_true,if_false] at h1;subst h1;rw[hp] at hf;cases f
  ·have:¬ (L s).head? = some 47:=by intro h;rw[show s.data.toList=L s from rfl,h] at hf;simp at hf
   rw[if_neg this];simp only[Bool.false_eq_true,if_false] at h2;rw[← h2,lY];rfl
  have:(L s).head? = some 47:=by have h9:=hf;rw[beq_iff_eq] at h9;exact h9
  rw[if_pos this];simp only[if_true] at h2;rw[h2]
 have he:L s=[]:=by rw[← L_toList];simpa using hz
 rw[if_pos he];simp only[if_true] at h1;subst h1;have:f=true:=by rw[← hf];rfl
 subst this;simp only[if_true] at h2;rw[← h2];rfl
theorem aFw {l:List UInt8} {m:ByteArray} (hm:L m=kG l) (h0:0 < m.size) (h:(m.toList==[47])=true∨(bt m ((m.size:Int) - 1)==47)=false):m=⟨(gY l).toArray⟩:=by
 refine sJ l m hm ?_;rintro ⟨h1,h2⟩;rcases h with h | h
 ·have:L m=[47]:=by rw[← L_toList];simpa using h
  rw[← eD,this] at h1
  simp at h1
 have:=(vR m h0).2 h2;rw[this] at h
 simp at h
theorem aG3 {l:List UInt8} {m:ByteArray} (hm:L m=kG l) (h0:0 < m.size) (h1:(m.toList==[47])=false) (h2:(bt m ((m.size:Int) - 1)==47)=true):m.extract 0 (m.size - 1)=⟨(gY l).toArray⟩:=by
 have hl:(L m).getLast? = some 47:=(vR m h0).1 (by simpa using h2);refine yT l m hm hl ?_;have hne:¬ L m=[47]:=by intro h;rw[L_toList,h] at h1;simp at h1
 rw[hm] at hne;have:=mt (uY l).2 hne;rw[← hm,eD] at this;omega
section
variable {w0 w:World} {b:Nat} {vk vu vl u:Value} {pb mb sb fb:Nat} {st:fF} {sl sd sf sc:Value}
theorem xF (S:iM w0 pb st sl sd sf sc mb sb fb) (OS:iR st) (hB:Below w0.heap.size w0 w) (comp:ByteArray) (H:eF w w0.heap.size b { fM with comp:=comp } vk vu vl u) (s:ByteArray) (hs:s.size≤900000) (ha:asc s) :
 Calls Tryz.prog 125 #[.pointer (some ⟨pb,0,none⟩),.string comp,.string s,.pointer (some ⟨b,0,none⟩)] w fun e w' =>
  e = .returned (.tuple #[.pointer (some ⟨b,0,none⟩),.nilIface])∧∃ vk' vu' vl',eF w' w0.heap.size b (mDo (eH st) comp s { fM with comp:=comp }) vk' vu' vl' u∧eW w w' b vk vu vl vk' vu' vl':=by
 have HP:=bW H;have HS:=bW S;have HB0:=bW hB
 have hT:∃ T:ByteArray,⟨(gY (L s)).toArray⟩=T:=⟨_,rfl⟩
 obtain ⟨T,hT⟩:=hT;have HT:=bW hT;have hTl:L T=gY (L s):=by rw[← hT];exact jQ _
 have HTL:=bW hTl;have HTA:=bW (show asc T by rw[← hT];exact aF5 s ha);have hn1:T.size≤900001:=by have:=mText_length (L s);rw[← eD,hTl];have:=eD s;omega
 have HH47:=bW (show (L T)[0]? = some 47 by rw[hTl,← List.head?_eq_getElem?];exact mText_head _)
 obtain ⟨z,hz⟩:∃ z,(s.toList==[])=z:=⟨_,rfl⟩
 have HZ:=bW hz;clear H S hB hT hTl;go_enter Tryz.func125,Tryz.ntmps125;go_upto_if 23 with fail
 clear hz
 obtain ⟨t1,ht1⟩:∃ t1,(if z then (⟨#[47]⟩:ByteArray) else s)=t1:=⟨_,rfl⟩
 have HT1:=bW ht1;clear ht1
 go_cut [2] from 23 to 23 (fun s2 wx=>s2 = .string t1∧wx=w)
 case first =>
  cases z
  ·go_wp2_with fail
   go_meet
   case rel=>exact ⟨by rw[← HT1.out];rfl,rfl⟩
  go_wp2_with fail
  go_meet
  case rel=>exact ⟨by rw[← HT1.out];rfl,rfl⟩
 as_aux_lemma =>
  obtain ⟨rfl,rfl⟩:=hcut;have cp:=Tryz.strings_HasPrefix t1 ⟨#[47]⟩ wc
  obtain ⟨f,hf⟩:∃ f,Lib.hasPrefix t1.data.toList [47]=f:=⟨_,rfl⟩
  rw[show (⟨#[47]⟩:ByteArray).data.toList=[47] from rfl,hf] at cp;have HF:=bW hf;clear hf;go_upto_region 3 with fail
  go_wp2_with fail
  refine cp.mono ?_;rintro e w' ⟨rfl,rfl⟩;clear cp
  have ht1s:t1.size≤900000:=by
   rw[← HT1.out];cases z
   ·exact hs
   show (⟨#[47]⟩:ByteArray).size≤900000;decide
  obtain ⟨t2,ht2⟩:∃ t2,(if f then t1 else (⟨#[47]⟩:ByteArray)++t1)=t2:=⟨_,rfl⟩
  have HT2:=bW ht2;clear ht2;go_upto_if 26 with fail
  go_cut [2] from 27 to 28 (fun s2 wx=>s2 = .string t2∧wx=w')
  case first =>
   cases f
   ·go_wp2_with fail
    go_meet
    case rel=>exact ⟨by rw[← HT2.out];rfl,rfl⟩
   go_wp2_with fail
   go_meet
   case rel=>exact ⟨by rw[← HT2.out];rfl,rfl⟩
  as_aux_lemma =>
   obtain ⟨rfl,rfl⟩:=hcut;have hl2:L t2=kG (L s):=aIv HZ.out HT1.out HF.out HT2.out;have h2:0 < t2.size:=by rw[← eD,hl2];exact List.length_pos_iff.2 (tL _)
   have hz2:t2.size≤900001:=by
    rw[← HT2.out];cases f
    ·have:(⟨#[47]⟩:ByteArray).size=1:=rfl;show ((⟨#[47]⟩:ByteArray)++t1).size≤_;rw[size_append];omega
    exact Nat.le_succ_of_le ht1s
   have HL2:=bW hl2;clear hl2
   obtain ⟨q,hq⟩:∃ q,(t2.toList==[47])=q:=⟨_,rfl⟩
   have hq2:(t2.toList != [47]) = !q:=by rw[bne,hq]
   have HQ:=bW hq;have d2:IntKind.i64.wrap ((t2.size:Int) - 1)=(t2.size:Int) - 1:=by rw[IntWalk.i64_in _ bA]
   have d3:0≤(t2.size:Int) - 1:=by omega
   have d4:(t2.size:Int) - 1 < (t2.size:Int):=by omega
   have d5:(t2.size:Int) - 1≤(t2.size:Int):=by omega
   have d6:((t2.size:Int) - 1).toNat=t2.size - 1:=by omega
   have hx:(((t2[t2.size - 1]' bA).toNat:Nat):Int)=bt t2 ((t2.size:Int) - 1):=by rw[← fN t2 ((t2.size:Int) - 1) bA];congr 3;omega
   obtain ⟨g,hg⟩:∃ g,(bt t2 ((t2.size:Int) - 1)==47)=g:=⟨_,rfl⟩
   have HG:=bW hg;go_upto_region 5 with fail
   go_cut [38] from 29 to 38 (fun s38 wx=>s38 = .bool (!q && g)∧wx=wc)
   case first =>
    cases q
    ·go_wp2_with fail
     go_meet
     case rel=>exact ⟨rfl,rfl⟩
    clear hx hg;go_wp2_with fail
    go_meet
    case rel=>exact ⟨rfl,rfl⟩
   as_aux_lemma =>
    obtain ⟨rfl,rfl⟩:=hcut;clear hq hq2 hx hg
    obtain ⟨qg,hqg⟩:∃ qg,(!q && g)=qg:=⟨_,rfl⟩
    rw[hqg];have HQG:=bW hqg;clear hqg;go_upto_if 38 with fail
    go_cut [2] from 39 to 43 (fun s2 wx=>s2 = .string T∧wx=wc)
    case first =>
     as_aux_lemma =>
      cases qg
      ·have E1:=bW (show t2=T by
        rw[← HT.out];refine aFw HL2.out h2 ?_;have h9:=HQG.out;cases q
        ·exact .inr (HG.out.trans h9)
        exact .inl HQ.out)
       go_wp2_with fail
       go_meet
       case rel=>exact ⟨congrArg Value.string E1.out,rfl⟩
      have E1:=bW (show t2.extract 0 (t2.size - 1)=T by
       rw[← HT.out];have h9:=HQG.out;cases q
       ·exact aG3 HL2.out h2 HQ.out (HG.out.trans h9)
       cases h9)
      go_wp2_with fail
      go_meet
      case rel=>exact ⟨congrArg Value.string E1.out,rfl⟩
    as_aux_lemma =>
     obtain ⟨rfl,rfl⟩:=hcut;clear d2 d3 d4 d5 d6 h2 hz2 HT1 HT2
     obtain ⟨n,hn⟩:∃ n,T.size=n:=⟨_,rfl⟩
     rw[hn] at hn1;have HN:=bW hn;clear hn;have h0:=HP.out.row.at 0 _ rfl;have f0:=HP.out.row.free 0 bG;go_upto_region 8 with fail
     obtain ⟨hpa,hma⟩:=fW HP.out 0 (.string T) { fM with comp:=comp,s:=T } u rfl rfl rfl rfl bA
     obtain ⟨w1,hw1⟩:∃ w1,wc.setCell ⟨b,0,none⟩ (.string T)=w1:=⟨_,rfl⟩
     rw[hw1] at hpa hma ⊢;clear hw1 h0 f0;have HP1:=bW hpa;have HM1:=bW hma;clear hpa hma;obtain ⟨j,hj1,hj2,hj3,hj4⟩:=last_slash T ⟨0,HH47.out⟩;have hjn:j < n:=by rw[← HN.out,← eD];exact (List.getElem?_eq_some_iff.1 hj3).1
     obtain ⟨kf,hkf⟩:=(aIp T (by rw[HN.out];omega) ⟨0,HH47.out⟩).rounds;have cf:=dZ.calls kf T _ w1 hkf
     obtain ⟨sk,hsk⟩:∃ sk,lB (L T)=sk:=⟨_,rfl⟩
     rw[hsk] at cf
     have hskl:sk.length≤1000000:=by
      have:=tN (L T) (L T).length (behind (L T) - 1);rw[← hsk];unfold lB;have h9:=eD T;rw[HN.out] at h9;omega
     have hil:(ints sk).length=sk.length:=by simp[ints]
     have HSK:=bW hsk;have HB2:=bW hj2;clear hj3 hj4 hkf hsk hj2;go_wp2_with fail
     refine cf.mono ?_;rintro e w2 ⟨v,rfl,hR,hb⟩;clear cf;have hR2:=aH2 HP1.out hR;obtain ⟨A,c,hv,hcap,_⟩:=Kd.R_reads hR2;subst hv;rw[hil] at hR2 ⊢;rw[hil] at hcap;have HR2:=bW hR2;have HP2:=bW (HP1.out.below hb);have HM2:=bW (HM1.out.trans (eW.of_below (b:=b) (vk:=vk) (vu:=vu) (vl:=vl) hb));clear hR hR2 hb;have cl:=Tryz.strings_LastIndex_one T ⟨#[47]⟩ rfl (by rw[HN.out];omega) w2;have ej:Lib.lastIndexByte T ((((⟨#[47]⟩:ByteArray)[0]' bF).toNat:Nat):Int)=(j:Int):=hj1;rw[ej] at cl;clear ej hj1;go_wp2_with fail
     refine cl.mono ?_;rintro e w3 ⟨rfl,rfl⟩;clear cl;have e1:IntKind.i64.wrap ((j:Int)+1)=(j:Int)+1:=by rw[IntWalk.i64_in _ bA]
     have e2:(0:Int)≤(j:Int)+1:=by omega
     have hTn:=HN.out;have e3:(j:Int)+1≤(n:Int):=by omega
     have e4:((j:Int)+1).toNat=j+1:=by omega
     have hxs:(T.extract (j+1) n).size≤1000000:=by rw[← eD,eN];have:=eD T;simp;omega
     have cc:=aDj (T.extract (j+1) n) hxs w3
     have hcd:iD (L (T.extract (j+1) n))=iD ((L T).drop (behind (L T))):=by
      rw[eN,HB2.out,List.take_of_length_le];have:=eD T
      simp;omega
     rw[hcd] at cc;have hcl:=uL ((L T).drop (behind (L T)));have hcl2:((L T).drop (behind (L T))).length≤1000000:=by have:=eD T;simp;omega
     have hnd:IntKind.i64.wrap ((iD ((L T).drop (behind (L T))):Int) - (sk.length:Int))=qA (L T):=by
      rw[IntWalk.i64_in _ bA];unfold qA;rw[HSK.out]
     clear hcd
     obtain ⟨cd,hcdv⟩:∃ cd,iD ((L T).drop (behind (L T)))=cd:=⟨_,rfl⟩
     rw[hcdv] at cc hnd;clear hcdv hcl hcl2;go_wp2_with fail
     refine cc.mono ?_;rintro e w4 ⟨rfl,rfl⟩;clear cc hxs e1 e2 e3 e4;obtain ⟨kc,hkc⟩:=(sH T ⟨#[47,95,115,104,111,114,116,99,111,100,101,115,47]⟩ bA bF).rounds;have ck:=gS.calls kc T ⟨#[47,95,115,104,111,114,116,99,111,100,101,115,47]⟩ _ w4 hkc
     obtain ⟨y,hy⟩:∃ y,eY (L T) fS=y:=⟨_,rfl⟩
     rw[show L (⟨#[47,95,115,104,111,114,116,99,111,100,101,115,47]⟩:ByteArray)=fS from rfl,hy] at ck;have HY:=bW hy;clear hkc hy hTn
     obtain ⟨nd,hndv⟩:∃ nd,qA (L T)=nd:=⟨_,rfl⟩
     rw[hndv] at hnd;have HND:=bW hndv;clear hndv;go_wp2_with fail
     refine ck.mono ?_;rintro e w5 ⟨rfl,hd5⟩;have hb5:=hd5.below;have HP5:=bW (HP2.out.below hb5);have HM5:=bW (HM2.out.trans (eW.of_below (b:=b) (vk:=vk) (vu:=vu) (vl:=vl) hb5));have HR5:=bW (zA HR2.out hb5);clear ck hd5 hb5 hnd
     obtain ⟨p1,hp1⟩:∃ p1,iP { fM with comp:=comp } T=p1:=⟨_,rfl⟩
     have HP1V:=bW hp1;clear hp1;go_upto_if 61 with fail
     go_cut [11] from 62 to 64 (fun s11 wx=>s11 = .int .i64 0∧Aside0 (eF wx w0.heap.size b p1 vk vu vl u)∧Aside0 (eW w5 wx b vk vu vl vk vu vl))
     case first =>
      as_aux_lemma =>
       cases y
       ·have e:{ fM with comp:=comp,s:=T }=p1:=by rw[← HP1V.out,iP,show eY T.data.toList fS=false from HY.out];rfl
        have E:=bW e;clear e;go_wp2_with fail
        go_meet
        case rel=>exact ⟨rfl,⟨by rw[← E.out];exact HP5.out⟩,⟨eW.refl _ _ _ _ _⟩⟩
       have e:{ fM with comp:=comp,s:=T,typ:=7 }=p1:=by rw[← HP1V.out,iP,show eY T.data.toList fS=true from HY.out];rfl
       have E:=bW e;clear e;have h5:=HP5.out.row.at 5 _ rfl;have f5:=HP5.out.row.free 5 bG;go_wp2_with fail
       obtain ⟨hpa,hma⟩:=fW HP5.out 5 (.int .i64 7) { fM with comp:=comp,s:=T,typ:=7 } u rfl rfl rfl rfl bA
       go_meet
       case rel=>exact ⟨rfl,⟨dS⟩,⟨hma⟩⟩
     as_aux_lemma =>
      obtain ⟨rfl,HP6,HM6⟩:=hcut;have HB6:=bW (HB0.out.trans (eW.below HP.out (HM5.out.trans HM6.out)));have HR6:=bW (jU HR5.out HM6.out);have HM0:=bW (HM5.out.trans HM6.out);clear HP1 HM1 HP2 HM2 HR2 HP5 HM5 HR5 HM6
      obtain ⟨D,hD⟩:∃ D,qK (eH st) comp p1=D:=⟨_,rfl⟩
      have hps:p1.s=T:=by rw[← HP1V.out];rfl
      have hD2:iY (eH st) comp sk nd n ⟨p1,0,0⟩=D:=by
       rw[← hD,qK,hps,← HSK.out,← HND.out,← HN.out];rfl
      have hIn:In1 T comp n ⟨p1,0,0⟩:=by
       rw[← HN.out];exact In1.start hps bT bT bT bT bT bT bT bT bT bT bT bT
      have HD:=bW hD;have HD2:=bW hD2;have HIN:=bW hIn;have e0:IntKind.i64.wrap ((n:Int) - 1)=(n:Int) - 1:=by rw[IntWalk.i64_in _ bA]
      have hTn:=HN.out;clear hD hD2 hIn hps;go_wp2_with fail
      clear e0 hTn
      go_loopg [11,12,15] n (fun g c11 c12 c15 wr=>∃ (i:Nat) (d:DoV) (vk1 vu1 vl1:Value),i≤n∧g=i∧c15 = .int .i64 ((i:Int) - 1)∧c11 = .int .i64 ((d.sc:Nat):Int)∧c12 = .int .i64 ((d.ld:Nat):Int)∧Aside0 (eF wr w0.heap.size b d.p vk1 vu1 vl1 u)∧Aside0 (eW wc wr b vk vu vl vk1 vu1 vl1)∧Aside0 ((Kd.int .i64).R 3 wr w1.heap.size (Apart b vk1 vu1 vl1) (.slice A sk.length c) (ints sk))∧Aside0 (InD T comp i d)∧Aside0 (iY (eH st) comp sk nd i d=D))
      case atStart=>exact ⟨n,⟨p1,0,0⟩,vk,vu,vl,Nat.le_refl _,rfl,rfl,rfl,rfl,HP6,⟨eW.refl _ _ _ _ _⟩,HR6,⟨.inl HIN.out⟩,HD2⟩
      case round =>
       obtain ⟨i,d,vk1,vu1,vl1,hi,hg,rfl,rfl,rfl,HPr,HMr,HRr,HIr,HDr⟩:=hrel
       cases i with
       | succ i =>
        have hin0:i < n:=by omega
        have hin:i < T.size:=by rw[HN.out];exact hin0
        have e15:(((i+1:Nat):Int) - 1)=(i:Int):=by omega
        rw[e15];clear e15;have p4:(0:Int)≤(i:Int):=by omega
        have p5:(i:Int) < (n:Int):=by omega
        have em:IntKind.i64.wrap ((i:Int) - 1)=(i:Int) - 1:=by rw[IntWalk.i64_in _ bA]
        have hx:(((T[i]'hin).toNat:Nat):Int)=bt T (i:Int):=fN T (i:Int) hin;have hTn:=HN.out
        obtain ⟨a1,ha1⟩:∃ a1,(bt T (i:Int)==46)=a1:=⟨_,rfl⟩
        obtain ⟨b1,hb1⟩:∃ b1,(bt T (i:Int)==47)=b1:=⟨_,rfl⟩
        have HA:=bW ha1;have HBb:=bW hb1;cases a1
        ·cases b1
         ·have hne1:d.p.s.data.toList[i]?≠some 46:=by rw[HIr.out.text];exact fun h=>by have:=(lV T i hin 46 46 bF).2 h;rw[this] at ha1;cases ha1
          have hne2:d.p.s.data.toList[i]?≠some 47:=by rw[HIr.out.text];exact fun h=>by have:=(lV T i hin 47 47 bF).2 h;rw[this] at hb1;cases hb1
          have hstep:=aB3 (E:=eH st) (comp:=comp) (sk:=sk) (nd:=nd) hne1 hne2;have HST:=bW hstep;clear hne1 hne2 hstep;go_wp2_with fail
          have hstep:=HST.out;have hI2:InD T comp i d:=by rw[← hstep];exact HIr.out.step hin HH47.out
          have hD2:iY (eH st) comp sk nd i d=D:=by rw[← hstep];exact HDr.out
          go_roundg i
          case rel=>exact ⟨i,d,vk1,vu1,vl1,aM,rfl,aZ,rfl,rfl,HPr,HMr,HRr,⟨hI2⟩,⟨hD2⟩⟩
          case measure=>omega
         as_aux_lemma =>
          have H47:=bW (show d.p.s.data.toList[i]? = some 47 by rw[HIr.out.text];exact (lV T i (by rw[HN.out];exact hin0) 47 47 bF).1 (by simpa using HBb.out));have hsc:d.sc≤1000000:=by have:=HIr.out.scs;rw[HN.out] at this;omega
          have esc:IntKind.i64.wrap ((d.sc:Int)+1)=(d.sc:Int)+1:=by rw[IntWalk.i64_in _ bA]
          have ei:IntKind.i64.wrap ((i:Int)+1)=(i:Int)+1:=by rw[IntWalk.i64_in _ bA]
          have h2:=HPr.out.row.at 2 _ rfl;rcases HIr.out with h1 | h2'
          ·rw[h1.c1] at h2
           by_cases hld:0 < d.ld
           ·have dl:decide ((0:Int) < (d.ld:Int))=true:=decide_eq_true bA
            by_cases hi0:0 < i
            ·have di:decide ((0:Int) < (i:Int))=true:=decide_eq_true bA;obtain ⟨q1,q2⟩:=h1.high hin;have cid:=xN HS.out OS (HB6.out.trans (eW.below HP6.out HMr.out)) HPr.out (h1.pathIn (by rw[HN.out];omega)) h1.c1 comp T i d.ld nd true q1 (by rw[h1.hs];exact q2) (by rw[h1.hs];exact pY _ _ _ HTA.out) h1.fit.ly
             obtain ⟨q,hq⟩:∃ q,mId (eH st) d.p comp i d.ld nd true=q:=⟨_,rfl⟩
             rw[hq] at cid;have hqv:q=if 0 < d.ld then mId (eH st) d.p comp i d.ld nd true else d.p:=by rw[if_pos hld];exact hq.symm
             have HC:=bW h1.c1;have hstep:=pH (E:=eH st) (comp:=comp) (sk:=sk) (nd:=nd) H47.out h1.c1 hqv;rw[if_pos hi0] at hstep;have HST:=bW hstep;clear hstep hqv hq h1 q1 q2;go_wp2_with fail
             refine cid.mono ?_;rintro e w6 ⟨rfl,vk2,vu2,vl2,hp,hm⟩;have HP7:=bW hp;have HM7:=bW (HMr.out.trans hm);have HR7:=bW (jU HRr.out hm);clear cid hp hm h2;have k2:=HP7.out.row.at 2 _ rfl;have f2:=HP7.out.row.free 2 bG;have k3:=HP7.out.row.at 3 _ rfl;have f3:=HP7.out.row.free 3 bG;go_wp2_with fail
             obtain ⟨hpa,hma⟩:=fW HP7.out 2 (.int .i64 ((i:Int)+1)) { q with cHigh:=(i:Int)+1 } u rfl rfl rfl rfl bA;obtain ⟨hpb,hmb⟩:=fW hpa 3 (.int .i64 (i:Int)) { q with cHigh:=(i:Int)+1,sec:=i } u rfl rfl rfl rfl bA;have hstep:=HST.out;have hI2:InD T comp i ⟨{ q with cHigh:=(i:Int)+1,sec:=i },d.sc+1,d.ld⟩:=by rw[← hstep];exact HIr.out.step hin HH47.out
             have hD2:iY (eH st) comp sk nd i ⟨{ q with cHigh:=(i:Int)+1,sec:=i },d.sc+1,d.ld⟩=D:=by rw[← hstep];exact HDr.out
             go_roundg i
             case rel=>exact ⟨i,⟨{ q with cHigh:=(i:Int)+1,sec:=i },d.sc+1,d.ld⟩,vk2,vu2,vl2,aM,rfl,aZ,aZ,aZ,⟨hpb⟩,⟨(HM7.out.trans hma).trans hmb⟩,⟨jU (jU HR7.out hma) hmb⟩,⟨hI2⟩,⟨hD2⟩⟩
             case measure=>omega
            have di:decide ((0:Int) < (i:Int))=false:=decide_eq_false bA;obtain ⟨q1,q2⟩:=h1.high hin;have cid:=xN HS.out OS (HB6.out.trans (eW.below HP6.out HMr.out)) HPr.out (h1.pathIn (by rw[HN.out];omega)) h1.c1 comp T i d.ld nd true q1 (by rw[h1.hs];exact q2) (by rw[h1.hs];exact pY _ _ _ HTA.out) h1.fit.ly
            obtain ⟨q,hq⟩:∃ q,mId (eH st) d.p comp i d.ld nd true=q:=⟨_,rfl⟩
            rw[hq] at cid;have hqv:q=if 0 < d.ld then mId (eH st) d.p comp i d.ld nd true else d.p:=by rw[if_pos hld];exact hq.symm
            have HC:=bW h1.c1;have hstep:=pH (E:=eH st) (comp:=comp) (sk:=sk) (nd:=nd) H47.out h1.c1 hqv;rw[if_neg hi0] at hstep;have HST:=bW hstep;clear hstep hqv hq h1 q1 q2;go_wp2_with fail
            refine cid.mono ?_;rintro e w6 ⟨rfl,vk2,vu2,vl2,hp,hm⟩;have HP7:=bW hp;have HM7:=bW (HMr.out.trans hm);have HR7:=bW (jU HRr.out hm);clear cid hp hm h2;have k2:=HP7.out.row.at 2 _ rfl;have f2:=HP7.out.row.free 2 bG;have k3:=HP7.out.row.at 3 _ rfl;have f3:=HP7.out.row.free 3 bG;go_wp2_with fail
            obtain ⟨hpa,hma⟩:=fW HP7.out 2 (.int .i64 ((i:Int)+1)) { q with cHigh:=(i:Int)+1 } u rfl rfl rfl rfl bA;have hstep:=HST.out;have hI2:InD T comp i ⟨{ q with cHigh:=(i:Int)+1 },d.sc+1,d.ld⟩:=by rw[← hstep];exact HIr.out.step hin HH47.out
            have hD2:iY (eH st) comp sk nd i ⟨{ q with cHigh:=(i:Int)+1 },d.sc+1,d.ld⟩=D:=by rw[← hstep];exact HDr.out
            go_roundg i
            case rel=>exact ⟨i,⟨{ q with cHigh:=(i:Int)+1 },d.sc+1,d.ld⟩,vk2,vu2,vl2,aM,rfl,aZ,aZ,aZ,⟨hpa⟩,⟨HM7.out.trans hma⟩,⟨jU HR7.out hma⟩,⟨hI2⟩,⟨hD2⟩⟩
            case measure=>omega
           have dl:decide ((0:Int) < (d.ld:Int))=false:=decide_eq_false bA
           by_cases hi0:0 < i
           ·have di:decide ((0:Int) < (i:Int))=true:=decide_eq_true bA
            obtain ⟨q,hq⟩:∃ q,d.p=q:=⟨_,rfl⟩
            have hqv:q=if 0 < d.ld then mId (eH st) d.p comp i d.ld nd true else d.p:=by rw[if_neg hld];exact hq.symm
            have hstep:=pH (E:=eH st) (comp:=comp) (sk:=sk) (nd:=nd) H47.out h1.c1 hqv;rw[if_pos hi0] at hstep;have HST:=bW hstep;have HP7:=bW (hq▸HPr.out);have HM7:=HMr;have HR7:=HRr;clear hstep hqv h1;clear hq;have f2:=HP7.out.row.free 2 bG;have k3:=HP7.out.row.at 3 _ rfl;have f3:=HP7.out.row.free 3 bG;go_wp2_with fail
            obtain ⟨hpa,hma⟩:=fW HP7.out 2 (.int .i64 ((i:Int)+1)) { q with cHigh:=(i:Int)+1 } u rfl rfl rfl rfl bA;obtain ⟨hpb,hmb⟩:=fW hpa 3 (.int .i64 (i:Int)) { q with cHigh:=(i:Int)+1,sec:=i } u rfl rfl rfl rfl bA;have hstep:=HST.out;have hI2:InD T comp i ⟨{ q with cHigh:=(i:Int)+1,sec:=i },d.sc+1,d.ld⟩:=by rw[← hstep];exact HIr.out.step hin HH47.out
            have hD2:iY (eH st) comp sk nd i ⟨{ q with cHigh:=(i:Int)+1,sec:=i },d.sc+1,d.ld⟩=D:=by rw[← hstep];exact HDr.out
            go_roundg i
            case rel=>exact ⟨i,⟨{ q with cHigh:=(i:Int)+1,sec:=i },d.sc+1,d.ld⟩,vk1,vu1,vl1,aM,rfl,aZ,aZ,aZ,⟨hpb⟩,⟨(HM7.out.trans hma).trans hmb⟩,⟨jU (jU HR7.out hma) hmb⟩,⟨hI2⟩,⟨hD2⟩⟩
            case measure=>omega
           have di:decide ((0:Int) < (i:Int))=false:=decide_eq_false bA
           obtain ⟨q,hq⟩:∃ q,d.p=q:=⟨_,rfl⟩
           have hqv:q=if 0 < d.ld then mId (eH st) d.p comp i d.ld nd true else d.p:=by rw[if_neg hld];exact hq.symm
           have hstep:=pH (E:=eH st) (comp:=comp) (sk:=sk) (nd:=nd) H47.out h1.c1 hqv;rw[if_neg hi0] at hstep;have HST:=bW hstep;have HP7:=bW (hq▸HPr.out);have HM7:=HMr;have HR7:=HRr;clear hstep hqv h1;clear hq;have f2:=HP7.out.row.free 2 bG;have k3:=HP7.out.row.at 3 _ rfl;have f3:=HP7.out.row.free 3 bG;go_wp2_with fail
           obtain ⟨hpa,hma⟩:=fW HP7.out 2 (.int .i64 ((i:Int)+1)) { q with cHigh:=(i:Int)+1 } u rfl rfl rfl rfl bA;have hstep:=HST.out;have hI2:InD T comp i ⟨{ q with cHigh:=(i:Int)+1 },d.sc+1,d.ld⟩:=by rw[← hstep];exact HIr.out.step hin HH47.out
           have hD2:iY (eH st) comp sk nd i ⟨{ q with cHigh:=(i:Int)+1 },d.sc+1,d.ld⟩=D:=by rw[← hstep];exact HDr.out
           go_roundg i
           case rel=>exact ⟨i,⟨{ q with cHigh:=(i:Int)+1 },d.sc+1,d.ld⟩,vk1,vu1,vl1,aM,rfl,aZ,aZ,aZ,⟨hpa⟩,⟨HM7.out.trans hma⟩,⟨jU HR7.out hma⟩,⟨hI2⟩,⟨hD2⟩⟩
           case measure=>omega
          have hne:d.p.cHigh≠-1:=by have:=h2'.ch;omega
          have dh:(d.p.cHigh == -1)=false:=beq_eq_false_iff_ne.2 hne
          by_cases hcl:d.p.cLow = -1
          ·have dc:(d.p.cLow == -1)=true:=by rw[hcl];rfl
           by_cases hi0:0 < i
           ·have di:decide ((0:Int) < (i:Int))=true:=decide_eq_true bA;have hstep:=pG (E:=eH st) (comp:=comp) (sk:=sk) (nd:=nd) H47.out hne;rw[if_pos hcl,if_pos hi0] at hstep;have HST:=bW hstep;clear hstep h2';have k1:=HPr.out.row.at 1 _ rfl;have f1:=HPr.out.row.free 1 bG;have k3:=HPr.out.row.at 3 _ rfl;have f3:=HPr.out.row.free 3 bG;rw[hcl] at k1;clear hcl dc;go_wp2_with fail
            obtain ⟨hpa,hma⟩:=fW HPr.out 1 (.int .i64 ((i:Int)+1)) { d.p with cLow:=(i:Int)+1 } u rfl rfl rfl rfl bA;obtain ⟨hpb,hmb⟩:=fW (hpa) 3 (.int .i64 (i:Int)) { d.p with cLow:=(i:Int)+1,sec:=i } u rfl rfl rfl rfl bA;have hstep:=HST.out;have hI2:InD T comp i ⟨{ d.p with cLow:=(i:Int)+1,sec:=i },d.sc+1,d.ld⟩:=by rw[← hstep];exact HIr.out.step hin HH47.out
            have hD2:iY (eH st) comp sk nd i ⟨{ d.p with cLow:=(i:Int)+1,sec:=i },d.sc+1,d.ld⟩=D:=by rw[← hstep];exact HDr.out
            go_roundg i
            case rel=>exact ⟨i,⟨{ d.p with cLow:=(i:Int)+1,sec:=i },d.sc+1,d.ld⟩,vk1,vu1,vl1,aM,rfl,aZ,aZ,aZ,⟨hpb⟩,⟨((HMr.out).trans hma).trans hmb⟩,⟨(jU (jU HRr.out hma) hmb)⟩,⟨hI2⟩,⟨hD2⟩⟩
            case measure=>omega
           have di:decide ((0:Int) < (i:Int))=false:=decide_eq_false bA;have hstep:=pG (E:=eH st) (comp:=comp) (sk:=sk) (nd:=nd) H47.out hne;rw[if_pos hcl,if_neg hi0] at hstep;have HST:=bW hstep;clear hstep h2';have k1:=HPr.out.row.at 1 _ rfl;have f1:=HPr.out.row.free 1 bG;have k3:=HPr.out.row.at 3 _ rfl;have f3:=HPr.out.row.free 3 bG;rw[hcl] at k1;clear hcl dc;go_wp2_with fail
           obtain ⟨hpa,hma⟩:=fW HPr.out 1 (.int .i64 ((i:Int)+1)) { d.p with cLow:=(i:Int)+1 } u rfl rfl rfl rfl bA;have hstep:=HST.out;have hI2:InD T comp i ⟨{ d.p with cLow:=(i:Int)+1 },d.sc+1,d.ld⟩:=by rw[← hstep];exact HIr.out.step hin HH47.out
           have hD2:iY (eH st) comp sk nd i ⟨{ d.p with cLow:=(i:Int)+1 },d.sc+1,d.ld⟩=D:=by rw[← hstep];exact HDr.out
           go_roundg i
           case rel=>exact ⟨i,⟨{ d.p with cLow:=(i:Int)+1 },d.sc+1,d.ld⟩,vk1,vu1,vl1,aM,rfl,aZ,aZ,aZ,⟨hpa⟩,⟨(HMr.out).trans hma⟩,⟨(jU HRr.out hma)⟩,⟨hI2⟩,⟨hD2⟩⟩
           case measure=>omega
          have dc:(d.p.cLow == -1)=false:=beq_eq_false_iff_ne.2 hcl
          by_cases hi0:0 < i
          ·have di:decide ((0:Int) < (i:Int))=true:=decide_eq_true bA;have hstep:=pG (E:=eH st) (comp:=comp) (sk:=sk) (nd:=nd) H47.out hne;rw[if_neg hcl,if_pos hi0] at hstep;have HST:=bW hstep;clear hstep h2';have k1:=HPr.out.row.at 1 _ rfl;have f1:=HPr.out.row.free 1 bG;have k3:=HPr.out.row.at 3 _ rfl;have f3:=HPr.out.row.free 3 bG;go_wp2_with fail
           obtain ⟨hpb,hmb⟩:=fW (HPr.out) 3 (.int .i64 (i:Int)) { d.p with sec:=i } u rfl rfl rfl rfl bA;have hstep:=HST.out;have hI2:InD T comp i ⟨{ d.p with sec:=i },d.sc+1,d.ld⟩:=by rw[← hstep];exact HIr.out.step hin HH47.out
           have hD2:iY (eH st) comp sk nd i ⟨{ d.p with sec:=i },d.sc+1,d.ld⟩=D:=by rw[← hstep];exact HDr.out
           go_roundg i
           case rel=>exact ⟨i,⟨{ d.p with sec:=i },d.sc+1,d.ld⟩,vk1,vu1,vl1,aM,rfl,aZ,aZ,aZ,⟨hpb⟩,⟨(HMr.out).trans hmb⟩,⟨(jU HRr.out hmb)⟩,⟨hI2⟩,⟨hD2⟩⟩
           case measure=>omega
          have di:decide ((0:Int) < (i:Int))=false:=decide_eq_false bA;have hstep:=pG (E:=eH st) (comp:=comp) (sk:=sk) (nd:=nd) H47.out hne;rw[if_neg hcl,if_neg hi0] at hstep;have HST:=bW hstep;clear hstep h2';have k1:=HPr.out.row.at 1 _ rfl;have f1:=HPr.out.row.free 1 bG;have k3:=HPr.out.row.at 3 _ rfl;have f3:=HPr.out.row.free 3 bG;go_wp2_with fail
          have hstep:=HST.out;have hI2:InD T comp i ⟨d.p,d.sc+1,d.ld⟩:=by rw[← hstep];exact HIr.out.step hin HH47.out
          have hD2:iY (eH st) comp sk nd i ⟨d.p,d.sc+1,d.ld⟩=D:=by rw[← hstep];exact HDr.out
          go_roundg i
          case rel=>exact ⟨i,⟨d.p,d.sc+1,d.ld⟩,vk1,vu1,vl1,aM,rfl,aZ,aZ,aZ,⟨HPr.out⟩,⟨HMr.out⟩,⟨HRr.out⟩,⟨hI2⟩,⟨hD2⟩⟩
          case measure=>omega
        as_aux_lemma =>
         obtain ⟨k0,hk0⟩:=(aE3 i sk hskl).rounds;obtain ⟨A1,c1,hv1,_,hC⟩:=Kd.R_reads HRr.out;rw[hil] at hv1;injection hv1 with ea _ ec
         subst ea ec;have cs:=eS.calls k0 A c (ints sk) (i:Int) (kF sk i) wr hC (by rw[hil];exact hcap) hk0;rw[hil] at cs
         obtain ⟨bs,hbs⟩:∃ bs,kF sk i=bs:=⟨_,rfl⟩
         rw[hbs] at cs;have HBS:=bW hbs;have H46:=bW (show d.p.s.data.toList[i]? = some 46 by rw[HIr.out.text];exact (lV T i (by rw[HN.out];exact hin0) 46 46 bF).1 (by simpa using HA.out));clear hk0 hbs hC;go_wp2_with fail
         refine cs.mono ?_;rintro e w5 ⟨rfl,hd5⟩;have hb5:=hd5.below;have HPs:=bW (HPr.out.below hb5);have HMs:=bW (HMr.out.trans (eW.of_below (b:=b) (vk:=vk1) (vu:=vu1) (vl:=vl1) hb5));have HRs:=bW (zA HRr.out hb5);clear cs hd5 hb5 hx ha1 hb1;cases bs
         ·rcases HIr.out with h1 | h2
          ·obtain ⟨q1,q2⟩:=h1.high hin;have cid:=xN HS.out OS (HB6.out.trans (eW.below HP6.out HMs.out)) HPs.out (h1.pathIn (by rw[HN.out];omega)) h1.c1 comp T i d.ld nd false q1 (by rw[h1.hs];exact q2) (by rw[h1.hs];exact pY _ _ _ HTA.out) h1.fit.ly;go_wp2_with fail
           refine cid.mono ?_;rintro e w6 ⟨rfl,vk2,vu2,vl2,hp,hm⟩;have HP7:=bW hp;have HM7:=bW hm;clear cid hp hm q1 q2 h1;have hstep:=tC (E:=eH st) (comp:=comp) (nd:=nd) H46.out HBS.out;go_wp2_with fail
           have hI2:InD T comp i ⟨mId (eH st) d.p comp i d.ld nd false,d.sc,i⟩:=by rw[← hstep];exact HIr.out.step hin HH47.out
           have hD2:iY (eH st) comp sk nd i ⟨mId (eH st) d.p comp i d.ld nd false,d.sc,i⟩=D:=by rw[← hstep];exact HDr.out
           go_roundg i
           case rel=>exact ⟨i,⟨mId (eH st) d.p comp i d.ld nd false,d.sc,i⟩,vk2,vu2,vl2,aM,rfl,aZ,aZ,aZ,HP7,⟨HMs.out.trans HM7.out⟩,⟨jU HRs.out HM7.out⟩,⟨hI2⟩,⟨hD2⟩⟩
           case measure=>omega
          have hne:d.p.cHigh≠-1:=by have:=h2.ch;omega
          have cid:=aIt HPs.out hne (.pointer (some ⟨pb,0,none⟩)) comp T (i:Int) (d.ld:Int) nd false;go_wp2_with fail
          refine cid.mono ?_;rintro e w6 ⟨rfl,rfl⟩;have hstep:=tC (E:=eH st) (comp:=comp) (nd:=nd) H46.out HBS.out;rw[xP hne] at hstep;clear cid h2 hne;go_wp2_with fail
          have hI2:InD T comp i ⟨d.p,d.sc,i⟩:=by rw[← hstep];exact HIr.out.step hin HH47.out
          have hD2:iY (eH st) comp sk nd i ⟨d.p,d.sc,i⟩=D:=by rw[← hstep];exact HDr.out
          go_roundg i
          case rel=>exact ⟨i,⟨d.p,d.sc,i⟩,vk1,vu1,vl1,aM,rfl,aZ,aZ,aZ,HPs,HMs,HRs,⟨hI2⟩,⟨hD2⟩⟩
          case measure=>omega
         have hstep:=wN (E:=eH st) (comp:=comp) (nd:=nd) H46.out HBS.out;go_wp2_with fail
         have hI2:InD T comp i d:=by rw[← hstep];exact HIr.out.step hin HH47.out
         have hD2:iY (eH st) comp sk nd i d=D:=by rw[← hstep];exact HDr.out
         go_roundg i
         case rel=>exact ⟨i,d,vk1,vu1,vl1,aM,rfl,aZ,rfl,rfl,HPs,HMs,HRs,⟨hI2⟩,⟨hD2⟩⟩
         case measure=>omega
       | zero =>
        have hI:=HIr.out.last HH47.out;have hD3:d=D:=HDr.out;have HI:=bW hI;have HD3:=bW hD3;have hds:d.p.s=T:=hI.hs;obtain ⟨a,ha⟩:=Int.eq_ofNat_of_zero_le (show 0≤d.p.cHigh by have:=hI.ch;omega);have han:1≤a∧a≤n:=by have:=hI.ch;rw[HN.out] at this;omega
        have HAI:=bW ha;have hnel:d.p.nEnd≤n:=by have:=hI.ne;rw[HN.out] at this;exact this
        clear hI hD3 HIr HDr HRr;have k22:=HPr.out.row.at 22 _ rfl;have k2:=HPr.out.row.at 2 _ rfl;rw[ha] at k2
        obtain ⟨z1,hz1⟩:∃ z,decide ((a:Int)≤d.p.nEnd)=z:=⟨_,rfl⟩
        have HZ1:=bW hz1;go_upto_region 34 with fail
        go_quiet (fail)
        have hdq:Below wr.heap.size wr (wr.drewN nq):=eV.below ⟨nq,rfl⟩;have hPq:=HPr.out.below hdq;have hMq:=HMr.out.trans (eW.of_below (b:=b) (vk:=vk1) (vu:=vu1) (vl:=vl1) hdq)
        obtain ⟨wq,hWq⟩:∃ x,wr.drewN nq=x:=⟨_,rfl⟩
        rw[hWq] at hPq hMq ⊢;have HPq:=bW hPq;have HMq:=bW hMq;clear hWq hdq hPq hMq;clear k22 k2
        obtain ⟨P1,hP1⟩:∃ P,gD d.p=P:=⟨_,rfl⟩
        have HP1:=bW hP1;clear hP1;go_upto_if 138 with fail
        clear hz1
        go_cut [11] from 139 to 163 (fun s11 wx=>s11 = .int .i64 ((d.sc:Nat):Int)∧Aside0 (eF wx w0.heap.size b P1 vk1 vu1 vl1 u)∧Aside0 (eW wc wx b vk vu vl vk1 vu1 vl1))
        case first =>
         as_aux_lemma =>
          cases z1
          ·have hz2:¬ (d.p.cHigh≤d.p.nEnd):=by rw[HAI.out];exact of_decide_eq_false HZ1.out
           have E:=bW (show { d.p with nLow:=(a:Int),nHigh:=(n:Int) }=P1 from (aCp hz2 HAI.out (by rw[hds,HN.out])).trans HP1.out);have hTn:=HN.out;clear hz2;go_upto_region 36 with fail
           refine wp_region_still_tail 13 bB bB ?_;change wpStill _ _ wq.drew (fun a'=>wpList _ _ _ _ a' wq.drew) _ _;have hPd:=HPq.out.drew;have hMd:eW wq wq.drew b vk1 vu1 vl1 vk1 vu1 vl1:=eW.of_below ((Below.refl _ _).drew)
           obtain ⟨V,hV⟩:∃ V,wq.drew=V:=⟨_,rfl⟩
           rw[hV] at hPd hMd ⊢;clear hV;have HPd:=bW hPd;have HMd:=bW hMd;have e2:=hPd.row.at 2 _ rfl;rw[HAI.out] at e2;have e0:=hPd.row.at 0 _ rfl;rw[hds] at e0;have e20:=hPd.row.at 20 _ rfl;have e21:=hPd.row.at 21 _ rfl;have f20:=hPd.row.free 20 bG;have f21:=hPd.row.free 21 bG;clear hPd hMd;simp only[List.take_succ_cons,List.take_zero,List.drop_succ_cons,List.drop_zero]
           repeat still_step
           refine wpStill_nil ?_;go_wp2_with fail
           obtain ⟨hpa,hma⟩:=fW HPd.out 20 (.int .i64 (a:Int)) { d.p with nLow:=(a:Int) } u rfl rfl rfl rfl bA;obtain ⟨hpb,hmb⟩:=fW hpa 21 (.int .i64 (n:Int)) { d.p with nLow:=(a:Int),nHigh:=(n:Int) } u rfl rfl rfl rfl bA
           go_meet
           case rel=>exact ⟨rfl,⟨by rw[← E.out];exact hpb⟩,⟨((HMq.out.trans HMd.out).trans hma).trans hmb⟩⟩
          have hz2:d.p.cHigh≤d.p.nEnd:=by rw[HAI.out];exact of_decide_eq_true HZ1.out
          have E:=bW (show { d.p with nLow:=(a:Int),nHigh:=d.p.nEnd }=P1 from (aDw hz2 HAI.out).trans HP1.out);clear hz2;go_upto_region 35 with fail
          refine wp_region_still_tail 12 bB bB ?_;change wpStill _ _ wq.drew (fun a'=>wpList _ _ _ _ a' wq.drew) _ _;have hPd:=HPq.out.drew;have hMd:eW wq wq.drew b vk1 vu1 vl1 vk1 vu1 vl1:=eW.of_below ((Below.refl _ _).drew)
          obtain ⟨V,hV⟩:∃ V,wq.drew=V:=⟨_,rfl⟩
          rw[hV] at hPd hMd ⊢;clear hV;have HPd:=bW hPd;have HMd:=bW hMd;have e2:=hPd.row.at 2 _ rfl;rw[HAI.out] at e2;have e22:=hPd.row.at 22 _ rfl;have e20:=hPd.row.at 20 _ rfl;have e21:=hPd.row.at 21 _ rfl;have f20:=hPd.row.free 20 bG;have f21:=hPd.row.free 21 bG;clear hPd hMd;simp only[List.take_succ_cons,List.take_zero,List.drop_succ_cons,List.drop_zero]
          repeat still_step
          refine wpStill_nil ?_;go_wp2_with fail
          obtain ⟨hpa,hma⟩:=fW HPd.out 20 (.int .i64 (a:Int)) { d.p with nLow:=(a:Int) } u rfl rfl rfl rfl bA;obtain ⟨hpb,hmb⟩:=fW hpa 21 (.int .i64 d.p.nEnd) { d.p with nLow:=(a:Int),nHigh:=d.p.nEnd } u rfl rfl rfl rfl bA
          go_meet
          case rel=>exact ⟨rfl,⟨by rw[← E.out];exact hpb⟩,⟨((HMq.out.trans HMd.out).trans hma).trans hmb⟩⟩
        as_aux_lemma =>
         obtain ⟨rfl,HPa,HMa⟩:=hcut
         obtain ⟨wn,rfl⟩:∃ x,x=wc:=⟨_,rfl⟩
         have hkn:P1.known=d.p.known:=by rw[← HP1.out];rfl
         have h1s:P1.s=T:=by rw[← HP1.out];exact hds
         have h1c:P1.comp=comp:=by rw[← HP1.out];exact HI.out.hc
         have h1n:P1.nLow=(a:Int):=by rw[← HP1.out];exact HAI.out
         have h1h:P1.cHigh=(a:Int):=by rw[← HP1.out];exact HAI.out
         obtain ⟨bh,hbh⟩:=Int.eq_ofNat_of_zero_le (show 0≤P1.nHigh by
          rw[← HP1.out,gD];have:=HI.out.ch;show 0≤(if d.p.cHigh≤d.p.nEnd then d.p.nEnd else (d.p.s.size:Int))
          split <;> omega)
         have hbn:a≤bh∧bh≤n:=by
          have h9:P1.nHigh=(if d.p.cHigh≤d.p.nEnd then d.p.nEnd else (d.p.s.size:Int)):=by rw[← HP1.out];rfl
          rw[hbh,hds,HN.out,HAI.out] at h9;split at h9 <;> omega
         have HPI:=bW (show PathIn P1 by
          have f:=HI.out.fit;rw[HN.out] at f;refine ⟨by rw[h1s,HN.out];omega,fun x hx=>?_,fun x hx=>?_,by rw[hkn];have:=f.kl;omega,?_,?_⟩
          ·rw[h1s,HN.out];exact f.kn x (hkn▸hx)
          ·have hu:P1.unknown=d.p.unknown:=by rw[← HP1.out];rfl
           rw[h1s,HN.out];have:=f.un x (hu▸hx);omega
          ·have hu:P1.unknown=d.p.unknown:=by rw[← HP1.out];rfl
           rw[hu];have:=f.ul;omega
          have hu:P1.plangs=d.p.plangs:=by rw[← HP1.out];rfl
          rw[hu];have:=f.ll;omega)
         have H1S:=bW h1s;have H1C:=bW h1c;have H1N:=bW h1n;have H1H:=bW h1h;have HBH:=bW hbh;clear hkn h1s h1c h1n h1h hbh hds hnel;obtain ⟨A6,c6,hv6⟩:=fL HPa.out.ok
         obtain ⟨m6,hm6⟩:∃ m,P1.known.length=m:=⟨_,rfl⟩
         have HM6:=bW hm6;rw[hm6] at hv6;have h6:=HPa.out.row.at 6 _ rfl;rw[hv6] at h6;have okl:=HPI.out.kl;rw[hm6] at okl
         obtain ⟨z2,hz2⟩:∃ z,decide ((0:Int) < (m6:Int))=z:=⟨_,rfl⟩
         have hz3:decide (0 < m6)=z2:=by rw[← hz2];by_cases c:0 < m6 <;> simp[c]
         have HZ2:=bW hz2;clear hm6 hv6;go_upto_if 169 with fail
         clear hz2 hz3 h6
         go_cut [11] from 170 to 263 (fun s11 wx=>s11 = .int .i64 ((d.sc:Nat):Int)∧Aside0 (eF wx w0.heap.size b (iA (eH st) d.sc P1) vk1 vu1 vl1 u)∧Aside0 (eW wc wx b vk vu vl vk1 vu1 vl1))
         case first =>
          as_aux_lemma =>
           cases z2
           ·have hk:P1.known=[]:=by
             have:=of_decide_eq_false HZ2.out;exact List.eq_nil_of_length_eq_zero (by rw[HM6.out];omega)
            have E:=bW (show iA (eH st) d.sc P1=P1 by unfold iA;rw[if_pos hk]);clear hk;go_wp2_with fail
            go_meet
            case rel=>exact ⟨rfl,⟨by rw[E.out];exact HPa.out⟩,⟨HMa.out⟩⟩
           have hk:P1.known≠[]:=by
            intro h;have:=of_decide_eq_true HZ2.out;have h9:=HM6.out;rw[h] at h9
            simp at h9
            omega
           have HK:=bW hk;have h4:=HPa.out.row.at 4 _ rfl;rw[H1C.out] at h4
           obtain ⟨c1,hc1⟩:∃ c,jS comp=c:=⟨_,rfl⟩
           obtain ⟨c2,hc2⟩:∃ c,kI comp=c:=⟨_,rfl⟩
           have hc1' : (comp.toList==[99,111,110,116,101,110,116])=c1:=hc1;have hc2' : (comp.toList==[97,114,99,104,101,116,121,112,101,115])=c2:=hc2;have HC1:=bW hc1;have HC2:=bW hc2;clear hk hc1 hc2;go_upto_region 38 with fail
           go_cut [17] from 170 to 181 (fun s17 wx=>s17 = .bool (c1 || c2)∧wx=wn)
           case first =>
            cases c1
            ·cases c2
             ·go_wp2_with fail
              go_meet
              case rel=>exact ⟨rfl,rfl⟩
             go_wp2_with fail
             go_meet
             case rel=>exact ⟨rfl,rfl⟩
            go_wp2_with fail
            go_meet
            case rel=>exact ⟨rfl,rfl⟩
           as_aux_lemma =>
            obtain ⟨rfl,rfl⟩:=hcut
            obtain ⟨wq1,rfl⟩:∃ x,x=wc:=⟨_,rfl⟩
            obtain ⟨icc,hicc⟩:∃ c,(c1 || c2)=c:=⟨_,rfl⟩
            rw[hicc];have HICC:=bW hicc;have HPq1:=HPa;clear hicc hc1' hc2' h4
            obtain ⟨ce,hce⟩:∃ c,listed st.cont (fE P1 0)=c:=⟨_,rfl⟩
            have HCE:=bW hce;clear hce;go_upto_region 39 with fail
            go_cut [18] from 182 to 191 (fun s18 wx=>s18 = .bool (icc && ce)∧Aside0 (Below wq1.heap.size wq1 wx))
            case first =>
             as_aux_lemma =>
              cases icc
              ·
               refine hY (n:=11) (S:=fun w'=>True) (ds:=[]) _ bB rfl rfl trivial (fun hHeld=>?_);refine sA1 0 (some 182) sB1 ?_
               refine sA1 1 (some 183) sB1 ?_
               refine sN1 2 (some 184) sO1 ?_
               refine sN1 3 (some 185) sO1 ?_
               refine sN1 4 (some 186) sO1 ?_
               refine sN1 5 (some 187) sO1 ?_
               refine sN1 6 (some 188) sO1 ?_
               refine sN1 7 (some 189) sO1 ?_
               refine sN1 8 (some 190) sO1 ?_
               refine sA1 9 (some 191) sB1 ?_
               refine sA1 10 (some 18) sB1 ?_
               refine iK bB ?_;go_wp2_with fail
               go_meet
               case rel=>exact ⟨rfl,⟨(Below.refl _ _).drew⟩⟩
              have hSc:=HS.out.below (HB6.out.trans (eW.below HP6.out HMa.out));have s3:=hSc.row.at 3 _ rfl;have HSc:=bW hSc;clear hSc;refine hY (n:=11) (S:=fun w'=>w'.cell? ⟨pb,3,none⟩=some (.func (.func 65) #[] #[.pointer (some ⟨fb,0,none⟩),.pointer (some ⟨sb,0,none⟩)])) (ds:=[]) _ bB rfl rfl (s3) (fun hHeld=>?_);refine sA1 0 (some 182) sB1 ?_
              refine sA1 1 (some 183) sB1 ?_
              refine sA1 2 (some 184) sB1 ?_
              refine sA1 3 (some 185) sB1 ?_
              refine sA1 4 (some 186) sB1 ?_
              refine sA1 6 (some 188) sB1 ?_
              refine sC1 5 (some 187) sK1 ?_
              refine sF1 7 (some 189) sG1 (fun K hK=>?_);refine lA Tryz.func85 bB rfl #[.pointer (some ⟨b,0,none⟩)] bH rfl rfl bI ?_
              with_reducible refine (xZ HPq1.out.drew HPI.out).mono ?_
              rintro e wE ⟨rfl,hbE⟩;refine ⟨_,rfl,?_⟩;have sE:=(hbE.cell (p:=⟨pb,3,none⟩) (World.block_lt_of_cell? wq1 ⟨pb,3,none⟩ s3)).trans s3;have HBE:=bW hbE;refine hK.out _ _ (sE) (fun hHeld=>?_);clear hK K;refine gJ sJ1 ?_
              refine sF1 8 (some 190) sG1 (fun K hK=>?_);refine aGk #[.pointer (some ⟨fb,0,none⟩),.pointer (some ⟨sb,0,none⟩)] Tryz.func65 bB rfl #[.string (fE P1 0)] bH rfl rfl bH bI ?_;have hSE:=HSc.out.below (eA ((Below.refl _ _).drew) HBE.out);have cF:=uS hSE.site OS hSE.has (fE P1 0);rw[HCE.out] at cF;refine cF.mono ?_;rintro e wF ⟨rfl,rfl⟩;refine ⟨_,rfl,?_⟩;refine hK.out _ _ (sE) (fun hHeld=>?_);clear hK K;refine gJ sJ1 ?_
              refine sA1 9 (some 191) sB1 ?_
              refine sA1 10 (some 18) sB1 ?_
              refine iK bB ?_;have hbT:Below wq1.heap.size wq1 wF:=eA ((Below.refl _ _).drew) HBE.out;have HBT:=bW hbT;clear s3 sE hbT;go_wp2_with fail
              go_meet
              case rel=>exact ⟨by cases ce <;> rfl,HBT⟩
            as_aux_lemma =>
             obtain ⟨rfl,HBT⟩:=hcut
             obtain ⟨wp,rfl⟩:∃ x,x=wc:=⟨_,rfl⟩
             obtain ⟨isc,hisc⟩:∃ c,(icc && ce)=c:=⟨_,rfl⟩
             rw[hisc];have HISC:=bW (show ((jS P1.comp || kI P1.comp) && (eH st).cont (fE P1 0))=isc by rw[H1C.out,HC1.out,HC2.out,HICC.out,← hisc];show (icc && listed st.cont (fE P1 0))=_;rw[HCE.out]);have HPp:=bW (HPq1.out.below HBT.out);have HMp:=bW (HMa.out.trans (eW.of_below (b:=b) (vk:=vk1) (vu:=vu1) (vl:=vl1) HBT.out));clear hisc;have k20:=HPp.out.row.at 20 _ rfl;rw[H1N.out] at k20;have k21:=HPp.out.row.at 21 _ rfl;rw[HBH.out] at k21;have k2:=HPp.out.row.at 2 _ rfl;rw[H1H.out] at k2;have g1:decide ((a:Int)≤(a:Int))=true:=decide_eq_true (Int.le_refl _)
             obtain ⟨z4,hz4⟩:∃ z,decide ((a:Int) < (bh:Int))=z:=⟨_,rfl⟩
             have hz4' : decide (a < bh)=z4:=by rw[← hz4];by_cases c:a < bh <;> simp[c]
             have HZ4:=bW hz4;go_upto_region 40 with fail
             go_quiet (fail)
             have hdq:Below wp.heap.size wp (wp.drewN nq):=eV.below ⟨nq,rfl⟩;have hPq:=HPp.out.below hdq;have hMq:=HMp.out.trans (eW.of_below (b:=b) (vk:=vk1) (vu:=vu1) (vl:=vl1) hdq)
             obtain ⟨wq2,hWq⟩:∃ x,wp.drewN nq=x:=⟨_,rfl⟩
             rw[hWq] at hPq hMq ⊢;have HPq2:=bW hPq;have HMq2:=bW hMq;clear hWq hdq hPq hMq;clear k20 k21 k2 g1;go_upto_if 214 with fail
             clear hz4 hz4';cases z4
             ·have h9:¬ (P1.nLow < P1.nHigh):=by rw[H1N.out,HBH.out];exact of_decide_eq_false HZ4.out
              have E:=bW (show iA (eH st) d.sc P1=P1 by unfold iA;rw[if_neg HK.out];simp only;rw[if_neg h9]);clear h9;go_wp2_with fail
              go_meet
              case rel=>exact ⟨rfl,⟨by rw[E.out];exact HPq2.out⟩,⟨HMq2.out⟩⟩
             as_aux_lemma =>
             have HLT:=bW (show P1.nLow < P1.nHigh by rw[H1N.out,HBH.out];exact of_decide_eq_true HZ4.out);have k0:=HPq2.out.row.at 0 _ rfl;rw[H1S.out] at k0;have k20:=HPq2.out.row.at 20 _ rfl;rw[H1N.out] at k20;have k21:=HPq2.out.row.at 21 _ rfl;rw[HBH.out] at k21;have g1:(0:Int)≤(a:Int):=by omega
             have g2:(a:Int)≤(bh:Int):=by omega
             have g3:(bh:Int)≤(n:Int):=by omega
             have hTn:=HN.out;go_upto_region 41 with fail
             go_quiet (fail)
             have hdq:Below wq2.heap.size wq2 (wq2.drewN nq):=eV.below ⟨nq,rfl⟩;have hPq:=HPq2.out.below hdq;have hMq:=HMq2.out.trans (eW.of_below (b:=b) (vk:=vk1) (vu:=vu1) (vl:=vl1) hdq)
             obtain ⟨wq3,hWq⟩:∃ x,wq2.drewN nq=x:=⟨_,rfl⟩
             rw[hWq] at hPq hMq ⊢;have HPq3:=bW hPq;have HMq3:=bW hMq;clear hWq hdq hPq hMq
             obtain ⟨nm,hnm⟩:∃ x,T.extract a bh=x:=⟨_,rfl⟩
             rw[hnm];have HNM:=bW (show (sub P1.s P1.nLow P1.nHigh)=nm by rw[H1S.out,H1N.out,HBH.out,iW];exact hnm);clear hnm k0 k20 k21 g1 g2 g3 hTn;cases isc
             ·obtain ⟨t9,ht9⟩:∃ t,(nm.toList==[95,99,111,110,116,101,110,116])=t:=⟨_,rfl⟩
              have HT9:=bW ht9;cases t9
              ·have E:=bW (show P1=iA (eH st) d.sc P1 from wR HK.out HLT.out HISC.out (fun h=>by have h9:=HT9.out;rw[← HNM.out,h.1] at h9;cases h9));go_wp2_with fail
               go_meet
               case rel=>exact ⟨rfl,⟨by rw[← E.out];exact HPq3.out⟩,⟨HMq3.out⟩⟩
              have HBC:=bW (show (sub P1.s P1.nLow P1.nHigh).toList=lH by rw[HNM.out];simpa [lH] using HT9.out);have ce1:=xZ HPq3.out HPI.out;go_wp2_with fail
              refine ce1.mono ?_;rintro e w6 ⟨rfl,hb6⟩;have HPe:=bW (HPq3.out.below hb6);have HMe:=bW (HMq3.out.trans (eW.of_below (b:=b) (vk:=vk1) (vu:=vu1) (vl:=vl1) hb6));clear ce1 hb6
              obtain ⟨g9,hg9⟩:∃ g,((fE P1 0).toList==([103,111,116,109,112,108]:List UInt8))=g:=⟨_,rfl⟩
              have HG9:=bW hg9;have cd:=hZ.calls (fE P1 0) g9 w6 (by unfold hZ.f kY.f;rw[hg9];rfl);clear hg9;go_wp2_with fail
              refine cd.mono ?_;rintro e w7 ⟨rfl,hd7⟩;have HPf:=bW (HPe.out.below hd7.below);have HMf:=bW (HMe.out.trans (eW.of_below (b:=b) (vk:=vk1) (vu:=vu1) (vl:=vl1) hd7.below));clear cd hd7;cases g9
              ·have E:=bW (show P1=iA (eH st) d.sc P1 from wR HK.out HLT.out HISC.out (fun h=>by have h9:=HG9.out;rw[h.2] at h9;cases h9));go_wp2_with fail
               go_meet
               case rel=>exact ⟨rfl,⟨by rw[← E.out];exact HPf.out⟩,⟨HMf.out⟩⟩
              have E:=bW (show { P1 with typ:=5 }=iA (eH st) d.sc P1 from aD2 HK.out HLT.out HISC.out HBC.out (by simpa [mT] using HG9.out));have k5:=HPf.out.row.at 5 _ rfl;have f5:=HPf.out.row.free 5 bG;go_wp2_with fail
              obtain ⟨hpa,hma⟩:=fW HPf.out 5 (.int .i64 5) { P1 with typ:=5 } u rfl rfl rfl rfl bA
              go_meet
              case rel=>exact ⟨rfl,⟨dS⟩,⟨HMf.out.trans hma⟩⟩
             obtain ⟨s2,hs2⟩:∃ x,(d.sc==2)=x:=⟨_,rfl⟩
             have HS2:=bW hs2;have hs2' : ((d.sc:Int)==2)=s2:=by rw[← hs2,Bool.eq_iff_iff,beq_iff_eq,beq_iff_eq];omega
             obtain ⟨i1,hi1⟩:∃ x,(nm.toList==[105,110,100,101,120])=x:=⟨_,rfl⟩
             have HI1:=bW hi1
             obtain ⟨i2,hi2⟩:∃ x,(nm.toList==[95,105,110,100,101,120])=x:=⟨_,rfl⟩
             have HI2:=bW hi2;cases i1
             ·cases i2
              ·have HBB:=bW (show (sub P1.s P1.nLow P1.nHigh).toList≠nR by rw[HNM.out];intro h;have h9:=HI1.out;rw[h] at h9;cases h9);have HB2:=bW (show (sub P1.s P1.nLow P1.nHigh).toList≠mU by rw[HNM.out];intro h;have h9:=HI2.out;rw[h] at h9;cases h9);cases s2
               ·have hsn:(d.sc==2)=false:=HS2.out;have E:=bW (show { P1 with typ:=2 }=iA (eH st) d.sc P1 from tW HK.out HLT.out HISC.out HBB.out HB2.out);clear hsn;have k5:=HPq3.out.row.at 5 _ rfl;have f5:=HPq3.out.row.free 5 bG;go_wp2_with fail
                obtain ⟨hpa,hma⟩:=fW HPq3.out 5 (.int .i64 2) { P1 with typ:=2 } u rfl rfl rfl rfl bA
                go_meet
                case rel=>exact ⟨rfl,⟨dS⟩,⟨HMq3.out.trans hma⟩⟩
               have hsn:(d.sc==2)=true:=HS2.out;have E:=bW (show { P1 with typ:=2 }=iA (eH st) d.sc P1 from tW HK.out HLT.out HISC.out HBB.out HB2.out);clear hsn;have k5:=HPq3.out.row.at 5 _ rfl;have f5:=HPq3.out.row.free 5 bG;have k3:=HPq3.out.row.at 3 _ rfl;have f3:=HPq3.out.row.free 3 bG;go_wp2_with fail
               obtain ⟨hpa,hma⟩:=fW HPq3.out 5 (.int .i64 2) { P1 with typ:=2 } u rfl rfl rfl rfl bA;have cl:=mW hpa;rw[show (({ P1 with typ:=2 }:eE).typ==3)=false from rfl] at cl;refine cl.mono ?_;rintro e w6 ⟨rfl,rfl⟩;clear cl;go_wp2_with fail
               go_meet
               case rel=>exact ⟨rfl,⟨dS⟩,⟨HMq3.out.trans hma⟩⟩
              have HBB:=bW (show (sub P1.s P1.nLow P1.nHigh).toList=mU by rw[HNM.out];simpa [mU] using HI2.out);cases s2
              ·have hsn:(d.sc==2)=false:=HS2.out;have E:=bW (show { P1 with typ:=4 }=iA (eH st) d.sc P1 from tX HK.out HLT.out HISC.out HBB.out);clear hsn;have k5:=HPq3.out.row.at 5 _ rfl;have f5:=HPq3.out.row.free 5 bG;go_wp2_with fail
               obtain ⟨hpa,hma⟩:=fW HPq3.out 5 (.int .i64 4) { P1 with typ:=4 } u rfl rfl rfl rfl bA
               go_meet
               case rel=>exact ⟨rfl,⟨dS⟩,⟨HMq3.out.trans hma⟩⟩
              have hsn:(d.sc==2)=true:=HS2.out;have E:=bW (show { P1 with typ:=4 }=iA (eH st) d.sc P1 from tX HK.out HLT.out HISC.out HBB.out);clear hsn;have k5:=HPq3.out.row.at 5 _ rfl;have f5:=HPq3.out.row.free 5 bG;have k3:=HPq3.out.row.at 3 _ rfl;have f3:=HPq3.out.row.free 3 bG;go_wp2_with fail
              obtain ⟨hpa,hma⟩:=fW HPq3.out 5 (.int .i64 4) { P1 with typ:=4 } u rfl rfl rfl rfl bA;have cl:=mW hpa;rw[show (({ P1 with typ:=4 }:eE).typ==3)=false from rfl] at cl;refine cl.mono ?_;rintro e w6 ⟨rfl,rfl⟩;clear cl;go_wp2_with fail
              go_meet
              case rel=>exact ⟨rfl,⟨dS⟩,⟨HMq3.out.trans hma⟩⟩
             have HBB:=bW (show (sub P1.s P1.nLow P1.nHigh).toList=nR by rw[HNM.out];simpa [nR] using HI1.out);cases s2
             ·have hsn:(d.sc==2)=false:=HS2.out
              have E:=bW (show { P1 with typ:=3 }=iA (eH st) d.sc P1 by
               rw[← uZ HK.out HLT.out HISC.out HBB.out]
               rw[if_neg (by simpa using hsn)])
              clear hsn;have k5:=HPq3.out.row.at 5 _ rfl;have f5:=HPq3.out.row.free 5 bG;go_wp2_with fail
              obtain ⟨hpa,hma⟩:=fW HPq3.out 5 (.int .i64 3) { P1 with typ:=3 } u rfl rfl rfl rfl bA
              go_meet
              case rel=>exact ⟨rfl,⟨dS⟩,⟨HMq3.out.trans hma⟩⟩
             have hsn:(d.sc==2)=true:=HS2.out
             have E:=bW (show { P1 with typ:=3,sec:=0 }=iA (eH st) d.sc P1 by
              rw[← uZ HK.out HLT.out HISC.out HBB.out]
              rw[if_pos (by simpa using hsn)])
             clear hsn;have k5:=HPq3.out.row.at 5 _ rfl;have f5:=HPq3.out.row.free 5 bG;have k3:=HPq3.out.row.at 3 _ rfl;have f3:=HPq3.out.row.free 3 bG;go_wp2_with fail
             obtain ⟨hpa,hma⟩:=fW HPq3.out 5 (.int .i64 3) { P1 with typ:=3 } u rfl rfl rfl rfl bA;have cl:=mW hpa;rw[show (({ P1 with typ:=3 }:eE).typ==3)=true from rfl] at cl;refine cl.mono ?_;rintro e w6 ⟨rfl,rfl⟩;clear cl;go_wp2_with fail
             obtain ⟨hpb,hmb⟩:=fW hpa 3 (.int .i64 0) { P1 with typ:=3,sec:=0 } u rfl rfl rfl rfl bA
             go_meet
             case rel=>exact ⟨rfl,⟨by rw[← E.out];exact hpb⟩,⟨(HMq3.out.trans hma).trans hmb⟩⟩
         as_aux_lemma =>
          -- TAIL4
          obtain ⟨rfl,HPb,HMb⟩:=hcut
          obtain ⟨wk,rfl⟩:∃ x,x=wc:=⟨_,rfl⟩
          obtain ⟨P2,hP2⟩:∃ P,iA (eH st) d.sc P1=P:=⟨_,rfl⟩
          rw[hP2] at HPb;obtain ⟨ty2,se2,hps2⟩:=wS (eH st) d.sc P1;rw[hP2] at hps2;have h2s:P2.s=T:=by rw[hps2];exact H1S.out
          have h2h:P2.cHigh=(a:Int):=by rw[hps2];exact H1H.out
          have h2k:P2.known=d.p.known:=by rw[hps2,← HP1.out];rfl
          have h2y:P2.lay=d.p.lay:=by rw[hps2,← HP1.out];rfl
          have h2t:P2.trim=false:=by rw[hps2,← HP1.out];exact HI.out.ht
          have HP2E:=bW hP2;have H2S:=bW h2s;have H2H:=bW h2h;have H2K:=bW h2k;have H2Y:=bW h2y;have H2T:=bW h2t;clear hP2 hps2 h2s h2h h2k h2y h2t;have k5:=HPb.out.row.at 5 _ rfl
          obtain ⟨l1,hl1⟩:∃ z,decide (P2.typ < 6)=z:=⟨_,rfl⟩
          have HL1:=bW hl1
          obtain ⟨lay,hlay⟩:∃ z,eO comp=z:=⟨_,rfl⟩
          have hlay' : (comp.toList==[108,97,121,111,117,116,115])=lay:=hlay;have HLAY:=bW hlay;clear hlay;go_upto_region 53 with fail
          go_cut [272] from 264 to 272 (fun s wx=>s = .bool (l1 && lay)∧wx=wk)
          case first =>
           cases l1
           ·go_wp2_with fail
            go_meet
            case rel=>exact ⟨rfl,rfl⟩
           go_wp2_with fail
           go_meet
           case rel=>exact ⟨rfl,rfl⟩
          as_aux_lemma =>
           obtain ⟨rfl,rfl⟩:=hcut
           obtain ⟨wl,rfl⟩:∃ x,x=wc:=⟨_,rfl⟩
           obtain ⟨ll,hll⟩:∃ z,(l1 && lay)=z:=⟨_,rfl⟩
           rw[hll];have HLL:=bW (show (decide (P2.typ < 6) && eO comp)=ll by rw[HL1.out,HLAY.out];exact hll);clear hll hl1 hlay' k5;go_upto_if 272 with fail
           go_cut [11] from 273 to 297 (fun s11 wx=>s11 = .int .i64 ((d.sc:Nat):Int)∧Aside0 (eF wx w0.heap.size b (kQ comp P2) vk1 vu1 vl1 u)∧Aside0 (eW wc wx b vk vu vl vk1 vu1 vl1))
           case first =>
            as_aux_lemma =>
             cases ll
             ·have E:=bW (aGo HLL.out);go_wp2_with fail
              go_meet
              case rel=>exact ⟨rfl,⟨by rw[← E.out];exact HPb.out⟩,⟨HMb.out⟩⟩
             have k12:=HPb.out.row.at 12 _ rfl
             obtain ⟨bz,hbz⟩:∃ z,(P2.base != -1)=z:=⟨_,rfl⟩
             have HBZ:=bW hbz;go_upto_if 277 with fail
             clear hbz k12;have HPc:=HPb;have HMc:=HMb;cases bz
             ·have cpt:=qP HPc.out;have HNR:=bW (show nrm P2.trim P2.s=T by rw[H2T.out,H2S.out];rfl);rw[HNR.out] at cpt
              obtain ⟨ys,hys⟩:∃ z,eY (L T) fS=z:=⟨_,rfl⟩
              obtain ⟨kcs,hkcs⟩:=(sH T ⟨#[47,95,115,104,111,114,116,99,111,100,101,115,47]⟩ (by rw[HN.out];omega) bF).rounds;rw[show L (⟨#[47,95,115,104,111,114,116,99,111,100,101,115,47]⟩:ByteArray)=fS from rfl,hys] at hkcs;have HKs:=bW hkcs;have HYS:=bW hys
              obtain ⟨ym,hym⟩:∃ z,eY (L T) jV=z:=⟨_,rfl⟩
              obtain ⟨kcm,hkcm⟩:=(sH T ⟨#[47,95,109,97,114,107,117,112,47]⟩ (by rw[HN.out];omega) bF).rounds;rw[show L (⟨#[47,95,109,97,114,107,117,112,47]⟩:ByteArray)=jV from rfl,hym] at hkcm;have HKm:=bW hkcm;have HYM:=bW hym
              obtain ⟨yp,hyp⟩:∃ z,jC.isPrefixOf (L T)=z:=⟨_,rfl⟩
              have HYP:=bW hyp;clear hkcs hys hkcm hym hyp;go_wp2_with fail
              refine cpt.mono ?_;rintro e w6 ⟨rfl,rfl⟩;clear cpt;have ccs:=gS.calls kcs T ⟨#[47,95,115,104,111,114,116,99,111,100,101,115,47]⟩ ys w6 HKs.out;go_wp2_with fail
              refine ccs.mono ?_;rintro e ws ⟨rfl,hd⟩;have HPds:=bW (HPc.out.below hd.below);have HMds:=bW (HMc.out.trans (eW.of_below (b:=b) (vk:=vk1) (vu:=vu1) (vl:=vl1) hd.below));have HPc:=HPds;have HMc:=HMds;clear ccs hd;cases ys
              ·have ccm:=gS.calls kcm T ⟨#[47,95,109,97,114,107,117,112,47]⟩ ym ws HKm.out;go_wp2_with fail
               refine ccm.mono ?_;rintro e wm ⟨rfl,hd⟩;have HPdm:=bW (HPc.out.below hd.below);have HMdm:=bW (HMc.out.trans (eW.of_below (b:=b) (vk:=vk1) (vu:=vu1) (vl:=vl1) hd.below));have HPc:=HPdm;have HMc:=HMdm;clear ccm hd;cases ym
               ·have cp:=Tryz.strings_HasPrefix T ⟨#[47,95,112,97,114,116,105,97,108,115,47]⟩ wm;rw[show Lib.hasPrefix T.data.toList (⟨#[47,95,112,97,114,116,105,97,108,115,47]⟩:ByteArray).data.toList=yp from HYP.out] at cp;go_wp2_with fail
                refine cp.mono ?_;rintro e w9 ⟨rfl,rfl⟩;clear cp;cases yp
                ·have E:=bW (show P2=kQ comp P2 by rw[qC HLL.out HBZ.out HNR.out,HYS.out,HYM.out,HYP.out];rfl);go_wp2_with fail
                 go_meet
                 case rel=>exact ⟨rfl,⟨by rw[← E.out];exact HPc.out⟩,⟨HMc.out⟩⟩
                have E:=bW (show { P2 with typ:=8 }=kQ comp P2 by rw[qC HLL.out HBZ.out HNR.out,HYS.out,HYM.out,HYP.out];rfl);have k5:=HPc.out.row.at 5 _ rfl;have f5:=HPc.out.row.free 5 bG;go_wp2_with fail
                obtain ⟨hpa,hma⟩:=fW HPc.out 5 (.int .i64 8) { P2 with typ:=8 } u rfl rfl rfl rfl bA
                go_meet
                case rel=>exact ⟨rfl,⟨dS⟩,⟨HMc.out.trans hma⟩⟩
               have E:=bW (show { P2 with typ:=6 }=kQ comp P2 by rw[qC HLL.out HBZ.out HNR.out,HYS.out,HYM.out];rfl);have k5:=HPc.out.row.at 5 _ rfl;have f5:=HPc.out.row.free 5 bG;go_wp2_with fail
               obtain ⟨hpa,hma⟩:=fW HPc.out 5 (.int .i64 6) { P2 with typ:=6 } u rfl rfl rfl rfl bA
               go_meet
               case rel=>exact ⟨rfl,⟨dS⟩,⟨HMc.out.trans hma⟩⟩
              have E:=bW (show { P2 with typ:=7 }=kQ comp P2 by rw[qC HLL.out HBZ.out HNR.out,HYS.out];rfl);have k5:=HPc.out.row.at 5 _ rfl;have f5:=HPc.out.row.free 5 bG;go_wp2_with fail
              obtain ⟨hpa,hma⟩:=fW HPc.out 5 (.int .i64 7) { P2 with typ:=7 } u rfl rfl rfl rfl bA
              go_meet
              case rel=>exact ⟨rfl,⟨dS⟩,⟨HMc.out.trans hma⟩⟩
             have E:=bW (aD3 HLL.out HBZ.out);have k5:=HPc.out.row.at 5 _ rfl;have f5:=HPc.out.row.free 5 bG;go_wp2_with fail
             obtain ⟨hpa,hma⟩:=fW HPc.out 5 (.int .i64 9) { P2 with typ:=9 } u rfl rfl rfl rfl bA
             go_meet
             case rel=>exact ⟨rfl,⟨dS⟩,⟨HMc.out.trans hma⟩⟩
           as_aux_lemma =>
            obtain ⟨rfl,HPd,HMd⟩:=hcut
            obtain ⟨wy,rfl⟩:∃ x,x=wc:=⟨_,rfl⟩
            obtain ⟨P3,hP3⟩:∃ P,kQ comp P2=P:=⟨_,rfl⟩
            rw[hP3] at HPd;obtain ⟨ty3,hps3⟩:=wT comp P2;rw[hP3] at hps3;have H3H:=bW (show P3.cHigh=(a:Int) by rw[hps3];exact H2H.out);have H3K:=bW (show P3.known=d.p.known by rw[hps3];exact H2K.out);have H3Y:=bW (show P3.lay=d.p.lay by rw[hps3];exact H2Y.out);have HP3E:=bW hP3;clear hP3 hps3;have k5:=HPd.out.row.at 5 _ rfl;have k11:=HPd.out.row.at 11 _ rfl
            obtain ⟨s1,hs1⟩:∃ z,(P3.typ==7)=z:=⟨_,rfl⟩
            have HS1:=bW hs1
            obtain ⟨lz,hlz⟩:∃ z,(P3.lay != -1)=z:=⟨_,rfl⟩
            have HLZ:=bW hlz;go_upto_region 63 with fail
            go_cut [309] from 298 to 309 (fun s wx=>s = .bool (s1 && lz)∧wx=wy)
            case first =>
             cases s1
             ·go_wp2_with fail
              go_meet
              case rel=>exact ⟨rfl,rfl⟩
             go_wp2_with fail
             go_meet
             case rel=>exact ⟨rfl,rfl⟩
            as_aux_lemma =>
             obtain ⟨rfl,rfl⟩:=hcut
             obtain ⟨wy,rfl⟩:∃ x,x=wc:=⟨_,rfl⟩
             obtain ⟨sl2,hsl2⟩:∃ z,(s1 && lz)=z:=⟨_,rfl⟩
             rw[hsl2];have HSL:=bW (show ((P3.typ==7) && (P3.lay != -1))=sl2 by rw[HS1.out,HLZ.out];exact hsl2);clear hsl2 hs1 hlz k5 k11;go_upto_if 309 with fail
             go_cut [11] from 310 to 329 (fun s11 wx=>s11 = .int .i64 ((d.sc:Nat):Int)∧Aside0 (eF wx w0.heap.size b (lP P3) vk1 vu1 vl1 u)∧Aside0 (eW wc wx b vk vu vl vk1 vu1 vl1))
             case first =>
              as_aux_lemma =>
               cases sl2
               ·have E:=bW (aGp HSL.out);go_wp2_with fail
                go_meet
                case rel=>exact ⟨rfl,⟨by rw[← E.out];exact HPd.out⟩,⟨HMd.out⟩⟩
               have hly:=HI.out.fit.ly
               have hne:P3.lay≠-1:=by
                have h9:=HSL.out;simp only[Bool.and_eq_true,bne_iff_ne] at h9;exact h9.2
               rw[H3Y.out] at hne;obtain ⟨j,hj⟩:=Int.eq_ofNat_of_zero_le (show 0≤d.p.lay by omega);obtain ⟨x,hx⟩:∃ x,P3.known[j]? = some x:=by rw[H3K.out];exact ⟨_,List.getElem?_eq_getElem bA⟩
               obtain ⟨g,cp,hv2,k1,k2⟩:=HPd.out.knownAt j x hx;have hm6:P3.known.length=m6:=by rw[H3K.out,← HM6.out,← HP1.out];rfl
               rw[hm6] at hv2;have hjm:j < m6:=by rw[← hm6];exact (List.getElem?_eq_some_iff.1 hx).1
               have k6:=HPd.out.row.at 6 _ rfl;rw[hv2] at k6;have k11:=HPd.out.row.at 11 _ rfl;rw[H3Y.out,hj] at k11;have HJ:=bW (show P3.lay=(j:Int) by rw[H3Y.out];exact hj);have HX:=bW hx;have hj1:(0:Int)≤(j:Int):=by omega
               have hj2:(j:Int) < (m6:Int):=by omega
               obtain ⟨c6,rfl⟩:∃ y,y=cp:=⟨_,rfl⟩
               clear hly hne hj hx hv2 hm6;go_upto_region 64 with fail
               refine hY (n:=12) (S:=fun w'=>w'.cell? ⟨b,6,none⟩=some (Value.slice (some ⟨g,0,none⟩) m6 c6)∧w'.cell? ⟨b,11,none⟩=some (.int .i64 j)∧w'.cell? ⟨g,j * 2,none⟩=some (.int .i64 x.1)∧w'.cell? ⟨g,j * 2+1,none⟩=some (.int .i64 x.2)) (ds:=[11]) _ bB rfl rfl ⟨k6,k11,k1,k2⟩ (fun hHeld=>?_);refine sA1 0 (some 310) sB1 ?_
               refine sA1 1 (some 311) sB1 ?_
               refine sA1 2 (some 312) sB1 ?_
               refine sA1 4 (some 314) sB1 ?_
               refine sA1 5 (some 315) sB1 ?_
               refine sA1 6 (some 316) sB1 ?_
               refine sC1 3 (some 313) sP1 ?_
               refine sC1 7 (some 317) sP1 ?_
               refine sA1 8 (some 318) sB1 ?_
               refine sC1 9 (some 319) sP1 ?_
               refine sF1 10 (some 21) sG1 (fun K hK=>?_);refine kT (w1:=?_) (v:=?_) bH rfl ?_ ?_;rotate_left 2
               ·go_simp;constructor
                ·rfl
                rfl
               have hal:Below wy.heap.size wy (wy.drew.alloc _):=(Below.refl _ _).drew.alloc (Nat.le_refl _) (.cells #[.int .i64 0,.int .i64 0] 78);refine hK.out _ _ ⟨((hal.cell (p:=⟨b,6,none⟩) (World.block_lt_of_cell? wy ⟨b,6,none⟩ k6)).trans k6),((hal.cell (p:=⟨b,11,none⟩) (World.block_lt_of_cell? wy ⟨b,11,none⟩ k11)).trans k11),((hal.cell (p:=⟨g,j * 2,none⟩) (World.block_lt_of_cell? wy ⟨g,j * 2,none⟩ k1)).trans k1),((hal.cell (p:=⟨g,j * 2+1,none⟩) (World.block_lt_of_cell? wy ⟨g,j * 2+1,none⟩ k2)).trans k2)⟩ (fun hHeld=>?_);clear hK K;refine gJ sJ1 ?_
               refine sH1 11 none sI1 (fun K hK=>?_);refine iO (w1:=?_) bH rfl ?_ ?_;rotate_left
               ·go_simp;rfl
               refine hK.out _ _ ?_;clear hK K;refine iK bB ?_;have hB8:Below wy.heap.size wy ((wy.alloc (.cells #[.int .i64 x.1,.int .i64 x.2] 78)).drew):=((Below.refl _ _).alloc (Nat.le_refl _) _).drew;have hR8:Row ((wy.alloc (.cells #[.int .i64 x.1,.int .i64 x.2] 78)).drew) wy.heap.size [.int .i64 x.1,.int .i64 x.2]:=(Row.new wy [.int .i64 x.1,.int .i64 x.2] 78).step rfl
               obtain ⟨W8,hW8⟩:∃ W,(wy.alloc (.cells #[.int .i64 x.1,.int .i64 x.2] 78)).drew=W:=⟨_,rfl⟩
               rw[hW8] at hB8 hR8 ⊢;have HP8:=bW (HPd.out.below hB8);have HM8:=bW (HMd.out.trans (eW.of_below (b:=b) (vk:=vk1) (vu:=vu1) (vl:=vl1) hB8));have n0:=hR8.at 0 _ rfl;clear k1 k2 k6 k11 hB8 hR8 hW8 hal;have k2:=HP8.out.row.at 2 _ rfl;rw[H3H.out] at k2
               obtain ⟨e8,he8⟩:∃ z,(x.1==(a:Int))=z:=⟨_,rfl⟩
               have HE8:=bW he8;go_upto_region 65 with fail
               go_quiet (fail)
               have hdq:Below W8.heap.size W8 (W8.drewN nq):=eV.below ⟨nq,rfl⟩;have hPq:=HP8.out.below hdq;have hMq:=HM8.out.trans (eW.of_below (b:=b) (vk:=vk1) (vu:=vu1) (vl:=vl1) hdq)
               obtain ⟨W9,hWq⟩:∃ x,W8.drewN nq=x:=⟨_,rfl⟩
               rw[hWq] at hPq hMq ⊢;have HP9:=bW hPq;have HM9:=bW hMq;clear hWq hdq hPq hMq;clear n0 k2;cases e8
               ·have E:=bW (show P3=lP P3 by
                 rw[aAq HSL.out HJ.out HX.out,if_neg];rw[H3H.out]
                 exact beq_eq_false_iff_ne.1 HE8.out)
                go_wp2_with fail
                go_meet
                case rel=>exact ⟨rfl,⟨by rw[← E.out];exact HP9.out⟩,⟨HM9.out⟩⟩
               have E:=bW (show { P3 with lay:=-1 }=lP P3 by
                rw[aAq HSL.out HJ.out HX.out,if_pos];rw[H3H.out]
                exact beq_iff_eq.1 HE8.out)
               have k11:=HP9.out.row.at 11 _ rfl;have f11:=HP9.out.row.free 11 bG;go_wp2_with fail
               obtain ⟨hpa,hma⟩:=fW HP9.out 11 (.int .i64 (-1)) { P3 with lay:=-1 } u rfl rfl rfl rfl bA
               go_meet
               case rel=>exact ⟨rfl,⟨dS⟩,⟨HM9.out.trans hma⟩⟩
             obtain ⟨rfl,HPz,HMz⟩:=hcut;go_wp2_with fail
             refine bodyPost_ret (results_tmp2 bH _ _ _) rfl ⟨rfl,vk1,vu1,vl1,?_,HM0.out.trans HMz.out⟩
             have e9:lP P3=mDo (eH st) comp s { fM with comp:=comp }:=by
              rw[← HP3E.out,← HP2E.out,← HP1.out,HD3.out,← HD.out,← HP1V.out,← HT.out];rfl
             rw[← e9];exact HPz.out
end
end Go.Proofs.YtlkoeeccebmjmaaGreatDoor.Path
