/- Texts that the law leans on: Id1. Condition: as told at each. -/
import Derived.StillTailTactics
import Derived.Test.YtlkoeeccebmjmaaGreatDoorXa
import Derived.Test.YtlkoeeccebmjmaaGreatDoorX5
set_option linter.unusedVariables false
set_option linter.unusedSimpArgs false
set_option maxRecDepth 100000
set_option maxHeartbeats 16000000
namespace Go.Proofs.YtlkoeeccebmjmaaGreatDoor.Path
open Go.RowKit Go.WideMaps Go.ZW.PrintWords Go.ZW.PrintLast Go.Proofs.YtlkoeeccebmjmaaGreatDoor.Base
theorem pY (s:ByteArray) (a b:Nat) (h:asc s):asc (s.extract a b):=by
 intro j c hc;have e:(s.extract a b).data.toList=(s.data.toList.drop a).take (b - a):=eN s a b;rw[e,List.getElem?_take] at hc;split at hc
 ·rw[List.getElem?_drop] at hc;exact h _ _ hc
 cases hc
theorem wZ:∀ (ps:List ByteArray) (l:List UInt8),(lR ps l).size≤l.length
 | [],l=>Nat.zero_le _
 | p::r,l=>by
  unfold lR;split
  ·rename_i h
   have:=(List.isPrefixOf_iff_prefix.1 (show List.isPrefixOf p.data.toList l=true from h)).length_le
   simpa using this
  exact wZ r l
theorem aD8 (s:ByteArray):(iF s).size≤s.size:=by
 have h:=wZ kU (Lib.toLowerA (L s));have e:(Lib.toLowerA (L s)).length=s.size:=by show (List.map _ _).length=_;rw[List.length_map,eD]
 rw[e] at h;exact h
theorem aHa {s:ByteArray} {a b c d:Nat} (h:asc (s.extract a b)) (h1:a≤c) (h2:d≤b):asc (s.extract c d):=by
 intro j x hx;have e1:(s.extract c d).data.toList=(s.data.toList.drop c).take (d - c):=eN s c d;have e2:(s.extract a b).data.toList=(s.data.toList.drop a).take (b - a):=eN s a b;rw[e1,List.getElem?_take] at hx;split at hx
 ·rename_i hj
  refine h (c - a+j) x ?_;rw[e2,List.getElem?_take,if_pos bA,List.getElem?_drop];rw[List.getElem?_drop] at hx;rw[show a+(c - a+j)=c+j from by omega];exact hx
 cases hx
theorem aFj {E:Env} {lay:Bool} {p:eE} {lo hi a2 b2:Nat} {sid inner pre:ByteArray} (h1:sid.extract 1 (sid.size - 1)=inner) (h2:iF inner=pre) (h3:a2=lo+1+pre.size∧b2=hi - 1)
 (h:pre.toList=[]∨iZ E lay p pre ((a2:Int),(b2:Int)) (jM (p.s.extract a2 b2))=none):mZ E lay p lo hi sid=oI p ((lo:Int),(hi:Int)):=by
 obtain ⟨rfl,rfl⟩:=h3;unfold mZ;rw[h1,h2];rcases h with h | h
 ·simp only[h,if_true]
 by_cases c:pre.toList=[]
 ·simp only[c,if_true]
 simp only[c,if_false,h]
theorem aFl {E:Env} {lay:Bool} {p p1:eE} {lo hi a2 b2:Nat} {sid inner pre:ByteArray} (h1:sid.extract 1 (sid.size - 1)=inner) (h2:iF inner=pre) (h3:a2=lo+1+pre.size∧b2=hi - 1)
 (hne:pre.toList≠[]) (h:iZ E lay p pre ((a2:Int),(b2:Int)) (jM (p.s.extract a2 b2))=some p1):mZ E lay p lo hi sid=p1:=by
 obtain ⟨rfl,rfl⟩:=h3;unfold mZ;rw[h1,h2];simp only[hne,if_false,h]
theorem aFi {E:Env} {p q:eE} {comp sid:ByteArray} {lo hi ld:Nat} {nd:Int} {last:Bool} (h1:idHigh p ld=hi) (h2:p.s.extract lo hi=sid) (hw:mJ sid=true) (hq:q=mZ E (eO comp) p lo hi sid):(q,true)=jA E p comp lo ld nd last:=by
 unfold jA;rw[h1];simp only[h2,hw,if_true,hq]
theorem wU {E:Env} {p:eE} {comp sid:ByteArray} {lo hi ld:Nat} {nd:Int} {last lay b:Bool} (h1:idHigh p ld=hi) (h2:p.s.extract lo hi=sid) (hw:mJ sid=false) (hk:p.known=[]) (hl:eO comp=lay) (hb:(lay && E.fmt sid ⟨#[]⟩)=(lay && b)) :
 (({ p with known:=p.known++[((lo:Int),(hi:Int))],fmt:=if lay && b then 0 else p.fmt }:eE),true)=jA E p comp lo ld nd last:=by
 unfold jA;rw[h1];simp only[h2,hw,if_false,hk,if_true,Bool.false_eq_true];unfold rJ;rw[hl,hb,hk]
section
variable {w0 w:World} {b:Nat} {p:eE} {vk vu vl u:Value} {pb mb sb fb:Nat} {st:fF} {sl sd sf sc:Value}
theorem aIt (H:eF w w0.heap.size b p vk vu vl u) (hc:p.cHigh≠-1) (v0:Value) (comp s:ByteArray) (i ld nd:Int) (last:Bool) :
 Calls Tryz.prog 149 #[v0,.string comp,.string s,.pointer (some ⟨b,0,none⟩),.int .i64 i,.int .i64 ld,.int .i64 nd,.bool last] w fun e w'=>e = .returned (.tuple #[])∧w'=w:=by
 have h2:=H.row.at 2 _ rfl;have q:(p.cHigh != -1)=true:=by simpa using hc
 have q2:(p.cHigh == -1)=false:=by simpa using hc
 clear H;go_enter Tryz.func149,Tryz.ntmps149;go_wp2_with fail
 exact bodyPost_ret (v:=.tuple #[]) (by simp[results,Tryz.results149]) rfl ⟨rfl,rfl⟩
theorem xN (S:iM w0 pb st sl sd sf sc mb sb fb) (OS:iR st) (hB:Below w0.heap.size w0 w) (H:eF w w0.heap.size b p vk vu vl u) (O:PathIn p) (hc:p.cHigh = -1) (comp s:ByteArray) (i ld:Nat) (nd:Int) (last:Bool)
 (q1:i+1≤idHigh p ld) (q2:idHigh p ld≤p.s.size) (hasc:asc (p.s.extract (i+1) (idHigh p ld))) (qy:p.lay = -1∨(1≤p.lay∧p.lay < (p.known.length:Int))) :
 Calls Tryz.prog 149 #[.pointer (some ⟨pb,0,none⟩),.string comp,.string s,.pointer (some ⟨b,0,none⟩),.int .i64 i,.int .i64 ld,.int .i64 nd,.bool last] w fun e w' =>
  e = .returned (.tuple #[])∧∃ vk' vu' vl',eF w' w0.heap.size b (mId (eH st) p comp i ld nd last) vk' vu' vl' u∧eW w w' b vk vu vl vk' vu' vl':=by
 have HP:=bW H;have HO:=bW O;have HS:=bW S;have HB0:=bW hB;have hS:=S.below hB;have h0:=H.row.at 0 _ rfl;have h2:=H.row.at 2 _ rfl;rw[hc] at h2;have h5:=H.row.at 5 _ rfl;have h6:=H.row.at 6 _ rfl;have h8:=H.row.at 8 _ rfl;have h10:=H.row.at 10 _ rfl;have s0:=hS.row.at 0 _ rfl;have mne:=nA mb;have hb:=H.lt;obtain ⟨A,c0,hv⟩:=fL H.ok;rw[hv] at h6
 obtain ⟨con,hcon⟩:∃ c,jS comp=c:=⟨_,rfl⟩
 obtain ⟨lay,hlay⟩:∃ c,eO comp=c:=⟨_,rfl⟩
 have hcon' : (comp.toList==[99,111,110,116,101,110,116])=con:=hcon;have hlay' : (comp.toList==[108,97,121,111,117,116,115])=lay:=hlay
 obtain ⟨ml,hml⟩:∃ c,pS p comp nd=c:=⟨_,rfl⟩
 obtain ⟨mk,hmk⟩:∃ c,pB p comp=c:=⟨_,rfl⟩
 obtain ⟨my,hmy⟩:∃ c,kZ p comp last=c:=⟨_,rfl⟩
 obtain ⟨hi,hhi⟩:∃ c,idHigh p ld=c:=⟨_,rfl⟩
 rw[hhi] at q1 q2 hasc;have hw1:IntKind.i64.wrap ((i:Int)+1)=((i+1:Nat):Int):=by have:=O.sz;rw[IntWalk.i64_in _ bA];omega
 obtain ⟨lo,hlo⟩:∃ c,i+1=c:=⟨_,rfl⟩
 rw[hlo] at q1 hasc hw1
 obtain ⟨sid,hsid⟩:∃ c,p.s.extract lo hi=c:=⟨_,rfl⟩
 have HLO:=bW hlo;have HML:=bW hml;have HML0:=bW hml;have HMK:=bW hmk;have HMY:=bW hmy;have HHI:=bW hhi;have HSID:=bW hsid;have HCON:=bW hcon;have HLAY:=bW hlay;have HASC:=bW hasc;have osz:=O.sz;have okl:=O.kl;have oul:=O.ul;have HQY:=bW qy;have HCH:=bW hc;clear qy S hB H O hS hml hmk hmy hhi hcon hlay hasc hlo hsid hv;go_enter Tryz.func149,Tryz.ntmps149;go_upto_region 1 with fail
 go_cut [16] from 34 to 34 (fun s16 wx=>wx=w∧s16 = .bool (decide (1 < nd) && p.lang == -1))
 case first =>
  as_aux_lemma =>
   by_cases c1:1 < nd
   ·have d1:decide (1 < nd)=true:=decide_eq_true c1
    by_cases c2:p.lang = -1
    ·have d2:(p.lang == -1)=true:=by simpa using c2
     go_wp2_with fail
     go_meet
     case rel=>exact ⟨rfl,by rw[d1,d2];rfl⟩
    have d2:(p.lang == -1)=false:=by simpa using c2
    go_wp2_with fail
    go_meet
    case rel=>exact ⟨rfl,by rw[d1,d2];rfl⟩
   have d1:decide (1 < nd)=false:=decide_eq_false c1;go_wp2_with fail
   go_meet
   case rel=>exact ⟨rfl,by rw[d1];rfl⟩
 as_aux_lemma =>
  obtain ⟨rfl,rfl⟩:=hcut
  obtain ⟨g1,hg1⟩:∃ g,(decide (1 < nd) && p.lang == -1)=g:=⟨_,rfl⟩
  rw[hg1]
  replace HML:Aside0 ((g1 && (con || lay))=ml):=⟨by rw[← hg1,← HCON.out,← HLAY.out];exact HML.out⟩
  clear hg1;go_upto_region 2 with fail
  go_cut [16] from 50 to 50 (fun s16 wx=>wx=wc∧s16 = .bool (g1 && (con || lay)))
  case first =>
   cases g1
   ·go_wp2_with fail
    go_meet
    case rel=>exact ⟨rfl,rfl⟩
   cases con
   ·go_wp2_with fail
    go_meet
    case rel=>exact ⟨rfl,rfl⟩
   go_wp2_with fail
   go_meet
   case rel=>exact ⟨rfl,rfl⟩
  as_aux_lemma =>
   obtain ⟨rfl,rfl⟩:=hcut;rw[HML.out];go_upto_region 4 with fail
   go_cut [18] from 61 to 61 (fun s18 wx=>wx=wc∧s18 = .bool (p.kind == -1 && lay))
   case first =>
    by_cases c2:p.kind = -1
    ·have d2:(p.kind == -1)=true:=by simpa using c2
     go_wp2_with fail
     go_meet
     case rel=>exact ⟨rfl,by rw[d2];rfl⟩
    have d2:(p.kind == -1)=false:=by simpa using c2
    go_wp2_with fail
    go_meet
    case rel=>exact ⟨rfl,by rw[d2];rfl⟩
   as_aux_lemma =>
    obtain ⟨rfl,rfl⟩:=hcut;rw[show (p.kind == -1 && lay)=mk by rw[← HMK.out,pB,HLAY.out]];go_upto_if 73 with fail
    go_cut [19] from 74 to 74 (fun s19 wx=>wx=wc∧s19 = .bool (if p.typ==7 then !last && lay else lay))
    case first =>
     as_aux_lemma =>
      by_cases c2:p.typ=7
      ·have d2:(p.typ==7)=true:=by simpa using c2
       cases last
       ·go_wp2_with fail
        go_meet
        case rel=>exact ⟨rfl,by rw[d2];rfl⟩
       go_wp2_with fail
       go_meet
       case rel=>exact ⟨rfl,by rw[d2];rfl⟩
      have d2:(p.typ==7)=false:=by simpa using c2
      go_wp2_with fail
      go_meet
      case rel=>exact ⟨rfl,by rw[d2];rfl⟩
    as_aux_lemma =>
     obtain ⟨rfl,rfl⟩:=hcut;rw[show (if p.typ==7 then !last && lay else lay)=my by rw[← HMY.out,kZ,HLAY.out]];go_upto_if 87 with fail
     go_cut [21] from 88 to 93 (fun s21 wx=>wx=wc∧s21 = .int .i64 hi)
     case first =>
      as_aux_lemma =>
       have hh:=HHI.out;unfold idHigh at hh
       by_cases c2:p.known=[]
       ·rw[if_pos c2] at hh;have d2:¬ (0 < p.known.length):=by rw[c2];simp
        have d3:(0:Int) < p.known.length↔False:=by rw[c2];simp
        have d4:p.known.length=0:=by rw[c2];rfl
        have d5:decide ((0:Int) < p.known.length)=false:=by rw[c2];rfl
        go_wp2_with fail
        go_meet
        case rel=>exact ⟨rfl,by first | rfl | rw[hh]⟩
       rw[if_neg c2] at hh;have d2:0 < p.known.length:=List.length_pos_iff.2 c2;have d5:decide ((0:Int) < p.known.length)=true:=decide_eq_true bA;have d6:decide (0 < p.known.length)=true:=decide_eq_true d2;have d7:p.known.length≠0:=by omega
       go_wp2_with fail
       go_meet
       case rel=>exact ⟨rfl,by first | rfl | rw[hh]⟩
     as_aux_lemma =>
      obtain ⟨rfl,rfl⟩:=hcut;go_upto_region 15 with fail
      have hal:Below wc.heap.size wc (wc.alloc (.cells #[.int .i64 lo,.int .i64 hi] 78)):=(Below.refl _ _).alloc (Nat.le_refl _) _;have hR:=Row.new wc [.int .i64 lo,.int .i64 hi] 78;have hs1:wc.heap.size < (wc.alloc (.cells #[.int .i64 lo,.int .i64 hi] 78)).heap.size:=by simp
      obtain ⟨w1,hw1⟩:∃ w1,wc.alloc (.cells #[.int .i64 lo,.int .i64 hi] 78)=w1:=⟨_,rfl⟩
      replace hR:Row w1 wc.heap.size [.int .i64 lo,.int .i64 hi]:=hw1▸hR;rw[hw1] at hal hs1 ⊢;clear hw1;have e0:w1.cell? ⟨b,0,none⟩=some (.string p.s):=(hal.cell (p:=⟨b,0,none⟩) hb).trans h0;have e1:=hR.at 0 _ rfl;have e2:=hR.at 1 _ rfl;have q1' : (lo:Int)≤hi:=by omega
      have q2' : (hi:Int)≤p.s.size:=by omega
      go_quiet (fail)
      obtain ⟨w2,hw2⟩:∃ w2,w1.drewN nq=w2:=⟨_,rfl⟩
      replace hal:Below wc.heap.size wc w2:=hw2▸(eA hal (eV.below ⟨⟨nq,rfl⟩⟩));replace hR:Row w2 wc.heap.size [.int .i64 lo,.int .i64 hi]:=hw2▸(hR.step rfl);replace hs1:wc.heap.size < w2.heap.size:=hw2▸hs1;rw[hw2];rw[HSID.out];have HP2:=bW (HP.out.below hal);have HNI0:=HP.out.new_ne (Nat.le_refl wc.heap.size);have HW2:=bW (eW.of_below (b:=b) (vk:=vk) (vu:=vu) (vl:=vl) hal);have HS2:=bW (HS.out.below (HB0.out.trans (hal.mono HB0.out.size)));have HB2:=bW (HB0.out.trans (hal.mono HB0.out.size))
      obtain ⟨I,hI⟩:∃ I,wc.heap.size=I:=⟨_,rfl⟩
      rw[hI] at HNI0 hR hs1 ⊢;have HNI:=bW HNI0;have HR2:=bW hR;clear hI HNI0;have hsz:sid.size≤1000000:=by rw[← HSID.out];exact Nat.le_trans (iH _ _ _) osz
      have HAS:=bW (show asc sid by rw[← HSID.out];exact HASC.out);have HZ:=bW (show sid.size=hi - lo by rw[← HSID.out,← eD,eN];have:=eD p.s;simp;omega);have cw:=aCh (w:=w2) sid hsz
      obtain ⟨wr,hwr⟩:∃ wr,mJ sid=wr:=⟨_,rfl⟩
      rw[hwr] at cw;have HWR:=bW hwr;clear hal hR e0 e1 e2 q1' q2' h0 h2 h5 h6 h8 h10 s0 hwr hw2 HP HB0 hw1;go_wp2_with fail
      refine cw.mono ?_;rintro e w' ⟨rfl,rfl⟩;go_upto_if 108 with fail
      go_cut [20] from 109 to 154 (fun s20 wx=>∃ p1 vk1 vu1 vl1 f,s20 = .bool f∧Aside0 (eF wx w0.heap.size b p1 vk1 vu1 vl1 u)∧Aside0 (eW w' wx b vk vu vl vk1 vu1 vl1)∧Aside0 ((f=true∧wr=true∧p1=mZ (eH st) lay p lo hi sid)∨(f=false∧wr=false∧p1=p∧vk1=vk∧vu1=vu∧vl1=vl∧wx=w')))
      case first =>
       as_aux_lemma =>
        cases wr
        ·go_wp2_with fail
         go_meet
         case rel=>exact ⟨p,vk,vu,vl,false,rfl,HP2,⟨eW.refl _ _ _ _ _⟩,⟨dV⟩⟩
        have hs3:2 < sid.size:=by have h:=HWR.out;unfold mJ at h;simp at h;exact h.1
        have z1:IntKind.i64.wrap ((sid.size:Int) - 1)=((sid.size - 1:Nat):Int):=by rw[IntWalk.i64_in _ bA];omega
        have z2:(1:Int)≤((sid.size - 1:Nat):Int):=by omega
        have z3:((sid.size - 1:Nat):Int)≤(sid.size:Int):=by omega
        obtain ⟨inner,hin⟩:∃ c,sid.extract 1 (sid.size - 1)=c:=⟨_,rfl⟩
        have hi1:inner.size≤1000000:=by rw[← hin];exact Nat.le_trans (iH _ _ _) hsz
        have cp:=wI (w:=w') inner hi1 (by rw[← hin];exact pY _ _ _ HAS.out)
        obtain ⟨pre,hpre⟩:∃ c,iF inner=c:=⟨_,rfl⟩
        rw[hpre] at cp;have HPRE:=bW hpre;have HIN:=bW hin;clear hpre cw;go_wp2_with fail
        refine cp.mono ?_;rintro e w3 ⟨rfl,hb3⟩;have HP3:=bW (HP2.out.below hb3);have HB3:=bW (HB2.out.trans (hb3.mono HB2.out.size));have HR3:=bW (HR2.out.below hb3 hs1);have HM3:=bW (eW.of_below (b:=b) (vk:=vk) (vu:=vu) (vl:=vl) hb3);have HI3:=bW (Nat.lt_of_lt_of_le hs1 hb3.size);clear hb3 cp z1 z2 z3
        obtain ⟨pe,hpe0⟩:∃ c,pre.toList.isEmpty=c:=⟨_,rfl⟩
        have HPE:=bW hpe0;have hpe1:(pre.toList==[])=pe:=by rw[← hpe0];cases pre.toList <;> rfl
        have hpe2:(pre.toList != []) = !pe:=by rw[← hpe0];cases pre.toList <;> rfl
        go_upto_if 117 with fail
        clear hpe0 hpe1 hpe2
        obtain ⟨a1,ha1⟩:∃ c,lo+1=c:=⟨_,rfl⟩
        obtain ⟨a2,ha2⟩:∃ c,a1+pre.size=c:=⟨_,rfl⟩
        obtain ⟨b2,hb2⟩:∃ c,hi - 1=c:=⟨_,rfl⟩
        have hps:pre.size≤inner.size:=by rw[← HPRE.out];exact aD8 inner
        have his:inner.size=sid.size - 2:=by rw[← HIN.out,← eD,eN];have:=eD sid;simp;omega
        have hzz:=HZ.out;have y1:IntKind.i64.wrap ((lo:Int)+1)=(a1:Int):=by rw[IntWalk.i64_in _ bA];omega
        have y2:IntKind.i64.wrap ((a1:Int)+(pre.size:Int))=(a2:Int):=by rw[IntWalk.i64_in _ bA];omega
        have y3:IntKind.i64.wrap ((hi:Int) - 1)=(b2:Int):=by rw[IntWalk.i64_in _ bA];omega
        have y4:a2≤b2:=by omega
        have y5:b2≤p.s.size:=by omega
        have HY:=bW (show a2=lo+1+pre.size∧b2=hi - 1 from ⟨aM,aM⟩);clear ha1 ha2 hb2 hps his hzz
        go_cut [20] from 118 to 134 (fun s20 wx=>∃ p1 vk1 vu1 vl1 f,s20 = .bool f∧Aside0 (eF wx w0.heap.size b p1 vk1 vu1 vl1 u)∧Aside0 (eW w3 wx b vk vu vl vk1 vu1 vl1)∧Aside0 ((f=true∧pre.toList≠[]∧iZ (eH st) lay p pre ((a2:Int),(b2:Int)) (jM (p.s.extract a2 b2))=some p1)∨(f=false∧p1=p∧vk1=vk∧vu1=vu∧vl1=vl∧Below w3.heap.size w3 wx∧(pre.toList=[]∨iZ (eH st) lay p pre ((a2:Int),(b2:Int)) (jM (p.s.extract a2 b2))=none))))
        case first =>
         as_aux_lemma =>
          cases pe;rotate_left
          ·have hpe:pre.toList=[]:=by simpa using HPE.out
           go_wp2_with fail
           go_meet
           case rel=>exact ⟨p,vk,vu,vl,false,rfl,HP3,⟨eW.refl _ _ _ _ _⟩,⟨.inr ⟨rfl,rfl,rfl,rfl,rfl,Below.refl _ _,.inl hpe⟩⟩⟩
          have hpe:¬ pre.toList=[]:=by simpa using HPE.out
          have d1:=HR3.out.at 0 _ rfl;have d2:=HR3.out.at 1 _ rfl;go_upto_region 21 with fail
          have hal4:Below w3.heap.size w3 (w3.alloc (.cells #[.int .i64 a2,.int .i64 b2] 78)):=(Below.refl _ _).alloc (Nat.le_refl _) _;have hR4:=Row.new w3 [.int .i64 a2,.int .i64 b2] 78
          obtain ⟨w4,hw4⟩:∃ w4,w3.alloc (.cells #[.int .i64 a2,.int .i64 b2] 78)=w4:=⟨_,rfl⟩
          replace hR4:Row w4 w3.heap.size [.int .i64 a2,.int .i64 b2]:=hw4▸hR4;rw[hw4] at hal4 ⊢;clear hw4 d1 d2;have d1:=hR4.at 0 _ rfl;have d2:=hR4.at 1 _ rfl
          have ca:=aDf HS.out OS (HB3.out.trans (hal4.mono HB3.out.size)) (HP3.out.below hal4) osz okl HO.out.ll comp a2 b2 y4 y5 (aHa HASC.out (by have:=HY.out;omega) (by have:=HY.out;omega)) pre (by
           rcases prefOf_cases inner with h | h
           ·rw[HPRE.out] at h;rw[h] at hpe;exact absurd (show (⟨#[]⟩:ByteArray).toList=[] by rw[L_toList];rfl) hpe
           rw[HPRE.out] at h;exact h)
          rw[HLAY.out] at ca;have HAL:=bW hal4;clear hal4 hR4;go_wp2_with fail
          refine ca.mono ?_;intro e w5 hm
          cases hma:iZ (eH st) lay p pre ((a2:Int),(b2:Int)) (jM (p.s.extract a2 b2)) with
          | none =>
           rw[hma] at hm;obtain ⟨rfl,hb5⟩:=hm;have HB5:=bW (eA HAL.out hb5);have HMA:=bW hma;clear hma hb5 ca d1 d2;go_wp2_with fail
           go_meet
           case rel=>exact ⟨p,vk,vu,vl,false,rfl,⟨HP3.out.below HB5.out⟩,⟨eW.of_below HB5.out⟩,⟨.inr ⟨rfl,rfl,rfl,rfl,rfl,HB5.out,.inr HMA.out⟩⟩⟩
          | some p1 =>
           rw[hma] at hm;obtain ⟨rfl,vk1,vl1,hp5,hm5⟩:=hm;have HP5:=bW hp5;have HM5:=bW ((eW.of_below (b:=b) (vk:=vk) (vu:=vu) (vl:=vl) HAL.out).trans hm5);have HMA:=bW hma;clear hma hp5 hm5 ca d1 d2;go_wp2_with fail
           go_meet
           case rel=>exact ⟨p1,vk1,vu,vl1,true,rfl,HP5,HM5,⟨.inl ⟨rfl,hpe,HMA.out⟩⟩⟩
        as_aux_lemma =>
         obtain ⟨p1,vk1,vu1,vl1,f,rfl,HP6,HM6,HC6⟩:=hcut;cases f
         ·have hc6:=HC6.out;simp only[Bool.false_eq_true,false_and,true_and,false_or] at hc6;obtain ⟨rfl,rfl,rfl,rfl,hb6,hno⟩:=hc6;have HWC:=bW (aFj (E:=eH st) (lay:=lay) HIN.out HPRE.out HY.out hno);have HR6:=HR3.out.below hb6 HI3.out;have hI6:=HNI.out;have d1:=HR6.at 0 _ rfl;have d2:=HR6.at 1 _ rfl;clear hb6 hno HC6 HR6;go_upto_region 24 with fail
          have qa_0:=HP6.out.row.at 6 _ rfl;have qa_f:=HP6.out.row.free 6 bG;have qa_b:=HP6.out.lt;have qa_B:w0.heap.size≤wc.heap.size:=Nat.le_trans HP6.out.base (Nat.le_of_lt qa_b);have qa_n:=bW HP6.out.nk;have qa_o:=bW HP6.out.ok;refine hY (n:=11) (S:=fun w'=>w'.cell? ⟨b,6,none⟩=some vk1∧w'.cell? ⟨I,0,none⟩=some (.int .i64 lo)∧w'.cell? ⟨I,1,none⟩=some (.int .i64 hi)) (ds:=[10]) _ bB rfl rfl ⟨qa_0,d1,d2⟩ (fun hHeld=>?_);refine sA1 0 (some 136) sB1 ?_
          refine sA1 1 (some 137) sB1 ?_
          refine sA1 2 (some 138) sB1 ?_
          refine sA1 3 (some 139) sB1 ?_
          refine sC1 4 (some 140) sD1 ?_
          refine sC1 5 (some 141) sD1 ?_
          refine sF1 6 (some 142) sG1 (fun K hK=>?_);refine kT (w1:=?_) (v:=?_) bH rfl ?_ ?_;rotate_left 2
          ·go_simp;constructor
           ·rfl
           rfl
          have aa_h:Below wc.heap.size wc (wc.drew.alloc (.cells ([.int .i64 lo,.int .i64 hi]:List Value).toArray 78)):=(Below.refl _ _).drew.alloc (Nat.le_refl _) _;refine hK.out _ _ ⟨((aa_h.cell (p:=⟨b,6,none⟩) (World.block_lt_of_cell? wc ⟨b,6,none⟩ qa_0)).trans qa_0),((aa_h.cell (p:=⟨I,0,none⟩) (World.block_lt_of_cell? wc ⟨I,0,none⟩ d1)).trans d1),((aa_h.cell (p:=⟨I,1,none⟩) (World.block_lt_of_cell? wc ⟨I,1,none⟩ d2)).trans d2)⟩ (fun hHeld=>?_);clear hK K;refine gJ sJ1 ?_
          refine sF1 7 (some 143) sG1 (fun K hK=>?_);refine gE (w0:=wc) (W:=wc.drew) w0.heap.size bH (.tmp 140) (.tmp 142) 75 78 _ 2 16 bH Tryz.underlying75 mI rfl bF bF vk1 p1.known.length (pairs p1.known) [.int .i64 lo,.int .i64 hi] bH bH bH bL qa_o.out ((Below.refl _ _).drew) qa_B bA ?_;intro va war oa bba ga ta;obtain ⟨Aa,ca,eva⟩:=fL oa;subst eva;have xa_0:=ga.cell (w:=wc.drew) (a:=⟨b,6,none⟩) qa_0 qa_n.out;have xa_f:=(World.frozen?_of_block (w:=wc.drew) (a:=⟨b,6,none⟩) (ga.block b qa_b qa_n.out)).trans qa_f;have xa_1:=ga.cell (w:=wc.drew) (a:=⟨I,0,none⟩) d1 hI6.2.1
          have xa_2:=ga.cell (w:=wc.drew) (a:=⟨I,1,none⟩) d2 hI6.2.1
          have gga:wc.grownBy war vk1.ownBlock:=⟨ga.os,ga.tape,ga.output,ga.size,ga.block⟩
          obtain ⟨hpa,hma⟩:=jZ HP6.out (lo,hi) (w':=war) oa gga ta;have HPa:=bW hpa;have HMa:=bW hma;clear hpa hma oa bba ga gga ta;refine hK.out _ _ ⟨xa_0,xa_1,xa_2⟩ (fun hHeld=>?_);clear hK K;refine gJ sJ1 ?_
          refine sA1 8 (some 144) sB1 ?_
          refine sA1 9 (some 145) sB1 ?_
          refine sH1 10 none sI1 (fun K hK=>?_);refine iO (w1:=?_) bH rfl ?_ ?_;rotate_left
          ·go_simp;rfl
          refine hK.out _ _ ?_;clear hK K;refine iK bB ?_;clear d1 d2 xa_0 xa_f xa_1 xa_2 qa_0 qa_f qa_b qa_B qa_n qa_o aa_h
          obtain ⟨Wa,hWa⟩:∃ W,war.setCell ⟨b,6,none⟩ (.slice Aa (p1.known.length+1) ca)=W:=⟨_,rfl⟩
          replace HPa:Aside0 (eF Wa w0.heap.size b { p1 with known:=p1.known++[((lo:Int),(hi:Int))] } (.slice Aa (p1.known.length+1) ca) vu1 vl1 u):=hWa▸HPa;replace HMa:Aside0 (eW wc Wa b vk1 vu1 vl1 (.slice Aa (p1.known.length+1) ca) vu1 vl1):=hWa▸HMa;rw[hWa];clear hWa;have k6:=HPa.out.row.at 6 _ rfl;have k7:=HPa.out.row.at 13 _ rfl;have k8:=HPa.out.row.free 13 bG;have z4:IntKind.i64.wrap (p1.known.length:Int)=(p1.known.length:Int):=by rw[IntWalk.i64_in _ bA]
          go_wp2_with fail
          obtain ⟨hpc,hmc⟩:=fW HPa.out 13 (.int .i64 p1.known.length) { p1 with known:=p1.known++[((lo:Int),(hi:Int))],cust:=p1.known.length } u rfl rfl rfl rfl bA
          go_meet
          case rel=>exact ⟨_,_,_,_,true,rfl,⟨hpc⟩,⟨((HM3.out.trans HM6.out).trans HMa.out).trans hmc⟩,⟨.inl ⟨by trivial,by trivial,HWC.out.symm⟩⟩⟩
         have hc6:=HC6.out;simp only[true_and,Bool.true_eq_false,false_and,or_false] at hc6;have HWC:=bW (aFl (E:=eH st) (lay:=lay) HIN.out HPRE.out HY.out hc6.1 hc6.2);clear HC6 hc6;go_wp2_with fail
         go_meet
         case rel=>exact ⟨_,_,_,_,true,rfl,HP6,⟨HM3.out.trans HM6.out⟩,⟨.inl ⟨by trivial,by trivial,HWC.out.symm⟩⟩⟩
      as_aux_lemma =>
       obtain ⟨p1,vk1,vu1,vl1,f,rfl,HP6,HM6,HC6⟩:=hcut;clear cw;go_upto_if 155 with fail
       go_cut [20] from 156 to 387 (fun s20 wx=>∃ p2 vk2 vu2 vl2 f2,s20 = .bool f2∧Aside0 (eF wx w0.heap.size b p2 vk2 vu2 vl2 u)∧Aside0 (eW w' wx b vk vu vl vk2 vu2 vl2)∧Aside0 ((p2,f2)=jA (eH st) p comp lo ld nd last))
       case first =>
        as_aux_lemma =>
         cases f;rotate_left
         ·have hc6:=HC6.out;simp only[true_and,Bool.true_eq_false,false_and,or_false] at hc6;have HWO:=bW (aFi (E:=eH st) (comp:=comp) (nd:=nd) (last:=last) HHI.out HSID.out (HWR.out.trans hc6.1) (hc6.2.trans (by rw[HLAY.out])));clear HC6 hc6;go_wp2_with fail
          go_meet
          case rel=>exact ⟨_,_,_,_,true,rfl,HP6,HM6,HWO⟩
         have hc6:=HC6.out;simp only[Bool.false_eq_true,false_and,true_and,false_or] at hc6;obtain ⟨hwr,rfl,rfl,rfl,rfl,rfl⟩:=hc6;have HNW:=bW (HWR.out.trans hwr);clear hwr;have hI6:=HNI.out;have d1:=HR2.out.at 0 _ rfl;have d2:=HR2.out.at 1 _ rfl;have h6:=HP6.out.row.at 6 _ rfl;obtain ⟨A6,c6,hv6⟩:=fL HP6.out.ok
         by_cases hk:p1.known=[]
         ·have hv7:vk1 = .slice A6 0 c6:=by rw[hv6,hk];rfl
          subst hv7;have t1:((0:Nat):Int)=0:=rfl;have HK:=bW hk;clear hv6 h6 hk;have h6:=HP6.out.row.at 6 _ rfl;clear HC6;go_upto_region 29 with fail
          have qa_0:=HP6.out.row.at 6 _ rfl;have qa_f:=HP6.out.row.free 6 bG;have qa_b:=HP6.out.lt;have qa_B:w0.heap.size≤wc.heap.size:=Nat.le_trans HP6.out.base (Nat.le_of_lt qa_b);have qa_n:=bW HP6.out.nk;have qa_o:=bW HP6.out.ok;refine hY (n:=11) (S:=fun w'=>w'.cell? ⟨b,6,none⟩=some (Value.slice A6 0 c6)∧w'.cell? ⟨I,0,none⟩=some (.int .i64 lo)∧w'.cell? ⟨I,1,none⟩=some (.int .i64 hi)) (ds:=[10]) _ bB rfl rfl ⟨qa_0,d1,d2⟩ (fun hHeld=>?_);refine sA1 0 (some 162) sB1 ?_
          refine sA1 1 (some 163) sB1 ?_
          refine sA1 2 (some 164) sB1 ?_
          refine sA1 3 (some 165) sB1 ?_
          refine sC1 4 (some 166) sD1 ?_
          refine sC1 5 (some 167) sD1 ?_
          refine sF1 6 (some 168) sG1 (fun K hK=>?_);refine kT (w1:=?_) (v:=?_) bH rfl ?_ ?_;rotate_left 2
          ·go_simp;constructor
           ·rfl
           rfl
          have aa_h:Below wc.heap.size wc (wc.drew.alloc (.cells ([.int .i64 lo,.int .i64 hi]:List Value).toArray 78)):=(Below.refl _ _).drew.alloc (Nat.le_refl _) _;refine hK.out _ _ ⟨((aa_h.cell (p:=⟨b,6,none⟩) (World.block_lt_of_cell? wc ⟨b,6,none⟩ qa_0)).trans qa_0),((aa_h.cell (p:=⟨I,0,none⟩) (World.block_lt_of_cell? wc ⟨I,0,none⟩ d1)).trans d1),((aa_h.cell (p:=⟨I,1,none⟩) (World.block_lt_of_cell? wc ⟨I,1,none⟩ d2)).trans d2)⟩ (fun hHeld=>?_);clear hK K;refine gJ sJ1 ?_
          refine sF1 7 (some 169) sG1 (fun K hK=>?_);refine gE (w0:=wc) (W:=wc.drew) w0.heap.size bH (.tmp 166) (.tmp 168) 75 78 _ 2 16 bH Tryz.underlying75 mI rfl bF bF (Value.slice A6 0 c6) p1.known.length (pairs p1.known) [.int .i64 lo,.int .i64 hi] bH bH bH bL qa_o.out ((Below.refl _ _).drew) qa_B bA ?_;intro va war oa bba ga ta;obtain ⟨Aa,ca,eva⟩:=fL oa;subst eva;have xa_0:=ga.cell (w:=wc.drew) (a:=⟨b,6,none⟩) qa_0 qa_n.out;have xa_f:=(World.frozen?_of_block (w:=wc.drew) (a:=⟨b,6,none⟩) (ga.block b qa_b qa_n.out)).trans qa_f;have xa_1:=ga.cell (w:=wc.drew) (a:=⟨I,0,none⟩) d1 hI6.2.1
          have xa_2:=ga.cell (w:=wc.drew) (a:=⟨I,1,none⟩) d2 hI6.2.1
          have gga:wc.grownBy war (Value.slice A6 0 c6).ownBlock:=⟨ga.os,ga.tape,ga.output,ga.size,ga.block⟩
          obtain ⟨hpa,hma⟩:=jZ HP6.out (lo,hi) (w':=war) oa gga ta;have HPa:=bW hpa;have HMa:=bW hma;clear hpa hma oa bba ga gga ta;refine hK.out _ _ ⟨xa_0,xa_1,xa_2⟩ (fun hHeld=>?_);clear hK K;refine gJ sJ1 ?_
          refine sA1 8 (some 170) sB1 ?_
          refine sA1 9 (some 171) sB1 ?_
          refine sH1 10 none sI1 (fun K hK=>?_);refine iO (w1:=?_) bH rfl ?_ ?_;rotate_left
          ·go_simp;rfl
          refine hK.out _ _ ?_;clear hK K;refine iK bB ?_;clear d1 d2 xa_0 xa_f xa_1 xa_2 qa_0 qa_f qa_b qa_B qa_n qa_o aa_h
          obtain ⟨Wa,hWa⟩:∃ W,war.setCell ⟨b,6,none⟩ (.slice Aa (p1.known.length+1) ca)=W:=⟨_,rfl⟩
          replace HPa:Aside0 (eF Wa w0.heap.size b { p1 with known:=p1.known++[((lo:Int),(hi:Int))] } (.slice Aa (p1.known.length+1) ca) vu1 vl1 u):=hWa▸HPa;replace HMa:Aside0 (eW wc Wa b (Value.slice A6 0 c6) vu1 vl1 (.slice Aa (p1.known.length+1) ca) vu1 vl1):=hWa▸HMa;rw[hWa];clear hWa;cases lay
          ·have HWO:=bW (wU (E:=eH st) (comp:=comp) (nd:=nd) (last:=last) HHI.out HSID.out HNW.out HK.out HLAY.out (b:=false) bH);go_wp2_with fail
           go_meet
           case rel=>exact ⟨_,_,_,_,true,rfl,HPa,HMa,HWO⟩
          have hSa:=HS.out.below (HB2.out.trans (eW.below HP6.out HMa.out));have s2:=hSa.row.at 2 _ rfl
          obtain ⟨fa,hfa⟩:∃ c,lM st.fmts sid ⟨#[]⟩=c:=⟨_,rfl⟩
          have cd:=oG hSa.site OS sid ⟨#[]⟩;rw[hfa] at cd;have HWO:=bW (wU (E:=eH st) (comp:=comp) (nd:=nd) (last:=last) HHI.out HSID.out HNW.out HK.out HLAY.out (b:=fa) (by rw[← hfa];rfl));clear hSa hfa;go_wp2_with fail
          refine cd.mono ?_;rintro e w5 ⟨rfl,hb5⟩;have HP5:=bW (HPa.out.below hb5);have HM5:=bW (HMa.out.trans (eW.of_below hb5));clear hb5 cd s2;cases fa
          ·go_wp2_with fail
           go_meet
           case rel=>exact ⟨_,_,_,_,true,rfl,HP5,HM5,HWO⟩
          have k7:=HP5.out.row.at 9 _ rfl;have k8:=HP5.out.row.free 9 bG;go_wp2_with fail
          obtain ⟨hpc,hmc⟩:=fW HP5.out 9 (.int .i64 0) { p1 with known:=p1.known++[((lo:Int),(hi:Int))],fmt:=0 } u rfl rfl rfl rfl bA
          go_meet
          case rel=>exact ⟨_,_,_,_,true,rfl,⟨hpc⟩,⟨HM5.out.trans hmc⟩,HWO⟩
         have e1:p1.known.length≠0:=fun h=>hk (List.eq_nil_of_length_eq_zero h);have e2:((p1.known.length:Int)==0)=false:=beq_eq_false_iff_ne.2 bA;have e3:(p1.known.length==0)=false:=beq_eq_false_iff_ne.2 e1;subst hv6;have HWP:=bW (wX (E:=eH st) (comp:=comp) (nd:=nd) (last:=last) HHI.out HSID.out HNW.out hk)
         obtain ⟨wn,rfl⟩:∃ x,x=wc:=⟨_,rfl⟩
         clear HC6;go_upto_if 184 with fail
         clear e1 e2 e3
         go_cut [20] from 185 to 233 (fun s20 wx=>∃ p2 vk2 vu2 vl2 f2,s20 = .bool f2∧Aside0 (eF wx w0.heap.size b p2 vk2 vu2 vl2 u)∧Aside0 (eW wn wx b (Value.slice A6 p1.known.length c6) vu1 vl1 vk2 vu2 vl2)∧Aside0 ((f2=true∧(p2,true)=jF (eH st) p1 comp nd last ((lo:Int),(hi:Int)) sid)∨(f2=false∧p1=p2∧(Value.slice A6 p1.known.length c6)=vk2∧vu1=vu2∧vl1=vl2∧Below wn.heap.size wn wx∧NL (eH st) p1 comp nd sid)))
         case first =>
          as_aux_lemma =>
           cases ml
           ·go_wp2_with fail
            go_meet
            case rel=>exact ⟨p1,_,vu1,vl1,false,rfl,HP6,⟨eW.refl _ _ _ _ _⟩,⟨.inr ⟨rfl,rfl,rfl,rfl,rfl,Below.refl _ _,by unfold NL;rw[HML0.out];rfl⟩⟩⟩
           have hSn:=HS.out.below HB2.out;obtain ⟨nn,D,hown,hD⟩:=hSn.map;have s0:=hSn.row.at 0 _ rfl;have hkey:=keyOf_string_mk (P:=Tryz.prog) (k:=9) Tryz.underlying9 (s:=sid) bR
           obtain ⟨l1,hl1⟩:∃ c,listed st.langs sid=c:=⟨_,rfl⟩
           have hhx:Maps.has D (.string sid.data.toList)=l1:=(hD sid).trans hl1;have HL1:=bW hl1;clear hD hl1;cases l1
           ·have s1:=hSn.row.at 1 _ rfl;have fne:=uQ (.func 63) #[] #[.pointer (some ⟨fb,0,none⟩),.pointer (some ⟨sb,0,none⟩)]
            obtain ⟨l2,hl2⟩:∃ c,listed st.dis sid=c:=⟨_,rfl⟩
            have cd:=oV hSn.site OS hSn.has sid;rw[hl2] at cd;have HL2:=bW hl2;clear hSn hl2
            go_upto_region 38 with (first
           | (at_lookup;refine wpList_lookup_own_ok_int _ rfl _ _ 66 rfl 9 3 .i64 law9 Tryz.underlying66 Tryz.underlying3 (zero3 _) mb nn D rfl hown _ _ rfl hkey ?_;intro c hat hwc;rw[hhx];clear hat hwc hown hkey hhx)
           | fail)
            go_wp2_with fail
            refine cd.mono ?_;rintro e w5 ⟨rfl,rfl⟩;clear cd s0 s1;cases l2
            ·go_wp2_with fail
             go_meet
             case rel=>exact ⟨p1,_,vu1,vl1,false,rfl,HP6,⟨eW.refl _ _ _ _ _⟩,⟨.inr ⟨rfl,rfl,rfl,rfl,rfl,Below.refl _ _,by unfold NL;rw[HML0.out,show (eH st).lang sid=false from HL1.out,show (eH st).dis sid=false from HL2.out];rfl⟩⟩⟩
            have b23:=HP6.out.row.at 23 _ rfl;have f23:=HP6.out.row.free 23 bG;go_upto_region 44 with fail
            obtain ⟨hpd,hmd⟩:=fW HP6.out 23 (.bool true) { p1 with dis:=true } u rfl rfl rfl rfl bA;have d1d:(w5.setCell ⟨b,23,none⟩ (.bool true)).cell? ⟨I,0,none⟩=some (.int .i64 lo):=(World.cell?_setCell_other _ _ _ _ (by intro h;injection h with h;exact hI6.1 h.symm)).trans d1;have d2d:(w5.setCell ⟨b,23,none⟩ (.bool true)).cell? ⟨I,1,none⟩=some (.int .i64 hi):=(World.cell?_setCell_other _ _ _ _ (by intro h;injection h with h;exact hI6.1 h.symm)).trans d2
            obtain ⟨Wd,hWd⟩:∃ W,w5.setCell ⟨b,23,none⟩ (.bool true)=W:=⟨_,rfl⟩
            rw[hWd] at hpd hmd d1d d2d ⊢;clear hWd b23 f23 d1 d2;have d1:=d1d;have d2:=d2d;clear d1d d2d
            obtain ⟨pd,hpe⟩:∃ pd,{ p1 with dis:=true }=pd:=⟨_,rfl⟩
            rw[hpe] at hpd;have HPE:=bW hpe;have okld:pd.known.length≤1000000:=by rw[← hpe];exact okl
            have HPd:=bW hpd;have HMd:=bW hmd;clear hpd hmd hpe;have qa_0:=HPd.out.row.at 6 _ rfl;have qa_f:=HPd.out.row.free 6 bG;have qa_b:=HPd.out.lt;have qa_B:w0.heap.size≤Wd.heap.size:=Nat.le_trans HPd.out.base (Nat.le_of_lt qa_b);have qa_n:=bW HPd.out.nk;have qa_o:=bW HPd.out.ok;refine hY (n:=11) (S:=fun w'=>w'.cell? ⟨b,6,none⟩=some (Value.slice A6 p1.known.length c6)∧w'.cell? ⟨I,0,none⟩=some (.int .i64 lo)∧w'.cell? ⟨I,1,none⟩=some (.int .i64 hi)) (ds:=[10]) _ bB rfl rfl ⟨qa_0,d1,d2⟩ (fun hHeld=>?_)
            refine sA1 0 (some 215) sB1 ?_
            refine sA1 1 (some 216) sB1 ?_
            refine sA1 2 (some 217) sB1 ?_
            refine sA1 3 (some 218) sB1 ?_
            refine sC1 4 (some 219) sD1 ?_
            refine sC1 5 (some 220) sD1 ?_
            refine sF1 6 (some 221) sG1 (fun K hK=>?_);refine kT (w1:=?_) (v:=?_) bH rfl ?_ ?_;rotate_left 2
            ·go_simp;constructor
             ·rfl
             rfl
            have aa_h:Below Wd.heap.size Wd (Wd.drew.alloc (.cells ([.int .i64 lo,.int .i64 hi]:List Value).toArray 78)):=(Below.refl _ _).drew.alloc (Nat.le_refl _) _;refine hK.out _ _ ⟨((aa_h.cell (p:=⟨b,6,none⟩) (World.block_lt_of_cell? Wd ⟨b,6,none⟩ qa_0)).trans qa_0),((aa_h.cell (p:=⟨I,0,none⟩) (World.block_lt_of_cell? Wd ⟨I,0,none⟩ d1)).trans d1),((aa_h.cell (p:=⟨I,1,none⟩) (World.block_lt_of_cell? Wd ⟨I,1,none⟩ d2)).trans d2)⟩ (fun hHeld=>?_);clear hK K;refine gJ sJ1 ?_
            refine sF1 7 (some 222) sG1 (fun K hK=>?_);refine gE (w0:=Wd) (W:=Wd.drew) w0.heap.size bH (.tmp 219) (.tmp 221) 75 78 _ 2 16 bH Tryz.underlying75 mI rfl bF bF (Value.slice A6 p1.known.length c6) pd.known.length (pairs pd.known) [.int .i64 lo,.int .i64 hi] bH bH bH bL qa_o.out ((Below.refl _ _).drew) qa_B bA ?_;intro va war oa bba ga ta;obtain ⟨Aa,ca,eva⟩:=fL oa;subst eva;have xa_0:=ga.cell (w:=Wd.drew) (a:=⟨b,6,none⟩) qa_0 qa_n.out;have xa_f:=(World.frozen?_of_block (w:=Wd.drew) (a:=⟨b,6,none⟩) (ga.block b qa_b qa_n.out)).trans qa_f;have xa_1:=ga.cell (w:=Wd.drew) (a:=⟨I,0,none⟩) d1 hI6.2.1
            have xa_2:=ga.cell (w:=Wd.drew) (a:=⟨I,1,none⟩) d2 hI6.2.1
            have gga:Wd.grownBy war (Value.slice A6 p1.known.length c6).ownBlock:=⟨ga.os,ga.tape,ga.output,ga.size,ga.block⟩
            obtain ⟨hpa,hma⟩:=jZ HPd.out (lo,hi) (w':=war) oa gga ta;have HPa:=bW hpa;have HMa:=bW hma;clear hpa hma oa bba ga gga ta;refine hK.out _ _ ⟨xa_0,xa_1,xa_2⟩ (fun hHeld=>?_);clear hK K;refine gJ sJ1 ?_
            refine sA1 8 (some 223) sB1 ?_
            refine sA1 9 (some 224) sB1 ?_
            refine sH1 10 none sI1 (fun K hK=>?_);refine iO (w1:=?_) bH rfl ?_ ?_;rotate_left
            ·go_simp;rfl
            refine hK.out _ _ ?_;clear hK K;refine iK bB ?_;clear d1 d2 xa_0 xa_f xa_1 xa_2 qa_0 qa_f qa_b qa_B qa_n qa_o aa_h
            obtain ⟨Wa,hWa⟩:∃ W,war.setCell ⟨b,6,none⟩ (.slice Aa (pd.known.length+1) ca)=W:=⟨_,rfl⟩
            replace HPa:Aside0 (eF Wa w0.heap.size b { pd with known:=pd.known++[((lo:Int),(hi:Int))] } (.slice Aa (pd.known.length+1) ca) vu1 vl1 u):=hWa▸HPa;replace HMa:Aside0 (eW Wd Wa b (Value.slice A6 p1.known.length c6) vu1 vl1 (.slice Aa (pd.known.length+1) ca) vu1 vl1):=hWa▸HMa;rw[hWa];clear hWa;have k6:=HPa.out.row.at 6 _ rfl;have k7:=HPa.out.row.at 8 _ rfl;have k8:=HPa.out.row.free 8 bG;have z4:IntKind.i64.wrap (pd.known.length:Int)=(pd.known.length:Int):=by rw[IntWalk.i64_in _ bA]
            go_wp2_with fail
            obtain ⟨hpc,hmc⟩:=fW HPa.out 8 (.int .i64 pd.known.length) { pd with known:=pd.known++[((lo:Int),(hi:Int))],lang:=pd.known.length } u rfl rfl rfl rfl bA
            go_meet
            case rel=>exact ⟨_,_,_,_,true,rfl,⟨hpc⟩,⟨(HMd.out.trans HMa.out).trans hmc⟩,⟨.inl ⟨rfl,by
             rw[← HPE.out];rw[← wQ (E:=eH st) (p:=p1) (by rw[HML0.out,show (eH st).lang sid=false from HL1.out,show (eH st).dis sid=true from HL2.out];rfl)];rw[show (eH st).lang sid=false from HL1.out]
             simp⟩⟩⟩
           ·clear hSn
            go_upto_region 44 with (first
           | (at_lookup;refine wpList_lookup_own_ok_int _ rfl _ _ 66 rfl 9 3 .i64 law9 Tryz.underlying66 Tryz.underlying3 (zero3 _) mb nn D rfl hown _ _ rfl hkey ?_;intro c hat hwc;rw[hhx];clear hat hwc hown hkey hhx)
           | fail)
            have qa_0:=HP6.out.row.at 6 _ rfl;have qa_f:=HP6.out.row.free 6 bG;have qa_b:=HP6.out.lt;have qa_B:w0.heap.size≤wn.heap.size:=Nat.le_trans HP6.out.base (Nat.le_of_lt qa_b);have qa_n:=bW HP6.out.nk;have qa_o:=bW HP6.out.ok;refine hY (n:=11) (S:=fun w'=>w'.cell? ⟨b,6,none⟩=some (Value.slice A6 p1.known.length c6)∧w'.cell? ⟨I,0,none⟩=some (.int .i64 lo)∧w'.cell? ⟨I,1,none⟩=some (.int .i64 hi)) (ds:=[10]) _ bB rfl rfl ⟨qa_0,d1,d2⟩ (fun hHeld=>?_);refine sA1 0 (some 215) sB1 ?_
            refine sA1 1 (some 216) sB1 ?_
            refine sA1 2 (some 217) sB1 ?_
            refine sA1 3 (some 218) sB1 ?_
            refine sC1 4 (some 219) sD1 ?_
            refine sC1 5 (some 220) sD1 ?_
            refine sF1 6 (some 221) sG1 (fun K hK=>?_);refine kT (w1:=?_) (v:=?_) bH rfl ?_ ?_;rotate_left 2
            ·go_simp;constructor
             ·rfl
             rfl
            have aa_h:Below wn.heap.size wn (wn.drew.alloc (.cells ([.int .i64 lo,.int .i64 hi]:List Value).toArray 78)):=(Below.refl _ _).drew.alloc (Nat.le_refl _) _;refine hK.out _ _ ⟨((aa_h.cell (p:=⟨b,6,none⟩) (World.block_lt_of_cell? wn ⟨b,6,none⟩ qa_0)).trans qa_0),((aa_h.cell (p:=⟨I,0,none⟩) (World.block_lt_of_cell? wn ⟨I,0,none⟩ d1)).trans d1),((aa_h.cell (p:=⟨I,1,none⟩) (World.block_lt_of_cell? wn ⟨I,1,none⟩ d2)).trans d2)⟩ (fun hHeld=>?_);clear hK K;refine gJ sJ1 ?_
            refine sF1 7 (some 222) sG1 (fun K hK=>?_);refine gE (w0:=wn) (W:=wn.drew) w0.heap.size bH (.tmp 219) (.tmp 221) 75 78 _ 2 16 bH Tryz.underlying75 mI rfl bF bF (Value.slice A6 p1.known.length c6) p1.known.length (pairs p1.known) [.int .i64 lo,.int .i64 hi] bH bH bH bL qa_o.out ((Below.refl _ _).drew) qa_B bA ?_;intro va war oa bba ga ta;obtain ⟨Aa,ca,eva⟩:=fL oa;subst eva;have xa_0:=ga.cell (w:=wn.drew) (a:=⟨b,6,none⟩) qa_0 qa_n.out;have xa_f:=(World.frozen?_of_block (w:=wn.drew) (a:=⟨b,6,none⟩) (ga.block b qa_b qa_n.out)).trans qa_f;have xa_1:=ga.cell (w:=wn.drew) (a:=⟨I,0,none⟩) d1 hI6.2.1
            have xa_2:=ga.cell (w:=wn.drew) (a:=⟨I,1,none⟩) d2 hI6.2.1
            have gga:wn.grownBy war (Value.slice A6 p1.known.length c6).ownBlock:=⟨ga.os,ga.tape,ga.output,ga.size,ga.block⟩
            obtain ⟨hpa,hma⟩:=jZ HP6.out (lo,hi) (w':=war) oa gga ta;have HPa:=bW hpa;have HMa:=bW hma;clear hpa hma oa bba ga gga ta;refine hK.out _ _ ⟨xa_0,xa_1,xa_2⟩ (fun hHeld=>?_);clear hK K;refine gJ sJ1 ?_
            refine sA1 8 (some 223) sB1 ?_
            refine sA1 9 (some 224) sB1 ?_
            refine sH1 10 none sI1 (fun K hK=>?_);refine iO (w1:=?_) bH rfl ?_ ?_;rotate_left
            ·go_simp;rfl
            refine hK.out _ _ ?_;clear hK K;refine iK bB ?_;clear d1 d2 xa_0 xa_f xa_1 xa_2 qa_0 qa_f qa_b qa_B qa_n qa_o aa_h
            obtain ⟨Wa,hWa⟩:∃ W,war.setCell ⟨b,6,none⟩ (.slice Aa (p1.known.length+1) ca)=W:=⟨_,rfl⟩
            replace HPa:Aside0 (eF Wa w0.heap.size b { p1 with known:=p1.known++[((lo:Int),(hi:Int))] } (.slice Aa (p1.known.length+1) ca) vu1 vl1 u):=hWa▸HPa;replace HMa:Aside0 (eW wn Wa b (Value.slice A6 p1.known.length c6) vu1 vl1 (.slice Aa (p1.known.length+1) ca) vu1 vl1):=hWa▸HMa;rw[hWa];clear hWa;have k6:=HPa.out.row.at 6 _ rfl;have k7:=HPa.out.row.at 8 _ rfl;have k8:=HPa.out.row.free 8 bG;have z4:IntKind.i64.wrap (p1.known.length:Int)=(p1.known.length:Int):=by rw[IntWalk.i64_in _ bA]
            go_wp2_with fail
            obtain ⟨hpc,hmc⟩:=fW HPa.out 8 (.int .i64 p1.known.length) { p1 with known:=p1.known++[((lo:Int),(hi:Int))],lang:=p1.known.length } u rfl rfl rfl rfl bA
            go_meet
            case rel=>exact ⟨_,_,_,_,true,rfl,⟨hpc⟩,⟨HMa.out.trans hmc⟩,⟨.inl ⟨rfl,by
             rw[← wQ (E:=eH st) (p:=p1) (by rw[HML0.out,show (eH st).lang sid=true from HL1.out];rfl)];rw[show (eH st).lang sid=true from HL1.out]
             simp⟩⟩⟩
         as_aux_lemma =>
          obtain ⟨p2,vk2,vu2,vl2,f2,rfl,HP7,HM7,HC7⟩:=hcut;cases f2;rotate_left
          ·have hc7:=HC7.out;simp only[true_and,Bool.true_eq_false,false_and,or_false] at hc7;have HWO:=bW (hc7.trans HWP.out.symm);clear HC7 hc7;go_wp2_with fail
           go_meet
           case rel=>exact ⟨_,_,_,_,true,rfl,HP7,⟨HM6.out.trans HM7.out⟩,HWO⟩
          have hc7:=HC7.out;simp only[Bool.false_eq_true,false_and,true_and,false_or] at hc7;obtain ⟨rfl,rfl,rfl,rfl,hb7,hno⟩:=hc7;have HNL:=bW hno;have HBc:=bW hb7;have HPc:=HP7
          obtain ⟨wf,rfl⟩:∃ x,x=wc:=⟨_,rfl⟩
          clear HC7 HM7 HP7 hno;have hRc:=HR2.out.below hb7 hs1;have d1:=hRc.at 0 _ rfl;have d2:=hRc.at 1 _ rfl;clear hRc hb7;go_upto_if 238 with fail
          go_cut [20] from 239 to 269 (fun s20 wx=>∃ p2 vk2 vu2 vl2 f2,s20 = .bool f2∧Aside0 (eF wx w0.heap.size b p2 vk2 vu2 vl2 u)∧Aside0 (eW wn wx b (Value.slice A6 p1.known.length c6) vu1 vl1 vk2 vu2 vl2)∧Aside0 ((f2=true∧(p2,true)=jF (eH st) p1 comp nd last ((lo:Int),(hi:Int)) sid)∨(f2=false∧p1=p2∧(Value.slice A6 p1.known.length c6)=vk2∧vu1=vu2∧vl1=vl2∧Below wn.heap.size wn wx∧NF (eH st) p1 comp sid)))
          case first =>
           as_aux_lemma =>
            cases lay
            ·go_wp2_with fail
             go_meet
             case rel=>exact ⟨p1,_,vu1,vl1,false,rfl,HPc,⟨eW.of_below HBc.out⟩,⟨.inr ⟨rfl,rfl,rfl,rfl,rfl,HBc.out,by unfold NF;rw[HLAY.out];rfl⟩⟩⟩
            have hSc:=HS.out.below (HB2.out.trans (HBc.out.mono HB2.out.size));have s2:=hSc.row.at 2 _ rfl;have HSc:=bW hSc
            obtain ⟨fa,hfa⟩:∃ c,lM st.fmts sid (fE p1 0)=c:=⟨_,rfl⟩
            have HFA:=bW hfa;clear hSc hfa;go_upto_region 47 with fail
            refine hY (n:=8) (S:=fun w'=>w'.cell? ⟨pb,2,none⟩=some (.func (.func 64) #[] #[.pointer (some ⟨sb,0,none⟩)])) (ds:=[]) _ bB rfl rfl (s2) (fun hHeld=>?_);refine sA1 0 (some 239) sB1 ?_
            refine sA1 1 (some 240) sB1 ?_
            refine sA1 2 (some 241) sB1 ?_
            refine sA1 4 (some 243) sB1 ?_
            refine sA1 5 (some 244) sB1 ?_
            refine sC1 3 (some 242) sK1 ?_
            refine sF1 6 (some 245) sG1 (fun K hK=>?_);refine lA Tryz.func85 bB rfl #[.pointer (some ⟨b,0,none⟩)] bH rfl rfl bI ?_
            with_reducible refine (xZ HPc.out.drew HO.out).mono ?_
            rintro e wE ⟨rfl,hbE⟩;refine ⟨_,rfl,?_⟩;have sE:=(hbE.cell (p:=⟨pb,2,none⟩) (World.block_lt_of_cell? wf ⟨pb,2,none⟩ s2)).trans s2;have HBE:=bW hbE;refine hK.out _ _ (sE) (fun hHeld=>?_);clear hK K;refine gJ sJ1 ?_
            refine sF1 7 (some 246) sG1 (fun K hK=>?_);refine aGk #[.pointer (some ⟨sb,0,none⟩)] Tryz.func64 bB rfl #[.string sid,.string (fE p1 0)] bH rfl rfl bH bI ?_;have cF:=oG (HSc.out.below (eA ((Below.refl _ _).drew) HBE.out)).site OS sid (fE p1 0);rw[HFA.out] at cF;refine cF.mono ?_;rintro e wF ⟨rfl,hbF⟩;refine ⟨_,rfl,?_⟩;have sF:=(hbF.cell (p:=⟨pb,2,none⟩) (World.block_lt_of_cell? wE ⟨pb,2,none⟩ sE)).trans sE;have HBF:=bW hbF;refine hK.out _ _ (sF) (fun hHeld=>?_);clear hK K;refine gJ sJ1 ?_
            refine iK bB ?_;have hbT:Below wf.heap.size wf wF:=eA (eA ((Below.refl _ _).drew) HBE.out) HBF.out;have HPf:=bW (HPc.out.below hbT);have HBf:=bW (eA HBc.out hbT);clear sE sF s2 hbT d1 d2
            (try clear hbE);(try clear hbF);(try clear cF)
            cases fa
            ·go_wp2_with fail
             go_meet
             case rel=>exact ⟨p1,_,vu1,vl1,false,rfl,HPf,⟨eW.of_below HBf.out⟩,⟨.inr ⟨rfl,rfl,rfl,rfl,rfl,HBf.out,by unfold NF;rw[HLAY.out,show (eH st).fmt sid (fE p1 0)=false from HFA.out];rfl⟩⟩⟩
            have hRf:=HR2.out.below HBf.out hs1;have d1:=hRf.at 0 _ rfl;have d2:=hRf.at 1 _ rfl;clear hRf;go_upto_region 49 with fail
            have qa_0:=HPf.out.row.at 6 _ rfl;have qa_f:=HPf.out.row.free 6 bG;have qa_b:=HPf.out.lt;have qa_B:w0.heap.size≤wF.heap.size:=Nat.le_trans HPf.out.base (Nat.le_of_lt qa_b);have qa_n:=bW HPf.out.nk;have qa_o:=bW HPf.out.ok;refine hY (n:=11) (S:=fun w'=>w'.cell? ⟨b,6,none⟩=some (Value.slice A6 p1.known.length c6)∧w'.cell? ⟨I,0,none⟩=some (.int .i64 lo)∧w'.cell? ⟨I,1,none⟩=some (.int .i64 hi)) (ds:=[10]) _ bB rfl rfl ⟨qa_0,d1,d2⟩ (fun hHeld=>?_);refine sA1 0 (some 247) sB1 ?_
            refine sA1 1 (some 248) sB1 ?_
            refine sA1 2 (some 249) sB1 ?_
            refine sA1 3 (some 250) sB1 ?_
            refine sC1 4 (some 251) sD1 ?_
            refine sC1 5 (some 252) sD1 ?_
            refine sF1 6 (some 253) sG1 (fun K hK=>?_);refine kT (w1:=?_) (v:=?_) bH rfl ?_ ?_;rotate_left 2
            ·go_simp;constructor
             ·rfl
             rfl
            have aa_h:Below wF.heap.size wF (wF.drew.alloc (.cells ([.int .i64 lo,.int .i64 hi]:List Value).toArray 78)):=(Below.refl _ _).drew.alloc (Nat.le_refl _) _;refine hK.out _ _ ⟨((aa_h.cell (p:=⟨b,6,none⟩) (World.block_lt_of_cell? wF ⟨b,6,none⟩ qa_0)).trans qa_0),((aa_h.cell (p:=⟨I,0,none⟩) (World.block_lt_of_cell? wF ⟨I,0,none⟩ d1)).trans d1),((aa_h.cell (p:=⟨I,1,none⟩) (World.block_lt_of_cell? wF ⟨I,1,none⟩ d2)).trans d2)⟩ (fun hHeld=>?_);clear hK K;refine gJ sJ1 ?_
            refine sF1 7 (some 254) sG1 (fun K hK=>?_);refine gE (w0:=wF) (W:=wF.drew) w0.heap.size bH (.tmp 251) (.tmp 253) 75 78 _ 2 16 bH Tryz.underlying75 mI rfl bF bF (Value.slice A6 p1.known.length c6) p1.known.length (pairs p1.known) [.int .i64 lo,.int .i64 hi] bH bH bH bL qa_o.out ((Below.refl _ _).drew) qa_B bA ?_;intro va war oa bba ga ta;obtain ⟨Aa,ca,eva⟩:=fL oa;subst eva;have xa_0:=ga.cell (w:=wF.drew) (a:=⟨b,6,none⟩) qa_0 qa_n.out;have xa_f:=(World.frozen?_of_block (w:=wF.drew) (a:=⟨b,6,none⟩) (ga.block b qa_b qa_n.out)).trans qa_f;have xa_1:=ga.cell (w:=wF.drew) (a:=⟨I,0,none⟩) d1 hI6.2.1
            have xa_2:=ga.cell (w:=wF.drew) (a:=⟨I,1,none⟩) d2 hI6.2.1
            have gga:wF.grownBy war (Value.slice A6 p1.known.length c6).ownBlock:=⟨ga.os,ga.tape,ga.output,ga.size,ga.block⟩
            obtain ⟨hpa,hma⟩:=jZ HPf.out (lo,hi) (w':=war) oa gga ta;have HPa:=bW hpa;have HMa:=bW hma;clear hpa hma oa bba ga gga ta;refine hK.out _ _ ⟨xa_0,xa_1,xa_2⟩ (fun hHeld=>?_);clear hK K;refine gJ sJ1 ?_
            refine sA1 8 (some 255) sB1 ?_
            refine sA1 9 (some 256) sB1 ?_
            refine sH1 10 none sI1 (fun K hK=>?_);refine iO (w1:=?_) bH rfl ?_ ?_;rotate_left
            ·go_simp;rfl
            refine hK.out _ _ ?_;clear hK K;refine iK bB ?_;clear d1 d2 xa_0 xa_f xa_1 xa_2 qa_0 qa_f qa_b qa_B qa_n qa_o aa_h
            obtain ⟨Wa,hWa⟩:∃ W,war.setCell ⟨b,6,none⟩ (.slice Aa (p1.known.length+1) ca)=W:=⟨_,rfl⟩
            replace HPa:Aside0 (eF Wa w0.heap.size b { p1 with known:=p1.known++[((lo:Int),(hi:Int))] } (.slice Aa (p1.known.length+1) ca) vu1 vl1 u):=hWa▸HPa;replace HMa:Aside0 (eW wF Wa b (Value.slice A6 p1.known.length c6) vu1 vl1 (.slice Aa (p1.known.length+1) ca) vu1 vl1):=hWa▸HMa;rw[hWa];clear hWa;have k6:=HPa.out.row.at 6 _ rfl;have k7:=HPa.out.row.at 9 _ rfl;have k8:=HPa.out.row.free 9 bG;have z4:IntKind.i64.wrap (p1.known.length:Int)=(p1.known.length:Int):=by rw[IntWalk.i64_in _ bA]
            go_wp2_with fail
            obtain ⟨hpc,hmc⟩:=fW HPa.out 9 (.int .i64 p1.known.length) { p1 with known:=p1.known++[((lo:Int),(hi:Int))],fmt:=p1.known.length } u rfl rfl rfl rfl bA
            go_meet
            case rel=>exact ⟨_,_,_,_,true,rfl,⟨hpc⟩,⟨((eW.of_below HBf.out).trans HMa.out).trans hmc⟩,⟨.inl ⟨rfl,aFf HNL.out (by rw[HLAY.out,show (eH st).fmt sid (fE p1 0)=true from HFA.out];rfl)⟩⟩⟩
          as_aux_lemma =>
           obtain ⟨p2,vk2,vu2,vl2,f2,rfl,HP7,HM7,HC7⟩:=hcut;cases f2;rotate_left
           ·have hc7:=HC7.out;simp only[true_and,Bool.true_eq_false,false_and,or_false] at hc7;have HWO:=bW (hc7.trans HWP.out.symm);clear HC7 hc7;go_wp2_with fail
            go_meet
            case rel=>exact ⟨_,_,_,_,true,rfl,HP7,⟨HM6.out.trans HM7.out⟩,HWO⟩
           have hc7:=HC7.out;simp only[Bool.false_eq_true,false_and,true_and,false_or] at hc7;obtain ⟨rfl,rfl,rfl,rfl,hb7,hno⟩:=hc7;have HNF:=bW hno;have HBc:=bW hb7;have HPc:=HP7
           obtain ⟨wk,rfl⟩:∃ x,x=wc:=⟨_,rfl⟩
           clear HC7 HM7 HP7 hno;have hRc:=HR2.out.below hb7 hs1;have d1:=hRc.at 0 _ rfl;have d2:=hRc.at 1 _ rfl;clear hRc hb7;go_upto_if 270 with fail
           go_cut [20] from 271 to 297 (fun s20 wx=>∃ p2 vk2 vu2 vl2 f2,s20 = .bool f2∧Aside0 (eF wx w0.heap.size b p2 vk2 vu2 vl2 u)∧Aside0 (eW wn wx b (Value.slice A6 p1.known.length c6) vu1 vl1 vk2 vu2 vl2)∧Aside0 ((f2=true∧(p2,true)=jF (eH st) p1 comp nd last ((lo:Int),(hi:Int)) sid)∨(f2=false∧p1=p2∧(Value.slice A6 p1.known.length c6)=vk2∧vu1=vu2∧vl1=vl2∧Below wn.heap.size wn wx∧NK p1 comp sid)))
           case first =>
            as_aux_lemma =>
             cases mk
             ·go_wp2_with fail
              go_meet
              case rel=>exact ⟨p1,_,vu1,vl1,false,rfl,HPc,⟨eW.of_below HBc.out⟩,⟨.inr ⟨rfl,rfl,rfl,rfl,rfl,HBc.out,by unfold NK;rw[HMK.out];rfl⟩⟩⟩
             have ck:=oN sid wk hsz (fun j c hc=>HAS.out j c hc)
             obtain ⟨kz,hkz⟩:∃ c,isKind sid=c:=⟨_,rfl⟩
             have HKZ:=bW hkz;clear hkz;go_upto_region 52 with fail
             go_wp2_with fail
             refine ck.mono ?_;rintro e wF ⟨r,rfl,hr,hbF⟩;have hbT:=hbF;have HPf:=bW (HPc.out.below hbT);have HBf:=bW (eA HBc.out hbT);have hr1:(r.toList==[]) = !kz:=by rw[hr,← HKZ.out];rfl
             have hr2:(r.toList != [])=kz:=by rw[bne,hr1,Bool.not_not]
             clear hbT hbF ck hr d1 d2;cases kz
             ·go_wp2_with fail
              go_meet
              case rel=>exact ⟨p1,_,vu1,vl1,false,rfl,HPf,⟨eW.of_below HBf.out⟩,⟨.inr ⟨rfl,rfl,rfl,rfl,rfl,HBf.out,by unfold NK;rw[HMK.out,HKZ.out];rfl⟩⟩⟩
             have hRf:=HR2.out.below HBf.out hs1;have d1:=hRf.at 0 _ rfl;have d2:=hRf.at 1 _ rfl;clear hRf;go_upto_region 54 with fail
             clear hr1 hr2;have qa_0:=HPf.out.row.at 6 _ rfl;have qa_f:=HPf.out.row.free 6 bG;have qa_b:=HPf.out.lt;have qa_B:w0.heap.size≤wF.heap.size:=Nat.le_trans HPf.out.base (Nat.le_of_lt qa_b);have qa_n:=bW HPf.out.nk;have qa_o:=bW HPf.out.ok;refine hY (n:=11) (S:=fun w'=>w'.cell? ⟨b,6,none⟩=some (Value.slice A6 p1.known.length c6)∧w'.cell? ⟨I,0,none⟩=some (.int .i64 lo)∧w'.cell? ⟨I,1,none⟩=some (.int .i64 hi)) (ds:=[10]) _ bB rfl rfl ⟨qa_0,d1,d2⟩ (fun hHeld=>?_);refine sA1 0 (some 274) sB1 ?_
             refine sA1 1 (some 275) sB1 ?_
             refine sA1 2 (some 276) sB1 ?_
             refine sA1 3 (some 277) sB1 ?_
             refine sC1 4 (some 278) sD1 ?_
             refine sC1 5 (some 279) sD1 ?_
             refine sF1 6 (some 280) sG1 (fun K hK=>?_);refine kT (w1:=?_) (v:=?_) bH rfl ?_ ?_;rotate_left 2
             ·go_simp;constructor
              ·rfl
              rfl
             have aa_h:Below wF.heap.size wF (wF.drew.alloc (.cells ([.int .i64 lo,.int .i64 hi]:List Value).toArray 78)):=(Below.refl _ _).drew.alloc (Nat.le_refl _) _;refine hK.out _ _ ⟨((aa_h.cell (p:=⟨b,6,none⟩) (World.block_lt_of_cell? wF ⟨b,6,none⟩ qa_0)).trans qa_0),((aa_h.cell (p:=⟨I,0,none⟩) (World.block_lt_of_cell? wF ⟨I,0,none⟩ d1)).trans d1),((aa_h.cell (p:=⟨I,1,none⟩) (World.block_lt_of_cell? wF ⟨I,1,none⟩ d2)).trans d2)⟩ (fun hHeld=>?_);clear hK K;refine gJ sJ1 ?_
             refine sF1 7 (some 281) sG1 (fun K hK=>?_);refine gE (w0:=wF) (W:=wF.drew) w0.heap.size bH (.tmp 278) (.tmp 280) 75 78 _ 2 16 bH Tryz.underlying75 mI rfl bF bF (Value.slice A6 p1.known.length c6) p1.known.length (pairs p1.known) [.int .i64 lo,.int .i64 hi] bH bH bH bL qa_o.out ((Below.refl _ _).drew) qa_B bA ?_;intro va war oa bba ga ta;obtain ⟨Aa,ca,eva⟩:=fL oa;subst eva;have xa_0:=ga.cell (w:=wF.drew) (a:=⟨b,6,none⟩) qa_0 qa_n.out;have xa_f:=(World.frozen?_of_block (w:=wF.drew) (a:=⟨b,6,none⟩) (ga.block b qa_b qa_n.out)).trans qa_f;have xa_1:=ga.cell (w:=wF.drew) (a:=⟨I,0,none⟩) d1 hI6.2.1
             have xa_2:=ga.cell (w:=wF.drew) (a:=⟨I,1,none⟩) d2 hI6.2.1
             have gga:wF.grownBy war (Value.slice A6 p1.known.length c6).ownBlock:=⟨ga.os,ga.tape,ga.output,ga.size,ga.block⟩
             obtain ⟨hpa,hma⟩:=jZ HPf.out (lo,hi) (w':=war) oa gga ta;have HPa:=bW hpa;have HMa:=bW hma;clear hpa hma oa bba ga gga ta;refine hK.out _ _ ⟨xa_0,xa_1,xa_2⟩ (fun hHeld=>?_);clear hK K;refine gJ sJ1 ?_
             refine sA1 8 (some 282) sB1 ?_
             refine sA1 9 (some 283) sB1 ?_
             refine sH1 10 none sI1 (fun K hK=>?_);refine iO (w1:=?_) bH rfl ?_ ?_;rotate_left
             ·go_simp;rfl
             refine hK.out _ _ ?_;clear hK K;refine iK bB ?_;clear d1 d2 xa_0 xa_f xa_1 xa_2 qa_0 qa_f qa_b qa_B qa_n qa_o aa_h
             obtain ⟨Wa,hWa⟩:∃ W,war.setCell ⟨b,6,none⟩ (.slice Aa (p1.known.length+1) ca)=W:=⟨_,rfl⟩
             replace HPa:Aside0 (eF Wa w0.heap.size b { p1 with known:=p1.known++[((lo:Int),(hi:Int))] } (.slice Aa (p1.known.length+1) ca) vu1 vl1 u):=hWa▸HPa;replace HMa:Aside0 (eW wF Wa b (Value.slice A6 p1.known.length c6) vu1 vl1 (.slice Aa (p1.known.length+1) ca) vu1 vl1):=hWa▸HMa;rw[hWa];clear hWa;have k6:=HPa.out.row.at 6 _ rfl;have k7:=HPa.out.row.at 10 _ rfl;have k8:=HPa.out.row.free 10 bG;have z4:IntKind.i64.wrap (p1.known.length:Int)=(p1.known.length:Int):=by rw[IntWalk.i64_in _ bA]
             go_wp2_with fail
             obtain ⟨hpc,hmc⟩:=fW HPa.out 10 (.int .i64 p1.known.length) { p1 with known:=p1.known++[((lo:Int),(hi:Int))],kind:=p1.known.length } u rfl rfl rfl rfl bA
             go_meet
             case rel=>exact ⟨_,_,_,_,true,rfl,⟨hpc⟩,⟨((eW.of_below HBf.out).trans HMa.out).trans hmc⟩,⟨.inl ⟨rfl,aD0 HNL.out HNF.out (by rw[HMK.out,HKZ.out];rfl)⟩⟩⟩
           as_aux_lemma =>
            obtain ⟨p2,vk2,vu2,vl2,f2,rfl,HP7,HM7,HC7⟩:=hcut;cases f2;rotate_left
            ·have hc7:=HC7.out;simp only[true_and,Bool.true_eq_false,false_and,or_false] at hc7;have HWO:=bW (hc7.trans HWP.out.symm);clear HC7 hc7;go_wp2_with fail
             go_meet
             case rel=>exact ⟨_,_,_,_,true,rfl,HP7,⟨HM6.out.trans HM7.out⟩,HWO⟩
            have hc7:=HC7.out;simp only[Bool.false_eq_true,false_and,true_and,false_or] at hc7;obtain ⟨rfl,rfl,rfl,rfl,hb7,hno⟩:=hc7;have HNK:=bW hno;have HBc:=bW hb7;have HPc:=HP7
            obtain ⟨wb,rfl⟩:∃ x,x=wc:=⟨_,rfl⟩
            clear HC7 HM7 HP7 hno;have hRc:=HR2.out.below hb7 hs1;have d1:=hRc.at 0 _ rfl;have d2:=hRc.at 1 _ rfl;clear hRc hb7
            obtain ⟨bz,hbz⟩:∃ c,(sid.toList==[98,97,115,101,111,102])=c:=⟨_,rfl⟩
            have HBZ:=bW hbz;go_upto_if 298 with fail
            go_cut [20] from 299 to 321 (fun s20 wx=>∃ p2 vk2 vu2 vl2 f2,s20 = .bool f2∧Aside0 (eF wx w0.heap.size b p2 vk2 vu2 vl2 u)∧Aside0 (eW wn wx b (Value.slice A6 p1.known.length c6) vu1 vl1 vk2 vu2 vl2)∧Aside0 ((f2=true∧(p2,true)=jF (eH st) p1 comp nd last ((lo:Int),(hi:Int)) sid)∨(f2=false∧p1=p2∧(Value.slice A6 p1.known.length c6)=vk2∧vu1=vu2∧vl1=vl2∧Below wn.heap.size wn wx∧NB sid)))
            case first =>
             as_aux_lemma =>
              cases bz
              ·go_wp2_with fail
               go_meet
               case rel=>exact ⟨p1,_,vu1,vl1,false,rfl,HPc,⟨eW.of_below HBc.out⟩,⟨.inr ⟨rfl,rfl,rfl,rfl,rfl,HBc.out,by unfold NB;exact HBZ.out⟩⟩⟩
              go_upto_region 58 with fail
              (try clear hbz)
              have qa_0:=HPc.out.row.at 6 _ rfl;have qa_f:=HPc.out.row.free 6 bG;have qa_b:=HPc.out.lt;have qa_B:w0.heap.size≤wb.heap.size:=Nat.le_trans HPc.out.base (Nat.le_of_lt qa_b);have qa_n:=bW HPc.out.nk;have qa_o:=bW HPc.out.ok;refine hY (n:=11) (S:=fun w'=>w'.cell? ⟨b,6,none⟩=some (Value.slice A6 p1.known.length c6)∧w'.cell? ⟨I,0,none⟩=some (.int .i64 lo)∧w'.cell? ⟨I,1,none⟩=some (.int .i64 hi)) (ds:=[10]) _ bB rfl rfl ⟨qa_0,d1,d2⟩ (fun hHeld=>?_);refine sA1 0 (some 299) sB1 ?_
              refine sA1 1 (some 300) sB1 ?_
              refine sA1 2 (some 301) sB1 ?_
              refine sA1 3 (some 302) sB1 ?_
              refine sC1 4 (some 303) sD1 ?_
              refine sC1 5 (some 304) sD1 ?_
              refine sF1 6 (some 305) sG1 (fun K hK=>?_);refine kT (w1:=?_) (v:=?_) bH rfl ?_ ?_;rotate_left 2
              ·go_simp;constructor
               ·rfl
               rfl
              have aa_h:Below wb.heap.size wb (wb.drew.alloc (.cells ([.int .i64 lo,.int .i64 hi]:List Value).toArray 78)):=(Below.refl _ _).drew.alloc (Nat.le_refl _) _;refine hK.out _ _ ⟨((aa_h.cell (p:=⟨b,6,none⟩) (World.block_lt_of_cell? wb ⟨b,6,none⟩ qa_0)).trans qa_0),((aa_h.cell (p:=⟨I,0,none⟩) (World.block_lt_of_cell? wb ⟨I,0,none⟩ d1)).trans d1),((aa_h.cell (p:=⟨I,1,none⟩) (World.block_lt_of_cell? wb ⟨I,1,none⟩ d2)).trans d2)⟩ (fun hHeld=>?_);clear hK K;refine gJ sJ1 ?_
              refine sF1 7 (some 306) sG1 (fun K hK=>?_);refine gE (w0:=wb) (W:=wb.drew) w0.heap.size bH (.tmp 303) (.tmp 305) 75 78 _ 2 16 bH Tryz.underlying75 mI rfl bF bF (Value.slice A6 p1.known.length c6) p1.known.length (pairs p1.known) [.int .i64 lo,.int .i64 hi] bH bH bH bL qa_o.out ((Below.refl _ _).drew) qa_B bA ?_;intro va war oa bba ga ta;obtain ⟨Aa,ca,eva⟩:=fL oa;subst eva;have xa_0:=ga.cell (w:=wb.drew) (a:=⟨b,6,none⟩) qa_0 qa_n.out;have xa_f:=(World.frozen?_of_block (w:=wb.drew) (a:=⟨b,6,none⟩) (ga.block b qa_b qa_n.out)).trans qa_f;have xa_1:=ga.cell (w:=wb.drew) (a:=⟨I,0,none⟩) d1 hI6.2.1
              have xa_2:=ga.cell (w:=wb.drew) (a:=⟨I,1,none⟩) d2 hI6.2.1
              have gga:wb.grownBy war (Value.slice A6 p1.known.length c6).ownBlock:=⟨ga.os,ga.tape,ga.output,ga.size,ga.block⟩
              obtain ⟨hpa,hma⟩:=jZ HPc.out (lo,hi) (w':=war) oa gga ta;have HPa:=bW hpa;have HMa:=bW hma;clear hpa hma oa bba ga gga ta;refine hK.out _ _ ⟨xa_0,xa_1,xa_2⟩ (fun hHeld=>?_);clear hK K;refine gJ sJ1 ?_
              refine sA1 8 (some 307) sB1 ?_
              refine sA1 9 (some 308) sB1 ?_
              refine sH1 10 none sI1 (fun K hK=>?_);refine iO (w1:=?_) bH rfl ?_ ?_;rotate_left
              ·go_simp;rfl
              refine hK.out _ _ ?_;clear hK K;refine iK bB ?_;clear d1 d2 xa_0 xa_f xa_1 xa_2 qa_0 qa_f qa_b qa_B qa_n qa_o aa_h
              obtain ⟨Wa,hWa⟩:∃ W,war.setCell ⟨b,6,none⟩ (.slice Aa (p1.known.length+1) ca)=W:=⟨_,rfl⟩
              replace HPa:Aside0 (eF Wa w0.heap.size b { p1 with known:=p1.known++[((lo:Int),(hi:Int))] } (.slice Aa (p1.known.length+1) ca) vu1 vl1 u):=hWa▸HPa;replace HMa:Aside0 (eW wb Wa b (Value.slice A6 p1.known.length c6) vu1 vl1 (.slice Aa (p1.known.length+1) ca) vu1 vl1):=hWa▸HMa;rw[hWa];clear hWa;have k6:=HPa.out.row.at 6 _ rfl;have k7:=HPa.out.row.at 12 _ rfl;have k8:=HPa.out.row.free 12 bG;have z4:IntKind.i64.wrap (p1.known.length:Int)=(p1.known.length:Int):=by rw[IntWalk.i64_in _ bA]
              go_wp2_with fail
              obtain ⟨hpc,hmc⟩:=fW HPa.out 12 (.int .i64 p1.known.length) { p1 with known:=p1.known++[((lo:Int),(hi:Int))],base:=p1.known.length } u rfl rfl rfl rfl bA
              go_meet
              case rel=>exact ⟨_,_,_,_,true,rfl,⟨hpc⟩,⟨((eW.of_below HBc.out).trans HMa.out).trans hmc⟩,⟨.inl ⟨rfl,aDz HNL.out HNF.out HNK.out HBZ.out⟩⟩⟩
            as_aux_lemma =>
             obtain ⟨p2,vk2,vu2,vl2,f2,rfl,HP7,HM7,HC7⟩:=hcut;cases f2;rotate_left
             ·have hc7:=HC7.out;simp only[true_and,Bool.true_eq_false,false_and,or_false] at hc7;have HWO:=bW (hc7.trans HWP.out.symm);clear HC7 hc7;go_wp2_with fail
              go_meet
              case rel=>exact ⟨_,_,_,_,true,rfl,HP7,⟨HM6.out.trans HM7.out⟩,HWO⟩
             have hc7:=HC7.out;simp only[Bool.false_eq_true,false_and,true_and,false_or] at hc7;obtain ⟨rfl,rfl,rfl,rfl,hb7,hno⟩:=hc7;have HNB:=bW hno;have HBc:=bW hb7;have HPc:=HP7
             obtain ⟨wy,rfl⟩:∃ x,x=wc:=⟨_,rfl⟩
             clear HC7 HM7 HP7 hno;have hRc:=HR2.out.below hb7 hs1;have d1:=hRc.at 0 _ rfl;have d2:=hRc.at 1 _ rfl;clear hRc hb7;go_upto_if 322 with fail
             go_cut [20] from 323 to 376 (fun s20 wx=>∃ p2 vk2 vu2 vl2 f2,s20 = .bool f2∧Aside0 (eF wx w0.heap.size b p2 vk2 vu2 vl2 u)∧Aside0 (eW wn wx b (Value.slice A6 p1.known.length c6) vu1 vl1 vk2 vu2 vl2)∧Aside0 ((f2=true∧(p2,true)=jF (eH st) p1 comp nd last ((lo:Int),(hi:Int)) sid)∨(f2=false∧p1=p2∧(Value.slice A6 p1.known.length c6)=vk2∧vu1=vu2∧vl1=vl2∧Below wn.heap.size wn wx∧kZ p1 comp last=false)))
             case first =>
              as_aux_lemma =>
               cases my
               ·go_wp2_with fail
                go_meet
                case rel=>exact ⟨p1,_,vu1,vl1,false,rfl,HPc,⟨eW.of_below HBc.out⟩,⟨.inr ⟨rfl,rfl,rfl,rfl,rfl,HBc.out,by exact HMY.out⟩⟩⟩
               obtain ⟨lz,hlz⟩:∃ c,(p1.lay != -1)=c:=⟨_,rfl⟩
               have HLZ:=bW hlz;have h11:=HPc.out.row.at 11 _ rfl;go_upto_if 327 with fail
               clear h11 hlz;cases lz
               ·go_upto_region 64 with fail
                have qa_0:=HPc.out.row.at 6 _ rfl;have qa_f:=HPc.out.row.free 6 bG;have qa_b:=HPc.out.lt;have qa_B:w0.heap.size≤wy.heap.size:=Nat.le_trans HPc.out.base (Nat.le_of_lt qa_b);have qa_n:=bW HPc.out.nk;have qa_o:=bW HPc.out.ok;refine hY (n:=11) (S:=fun w'=>w'.cell? ⟨b,6,none⟩=some (Value.slice A6 p1.known.length c6)∧w'.cell? ⟨I,0,none⟩=some (.int .i64 lo)∧w'.cell? ⟨I,1,none⟩=some (.int .i64 hi)) (ds:=[10]) _ bB rfl rfl ⟨qa_0,d1,d2⟩ (fun hHeld=>?_);refine sA1 0 (some 357) sB1 ?_
                refine sA1 1 (some 358) sB1 ?_
                refine sA1 2 (some 359) sB1 ?_
                refine sA1 3 (some 360) sB1 ?_
                refine sC1 4 (some 361) sD1 ?_
                refine sC1 5 (some 362) sD1 ?_
                refine sF1 6 (some 363) sG1 (fun K hK=>?_);refine kT (w1:=?_) (v:=?_) bH rfl ?_ ?_;rotate_left 2
                ·go_simp;constructor
                 ·rfl
                 rfl
                have aa_h:Below wy.heap.size wy (wy.drew.alloc (.cells ([.int .i64 lo,.int .i64 hi]:List Value).toArray 78)):=(Below.refl _ _).drew.alloc (Nat.le_refl _) _;refine hK.out _ _ ⟨((aa_h.cell (p:=⟨b,6,none⟩) (World.block_lt_of_cell? wy ⟨b,6,none⟩ qa_0)).trans qa_0),((aa_h.cell (p:=⟨I,0,none⟩) (World.block_lt_of_cell? wy ⟨I,0,none⟩ d1)).trans d1),((aa_h.cell (p:=⟨I,1,none⟩) (World.block_lt_of_cell? wy ⟨I,1,none⟩ d2)).trans d2)⟩ (fun hHeld=>?_);clear hK K;refine gJ sJ1 ?_
                refine sF1 7 (some 364) sG1 (fun K hK=>?_);refine gE (w0:=wy) (W:=wy.drew) w0.heap.size bH (.tmp 361) (.tmp 363) 75 78 _ 2 16 bH Tryz.underlying75 mI rfl bF bF (Value.slice A6 p1.known.length c6) p1.known.length (pairs p1.known) [.int .i64 lo,.int .i64 hi] bH bH bH bL qa_o.out ((Below.refl _ _).drew) qa_B bA ?_;intro va war oa bba ga ta;obtain ⟨Aa,ca,eva⟩:=fL oa;subst eva;have xa_0:=ga.cell (w:=wy.drew) (a:=⟨b,6,none⟩) qa_0 qa_n.out;have xa_f:=(World.frozen?_of_block (w:=wy.drew) (a:=⟨b,6,none⟩) (ga.block b qa_b qa_n.out)).trans qa_f;have xa_1:=ga.cell (w:=wy.drew) (a:=⟨I,0,none⟩) d1 hI6.2.1
                have xa_2:=ga.cell (w:=wy.drew) (a:=⟨I,1,none⟩) d2 hI6.2.1
                have gga:wy.grownBy war (Value.slice A6 p1.known.length c6).ownBlock:=⟨ga.os,ga.tape,ga.output,ga.size,ga.block⟩
                obtain ⟨hpa,hma⟩:=jZ HPc.out (lo,hi) (w':=war) oa gga ta;have HPa:=bW hpa;have HMa:=bW hma;clear hpa hma oa bba ga gga ta;refine hK.out _ _ ⟨xa_0,xa_1,xa_2⟩ (fun hHeld=>?_);clear hK K;refine gJ sJ1 ?_
                refine sA1 8 (some 365) sB1 ?_
                refine sA1 9 (some 366) sB1 ?_
                refine sH1 10 none sI1 (fun K hK=>?_);refine iO (w1:=?_) bH rfl ?_ ?_;rotate_left
                ·go_simp;rfl
                refine hK.out _ _ ?_;clear hK K;refine iK bB ?_;clear d1 d2 xa_0 xa_f xa_1 xa_2 qa_0 qa_f qa_b qa_B qa_n qa_o aa_h
                obtain ⟨Wa,hWa⟩:∃ W,war.setCell ⟨b,6,none⟩ (.slice Aa (p1.known.length+1) ca)=W:=⟨_,rfl⟩
                replace HPa:Aside0 (eF Wa w0.heap.size b { p1 with known:=p1.known++[((lo:Int),(hi:Int))] } (.slice Aa (p1.known.length+1) ca) vu1 vl1 u):=hWa▸HPa;replace HMa:Aside0 (eW wy Wa b (Value.slice A6 p1.known.length c6) vu1 vl1 (.slice Aa (p1.known.length+1) ca) vu1 vl1):=hWa▸HMa;rw[hWa];clear hWa;have k6:=HPa.out.row.at 6 _ rfl;have k7:=HPa.out.row.at 11 _ rfl;have k8:=HPa.out.row.free 11 bG;have z4:IntKind.i64.wrap (p1.known.length:Int)=(p1.known.length:Int):=by rw[IntWalk.i64_in _ bA]
                go_wp2_with fail
                obtain ⟨hpc,hmc⟩:=fW HPa.out 11 (.int .i64 p1.known.length) { p1 with known:=p1.known++[((lo:Int),(hi:Int))],lay:=p1.known.length } u rfl rfl rfl rfl bA
                go_meet
                case rel=>exact ⟨_,_,_,_,true,rfl,⟨hpc⟩,⟨((eW.of_below HBc.out).trans HMa.out).trans hmc⟩,⟨.inl ⟨rfl,aBc HNL.out HNF.out HNK.out HNB.out HMY.out HLZ.out⟩⟩⟩
               have hq:=HQY.out;have hl1:p1.lay≠-1:=by simpa using HLZ.out
               obtain ⟨j,hj⟩:=Int.eq_ofNat_of_zero_le (show 0≤p1.lay by omega);have hjl:j < p1.known.length:=by omega
               obtain ⟨x,hx⟩:∃ x,p1.known[j]? = some x:=⟨_,List.getElem?_eq_getElem hjl⟩
               obtain ⟨g,cp,hv2,k1,k2⟩:=HPc.out.knownAt j x hx;injection hv2 with hA _ hcc
               subst hA hcc;have h11:=HPc.out.row.at 11 _ rfl;rw[hj] at h11;have h6:=HPc.out.row.at 6 _ rfl
               have hgu:some g≠vu1.ownBlock:=by
                rcases HPc.out.ku with h | h
                ·cases h
                exact h
               have HX:=bW hx;have HJ:=bW hj;have hj1:(0:Int)≤(j:Int):=by omega
               have hj2:(j:Int) < (p1.known.length:Int):=by omega
               clear hx hj hq hl1;go_upto_region 62 with fail
               have qa_0:=HPc.out.row.at 7 _ rfl;have qa_f:=HPc.out.row.free 7 bG;have qa_b:=HPc.out.lt;have qa_B:w0.heap.size≤wy.heap.size:=Nat.le_trans HPc.out.base (Nat.le_of_lt qa_b);have qa_n:=bW HPc.out.nu;have qa_o:=bW HPc.out.ou;refine hY (n:=20) (S:=fun w'=>w'.cell? ⟨b,7,none⟩=some vu1∧w'.cell? ⟨b,6,none⟩=some (Value.slice (some ⟨g,0,none⟩) p1.known.length c6)∧w'.cell? ⟨b,11,none⟩=some (.int .i64 j)∧w'.cell? ⟨g,j * 2,none⟩=some (.int .i64 x.1)∧w'.cell? ⟨g,j * 2+1,none⟩=some (.int .i64 x.2)) (ds:=[19]) _ bB rfl rfl ⟨qa_0,h6,h11,k1,k2⟩ (fun hHeld=>?_)
               refine sA1 0 (some 328) sB1 ?_
               refine sA1 1 (some 329) sB1 ?_
               refine sA1 2 (some 330) sB1 ?_
               refine sA1 3 (some 331) sB1 ?_
               refine sA1 5 (some 333) sB1 ?_
               refine sA1 6 (some 334) sB1 ?_
               refine sA1 7 (some 335) sB1 ?_
               refine sA1 9 (some 337) sB1 ?_
               refine sA1 10 (some 338) sB1 ?_
               refine sA1 11 (some 339) sB1 ?_
               refine sC1 4 (some 332) sL1 ?_
               refine sC1 8 (some 336) sL1 ?_
               refine sC1 12 (some 340) sL1 ?_
               refine sA1 13 (some 341) sB1 ?_
               refine sC1 14 (some 342) sL1 ?_
               refine sF1 15 (some 343) sG1 (fun K hK=>?_);refine kT (w1:=?_) (v:=?_) bH rfl ?_ ?_;rotate_left 2
               ·go_simp;constructor
                ·rfl
                rfl
               have aa_h:Below wy.heap.size wy (wy.drew.alloc (.cells ([.int .i64 x.1,.int .i64 x.2]:List Value).toArray 78)):=(Below.refl _ _).drew.alloc (Nat.le_refl _) _;refine hK.out _ _ ⟨((aa_h.cell (p:=⟨b,7,none⟩) (World.block_lt_of_cell? wy ⟨b,7,none⟩ qa_0)).trans qa_0),((aa_h.cell (p:=⟨b,6,none⟩) (World.block_lt_of_cell? wy ⟨b,6,none⟩ h6)).trans h6),((aa_h.cell (p:=⟨b,11,none⟩) (World.block_lt_of_cell? wy ⟨b,11,none⟩ h11)).trans h11),((aa_h.cell (p:=⟨g,j * 2,none⟩) (World.block_lt_of_cell? wy ⟨g,j * 2,none⟩ k1)).trans k1),((aa_h.cell (p:=⟨g,j * 2+1,none⟩) (World.block_lt_of_cell? wy ⟨g,j * 2+1,none⟩ k2)).trans k2)⟩ (fun hHeld=>?_);clear hK K;refine gJ sJ1 ?_
               refine sF1 16 (some 344) sG1 (fun K hK=>?_);refine gE (w0:=wy) (W:=wy.drew) w0.heap.size bH (.tmp 332) (.tmp 343) 75 78 _ 2 16 bH Tryz.underlying75 mI rfl bF bF vu1 p1.unknown.length (pairs p1.unknown) [.int .i64 x.1,.int .i64 x.2] bH bH bH bL qa_o.out ((Below.refl _ _).drew) qa_B bA ?_;intro va war oa bba ga ta;obtain ⟨Aa,ca,eva⟩:=fL oa;subst eva;have xa_0:=ga.cell (w:=wy.drew) (a:=⟨b,7,none⟩) qa_0 qa_n.out;have xa_f:=(World.frozen?_of_block (w:=wy.drew) (a:=⟨b,7,none⟩) (ga.block b qa_b qa_n.out)).trans qa_f
               have xa_1:=ga.cell (w:=wy.drew) (a:=⟨b,6,none⟩) h6 HPc.out.nu;have xa_2:=ga.cell (w:=wy.drew) (a:=⟨b,11,none⟩) h11 HPc.out.nu;have xa_3:=ga.cell (w:=wy.drew) (a:=⟨g,j * 2,none⟩) k1 hgu;have xa_4:=ga.cell (w:=wy.drew) (a:=⟨g,j * 2+1,none⟩) k2 hgu
               have gga:wy.grownBy war vu1.ownBlock:=⟨ga.os,ga.tape,ga.output,ga.size,ga.block⟩
               obtain ⟨hpa,hma⟩:=vN HPc.out x (w':=war) oa gga ta;have HPa:=bW hpa;have HMa:=bW hma;clear hpa hma oa bba ga gga ta;refine hK.out _ _ ⟨xa_0,xa_1,xa_2,xa_3,xa_4⟩ (fun hHeld=>?_);clear hK K;refine gJ sJ1 ?_
               refine sA1 17 (some 345) sB1 ?_
               refine sA1 18 (some 346) sB1 ?_
               refine sH1 19 none sI1 (fun K hK=>?_);refine iO (w1:=?_) bH rfl ?_ ?_;rotate_left
               ·go_simp;rfl
               refine hK.out _ _ ?_;clear hK K;refine iK bB ?_;clear xa_0 xa_1 xa_2 xa_3 xa_4 xa_f qa_0 qa_f qa_b qa_B qa_n qa_o aa_h
               obtain ⟨Wa,hWa⟩:∃ W,war.setCell ⟨b,7,none⟩ (.slice Aa (p1.unknown.length+1) ca)=W:=⟨_,rfl⟩
               replace HPa:Aside0 (eF Wa w0.heap.size b { p1 with unknown:=p1.unknown++[x] } (Value.slice (some ⟨g,0,none⟩) p1.known.length c6) (.slice Aa (p1.unknown.length+1) ca) vl1 u):=hWa▸HPa;replace HMa:Aside0 (eW wy Wa b (Value.slice (some ⟨g,0,none⟩) p1.known.length c6) vu1 vl1 (Value.slice (some ⟨g,0,none⟩) p1.known.length c6) (.slice Aa (p1.unknown.length+1) ca) vl1):=hWa▸HMa;rw[hWa];clear hWa;have HR8:=bW ((HR2.out.below HBc.out hs1).step (HMa.out.far (Nat.lt_of_lt_of_le hs1 HBc.out.size) HNI.out.1 HNI.out.2.1 HNI.out.2.2.1 HNI.out.2.2.2).1);clear k1 k2 h6 h11 d1 d2;go_upto_region 63 with fail
               refine wp_region_still_tail 10 bB bB ?_;change wpStill _ _ Wa.drew (fun a'=>wpList _ _ _ _ a' Wa.drew) _ _;have hPd:=HPa.out.drew;have hRd:Row Wa.drew I [.int .i64 lo,.int .i64 hi]:=HR8.out.step rfl;have HMd:=bW (eW.of_below (b:=b) (vk:=(Value.slice (some ⟨g,0,none⟩) p1.known.length c6)) (vu:=.slice Aa (p1.unknown.length+1) ca) (vl:=vl1) ((Below.refl _ _).drew:Below Wa.heap.size Wa Wa.drew))
               obtain ⟨V,hV⟩:∃ V,Wa.drew=V:=⟨_,rfl⟩
               rw[hV] at hPd hRd HMd ⊢;clear hV;have HPd:=bW hPd;have d1:=hRd.at 0 _ rfl;have d2:=hRd.at 1 _ rfl;have e6:=hPd.row.at 6 _ rfl;have e11:V.cell? ⟨b,11,none⟩=some (.int .i64 j):=by have:=hPd.row.at 11 _ rfl;rw[this,← HJ.out]
               obtain ⟨g',cp',hv3,k1,k2⟩:=hPd.knownAt j x HX.out;injection hv3 with hA _ hcc
               injection hA with hA
               injection hA with hA _ _
               subst hA hcc;have f1:=hPd.ok.frozenAt (j * 2);have f2:=hPd.ok.frozenAt (j * 2+1);clear hPd hRd;simp only[List.take_succ_cons,List.take_zero,List.drop_succ_cons,List.drop_zero]
               repeat still_step
               refine wpStill_nil ?_;go_wp2_with fail
               obtain ⟨hpc,hmc⟩:=aH1 HPd.out j ((lo:Int),(hi:Int))
               go_meet
               case rel=>exact ⟨_,_,_,_,true,rfl,⟨hpc⟩,⟨(((eW.of_below HBc.out).trans HMa.out).trans HMd.out).trans hmc⟩,⟨.inl ⟨rfl,by
                rw[← aBd HNL.out HNF.out HNK.out HNB.out HMY.out HLZ.out,HJ.out,Int.toNat_natCast,List.getD_eq_getElem?_getD,HX.out]
                rfl⟩⟩⟩
             as_aux_lemma =>
              obtain ⟨p2,vk2,vu2,vl2,f2,rfl,HP7,HM7,HC7⟩:=hcut;cases f2;rotate_left
              ·have hc7:=HC7.out;simp only[true_and,Bool.true_eq_false,false_and,or_false] at hc7;have HWO:=bW (hc7.trans HWP.out.symm);clear HC7 hc7;go_wp2_with fail
               go_meet
               case rel=>exact ⟨_,_,_,_,true,rfl,HP7,⟨HM6.out.trans HM7.out⟩,HWO⟩
              have hc7:=HC7.out;simp only[Bool.false_eq_true,false_and,true_and,false_or] at hc7;obtain ⟨rfl,rfl,rfl,rfl,hb7,hno⟩:=hc7;have HNY:=bW hno;have HBc:=bW hb7;have HPc:=HP7
              obtain ⟨wu,rfl⟩:∃ x,x=wc:=⟨_,rfl⟩
              clear HC7 HM7 HP7 hno;have hRc:=HR2.out.below hb7 hs1;have d1:=hRc.at 0 _ rfl;have d2:=hRc.at 1 _ rfl;clear hRc hb7;go_upto_region 68 with fail
              have qa_0:=HPc.out.row.at 7 _ rfl;have qa_f:=HPc.out.row.free 7 bG;have qa_b:=HPc.out.lt;have qa_B:w0.heap.size≤wu.heap.size:=Nat.le_trans HPc.out.base (Nat.le_of_lt qa_b);have qa_n:=bW HPc.out.nu;have qa_o:=bW HPc.out.ou;refine hY (n:=11) (S:=fun w'=>w'.cell? ⟨b,7,none⟩=some vu1∧w'.cell? ⟨I,0,none⟩=some (.int .i64 lo)∧w'.cell? ⟨I,1,none⟩=some (.int .i64 hi)) (ds:=[10]) _ bB rfl rfl ⟨qa_0,d1,d2⟩ (fun hHeld=>?_);refine sA1 0 (some 378) sB1 ?_
              refine sA1 1 (some 379) sB1 ?_
              refine sA1 2 (some 380) sB1 ?_
              refine sA1 3 (some 381) sB1 ?_
              refine sC1 4 (some 382) sD1 ?_
              refine sC1 5 (some 383) sD1 ?_
              refine sF1 6 (some 384) sG1 (fun K hK=>?_);refine kT (w1:=?_) (v:=?_) bH rfl ?_ ?_;rotate_left 2
              ·go_simp;constructor
               ·rfl
               rfl
              have aa_h:Below wu.heap.size wu (wu.drew.alloc (.cells ([.int .i64 ((lo:Int),(hi:Int)).1,.int .i64 ((lo:Int),(hi:Int)).2]:List Value).toArray 78)):=(Below.refl _ _).drew.alloc (Nat.le_refl _) _;refine hK.out _ _ ⟨((aa_h.cell (p:=⟨b,7,none⟩) (World.block_lt_of_cell? wu ⟨b,7,none⟩ qa_0)).trans qa_0),((aa_h.cell (p:=⟨I,0,none⟩) (World.block_lt_of_cell? wu ⟨I,0,none⟩ d1)).trans d1),((aa_h.cell (p:=⟨I,1,none⟩) (World.block_lt_of_cell? wu ⟨I,1,none⟩ d2)).trans d2)⟩ (fun hHeld=>?_);clear hK K;refine gJ sJ1 ?_
              refine sF1 7 (some 385) sG1 (fun K hK=>?_);refine gE (w0:=wu) (W:=wu.drew) w0.heap.size bH (.tmp 382) (.tmp 384) 75 78 _ 2 16 bH Tryz.underlying75 mI rfl bF bF vu1 p1.unknown.length (pairs p1.unknown) [.int .i64 ((lo:Int),(hi:Int)).1,.int .i64 ((lo:Int),(hi:Int)).2] bH bH bH bL qa_o.out ((Below.refl _ _).drew) qa_B bA ?_;intro va war oa bba ga ta;obtain ⟨Aa,ca,eva⟩:=fL oa;subst eva;have xa_0:=ga.cell (w:=wu.drew) (a:=⟨b,7,none⟩) qa_0 qa_n.out;have xa_f:=(World.frozen?_of_block (w:=wu.drew) (a:=⟨b,7,none⟩) (ga.block b qa_b qa_n.out)).trans qa_f;have xa_1:=ga.cell (w:=wu.drew) (a:=⟨I,0,none⟩) d1 hI6.2.2.1
              have xa_2:=ga.cell (w:=wu.drew) (a:=⟨I,1,none⟩) d2 hI6.2.2.1
              have gga:wu.grownBy war vu1.ownBlock:=⟨ga.os,ga.tape,ga.output,ga.size,ga.block⟩
              obtain ⟨hpa,hma⟩:=vN HPc.out ((lo:Int),(hi:Int)) (w':=war) oa gga ta;have HPa:=bW hpa;have HMa:=bW hma;clear hpa hma oa bba ga gga ta;refine hK.out _ _ ⟨xa_0,xa_1,xa_2⟩ (fun hHeld=>?_);clear hK K;refine gJ sJ1 ?_
              refine sA1 8 (some 386) sB1 ?_
              refine sA1 9 (some 387) sB1 ?_
              refine sH1 10 none sI1 (fun K hK=>?_);refine iO (w1:=?_) bH rfl ?_ ?_;rotate_left
              ·go_simp;rfl
              refine hK.out _ _ ?_;clear hK K;refine iK bB ?_;clear xa_0 xa_1 xa_2 xa_f qa_0 qa_f qa_b qa_B qa_n qa_o aa_h
              obtain ⟨Wa,hWa⟩:∃ W,war.setCell ⟨b,7,none⟩ (.slice Aa (p1.unknown.length+1) ca)=W:=⟨_,rfl⟩
              replace HPa:Aside0 (eF Wa w0.heap.size b { p1 with unknown:=p1.unknown++[((lo:Int),(hi:Int))] } (Value.slice A6 p1.known.length c6) (.slice Aa (p1.unknown.length+1) ca) vl1 u):=hWa▸HPa;replace HMa:Aside0 (eW wu Wa b (Value.slice A6 p1.known.length c6) vu1 vl1 (Value.slice A6 p1.known.length c6) (.slice Aa (p1.unknown.length+1) ca) vl1):=hWa▸HMa;rw[hWa];clear hWa;go_wp2_with fail
              go_meet
              case rel=>exact ⟨_,_,_,_,false,rfl,HPa,⟨(HM6.out.trans (eW.of_below HBc.out)).trans HMa.out⟩,⟨(aD1 HNL.out HNF.out HNK.out HNB.out HNY.out).trans HWP.out.symm⟩⟩
       as_aux_lemma =>
        obtain ⟨p2,vk2,vu2,vl2,f2,rfl,HP8,HM8,HW8⟩:=hcut
        have HW9:Aside0 (mId (eH st) p comp i ld nd last=mL (p2,f2) i ld last):=⟨by rw[HW8.out,← HLO.out,mId,HCH.out];rfl⟩
        cases f2
        ·go_wp2_with fail
         exact bodyPost_end (v:=.tuple #[]) (by simp[results,Tryz.results149]) rfl ⟨rfl,vk2,vu2,vl2,(by rw[HW9.out];exact HP8.out),HW2.out.trans HM8.out⟩
        cases last
        ·have k7:=HP8.out.row.at 22 _ rfl;have k8:=HP8.out.row.free 22 bG;go_wp2_with fail
         obtain ⟨hpc,hmc⟩:=fW HP8.out 22 (.int .i64 i) { p2 with nEnd:=i } u rfl rfl rfl rfl bA;exact bodyPost_end (v:=.tuple #[]) (by simp[results,Tryz.results149]) rfl ⟨rfl,vk2,vu2,vl2,(by rw[HW9.out];exact hpc),(HW2.out.trans HM8.out).trans hmc⟩
        obtain ⟨nz,hnz⟩:∃ c,decide (p2.nEnd≤0)=c:=⟨_,rfl⟩
        have k7:=HP8.out.row.at 22 _ rfl;have k8:=HP8.out.row.free 22 bG;have HNZ:=bW hnz;go_upto_if 394 with fail
        clear hnz;cases nz
        ·have hn:¬ (p2.nEnd≤0):=of_decide_eq_false HNZ.out;have e9:mL (p2,true) i ld true=p2:=by unfold mL;rw[if_pos rfl,if_pos rfl,if_neg hn]
         clear hn;go_wp2_with fail
         exact bodyPost_end (v:=.tuple #[]) (by simp[results,Tryz.results149]) rfl ⟨rfl,vk2,vu2,vl2,(by rw[HW9.out];rw[e9];exact HP8.out),HW2.out.trans HM8.out⟩
        have hn:p2.nEnd≤0:=of_decide_eq_true HNZ.out;have e9:mL (p2,true) i ld true = { p2 with nEnd:=ld }:=by unfold mL;rw[if_pos rfl,if_pos rfl,if_pos hn]
        clear hn;go_wp2_with fail
        obtain ⟨hpc,hmc⟩:=fW HP8.out 22 (.int .i64 ld) { p2 with nEnd:=ld } u rfl rfl rfl rfl bA;exact bodyPost_end (v:=.tuple #[]) (by simp[results,Tryz.results149]) rfl ⟨rfl,vk2,vu2,vl2,(by rw[HW9.out];rw[e9];exact hpc),(HW2.out.trans HM8.out).trans hmc⟩
end
end Go.Proofs.YtlkoeeccebmjmaaGreatDoor.Path
