/- A layout whose word ahead of the extension is a format of the site with just that extension answers the format. Condition: none but the statement's own. -/
import Derived.Deep.QuietTactic
import Derived.BigQuiet
import Derived.Test.YtcdgldnphhidlaaGreatDoorVa
import Derived.Test.YtcdgldnphhidlaaGreatDoorV21
set_option linter.unusedVariables false
set_option linter.unusedSimpArgs false
set_option maxRecDepth 100000
set_option maxHeartbeats 16000000
namespace Go.Proofs.YtcdgldnphhidlaaGreatDoor.fnBuiltFormat
open Go.ChangeShapes Go.WideShapes Go.ChangeAt Go.RowKit Go.WideMaps Go.ZW.PrintWords Go.Proofs.YtcdgldnphhidlaaGreatDoor.Base Go.Proofs.YtcdgldnphhidlaaGreatDoor.Lower Go.Proofs.YtcdgldnphhidlaaGreatDoor.Total Go.Proofs.YtcdgldnphhidlaaGreatDoor.Path Go.Proofs.YtcdgldnphhidlaaGreatDoor.PCore
open Go.ZW.PrintLast
section
variable {w:World} {st:fD} {vl vd vf vc:Value}
theorem walk (S:lW w st vl vd vf vc) {vx:Value} {dirs:List ByteArray} (D:eT w 0 vx dirs) (zd:dirs.length≤9223372036854775807) (lay:ByteArray) (fmt:Int):Calls Tryz.prog 8 #[.agg #[vl,vd,vf,vc],vx,.string lay,.int .i64 fmt] w fun e w'=>e = .returned (.bool true)∧Below w.heap.size w w':=by
 have HSA:=cH S;obtain ⟨Al,cl,rfl,_,_⟩:=S.l;obtain ⟨Ad,cd,rfl,_,_⟩:=S.d;obtain ⟨Af,cf,rfl,_,_⟩:=S.f;obtain ⟨Ac,cc,rfl,_,_⟩:=S.c;obtain ⟨Ax,cx,ex,hcx,hdx⟩:=id D;subst ex;have HDD:=cH D;have HZD:=cH zd;clear S D hcx hdx zd;have hB1:Below w.heap.size w (w.alloc (.cells #[.slice Al st.langs.length cl,.slice Ad st.dis.length cd,.slice Af st.fmts.length cf,.slice Ac st.cont.length cc] 25)):=(Below.refl _ _).alloc (Nat.le_refl _) _;have hR1:=Row.new w [.slice Al st.langs.length cl,.slice Ad st.dis.length cd,.slice Af st.fmts.length cf,.slice Ac st.cont.length cc] 25;go_enter Tryz.func8,Tryz.ntmps8;go_upto_region 1 with fail
 obtain ⟨w1,hw1⟩:∃ w1,w.alloc (.cells #[.slice Al st.langs.length cl,.slice Ad st.dis.length cd,.slice Af st.fmts.length cf,.slice Ac st.cont.length cc] 25)=w1:=⟨_,rfl⟩
 rw[hw1] at hB1 hR1 ⊢;clear hw1;have HB1:=cH hB1;have HRS1:=cH hR1;have cz:=nX (HSA.out.below hB1)
 obtain ⟨ft,hft⟩:∃ f,pY st=f:=⟨_,rfl⟩
 rw[hft] at cz;have HFT:=cH hft;clear hB1 hR1 hft;have r0:=HRS1.out.at 0 _ rfl;have r1:=HRS1.out.at 1 _ rfl;have r2:=HRS1.out.at 2 _ rfl;have r3:=HRS1.out.at 3 _ rfl;go_wp2_with fail
 refine (cz).mono ?_;rintro e w2 ⟨rfl,hb⟩;have HB2:=cH (eB HB1.out hb);have HRS2:=cH (HRS1.out.below hb (HRS1.out.lt bJ));clear hb cz r0 r1 r2 r3;cases ft
 ·go_wp2_with fail
  go_ret;exact ⟨rfl,HB2.out⟩
 have hgo:=trivial
 obtain ⟨fd,hfd⟩:∃ f,fits2 dirs=f:=⟨_,rfl⟩
 have cd':=oE (HDD.out.below HB2.out) HZD.out;rw[hfd] at cd';have HFD:=cH hfd;clear hfd;go_wp2_with fail
 refine (cd').mono ?_;rintro e w3 ⟨rfl,hb⟩;have HB3:=cH (eB HB2.out hb);have HRS3:=cH (HRS2.out.below hb (HRS2.out.lt bJ));clear hb cd';cases fd
 ·go_wp2_with fail
  go_ret;exact ⟨rfl,HB3.out⟩
 have hgo:=trivial
 obtain ⟨bq,hq⟩:∃ q,decide ((2147483647:Int) < (lay.size:Int))=q:=⟨_,rfl⟩
 have hq' : decide (2147483647 < lay.size)=bq:=by rw[← hq];by_cases c:2147483647 < lay.size <;> simp[c] <;> omega
 have HQlay:=cH hq;cases bq;rotate_left
 ·go_wp2_with fail
  go_ret;exact ⟨rfl,HB3.out⟩
 have hgo:=trivial;have zlay:lay.size≤2147483647:=by have:=of_decide_eq_false HQlay.out;omega
 clear hq hq' hgo;obtain ⟨pd,hpd,cpd⟩:=oM (HDD.out.below HB3.out) HFD.out (oK HFD.out).2;have HPD:=cH hpd;clear hpd;go_wp2_with fail
 refine (cpd).mono ?_;rintro e w4 ⟨rfl,hb⟩;have HB4:=cH (eB HB3.out hb);have HRS4:=cH (HRS3.out.below hb (HRS3.out.lt bJ));clear hb cpd;cases pd
 ·go_wp2_with fail
  go_ret;exact ⟨rfl,HB4.out⟩
 have hgo:=trivial;have r0:=HRS4.out.at 0 _ rfl;have r1:=HRS4.out.at 1 _ rfl;have r2:=HRS4.out.at 2 _ rfl;have r3:=HRS4.out.at 3 _ rfl;have S9:=HSA.out.below HB4.out;obtain ⟨sh,hsh,csh⟩:=aCl (st:=st) ⟨S9.l,S9.d,S9.f,S9.c⟩ (jQ HFT.out) lay bA;have HSH:=cH hsh;clear hsh S9;go_wp2_with fail
 refine (csh).mono ?_;rintro e w5 ⟨rfl,hb⟩;have HB5:=cH (eB HB4.out hb);have HRS5:=cH (HRS4.out.below hb (HRS4.out.lt bJ));clear hb csh r0 r1 r2 r3;cases sh
 ·go_wp2_with fail
  go_ret;exact ⟨rfl,HB5.out⟩
 have hgo:=trivial
 obtain ⟨bq,hf1⟩:∃ b,(decide (fmt < 0))=b:=⟨_,rfl⟩
 cases bq;rotate_left
 ·go_wp2_with fail
  go_ret;exact ⟨rfl,HB5.out⟩
 have hgo:=trivial;have hf1' : ¬ fmt < 0:=of_decide_eq_false hf1;have r0:=HRS5.out.at 0 _ rfl;have r1:=HRS5.out.at 1 _ rfl;have r2:=HRS5.out.at 2 _ rfl;have r3:=HRS5.out.at 3 _ rfl
 obtain ⟨bq,hf2⟩:∃ b,(decide ((st.fmts.length:Int)≤fmt))=b:=⟨_,rfl⟩
 cases bq;rotate_left
 ·go_wp2_with fail
  go_ret;exact ⟨rfl,HB5.out⟩
 have hgo:=trivial
 obtain ⟨i,rfl⟩:∃ i:Nat,fmt=(i:Int):=⟨fmt.toNat,aQ⟩
 have hi:i < st.fmts.length:=by have:=of_decide_eq_false hf2;omega
 obtain ⟨A9,c9,e9,hc9,hp9⟩:=(HSA.out.below HB5.out).f;injection e9 with e91 e92 e93
 obtain ⟨g9,o9,ea9,_,hh9⟩:=hp9 bA;obtain ⟨hx0,hx1⟩:=hh9 i hi
 obtain ⟨fn,hfn⟩:∃ x,(st.fmts[i]'hi).1=x:=⟨_,rfl⟩
 obtain ⟨fe,hfe⟩:∃ x,(st.fmts[i]'hi).2=x:=⟨_,rfl⟩
 have zfn:fn.size≤4000000000:=hfn▸((jQ HFT.out).fz _ (List.getElem_mem hi)).1;have zfe:fe.size≤4000000000:=hfe▸((jQ HFT.out).fz _ (List.getElem_mem hi)).2;rw[hfn] at hx0;rw[hfe,← Nat.add_assoc] at hx1;have HIN:=cH (show (fn,fe)∈st.fmts by rw[← hfn,← hfe];exact List.getElem_mem hi);obtain rfl:Af=some ⟨g9,o9,none⟩:=by rw[← ea9];exact e91
 have y1:(0:Int)≤(i:Int):=by omega
 have y2:(i:Int) < (st.fmts.length:Int):=by omega
 have y3:((i:Int)).toNat=i:=Int.toNat_natCast i;clear hfn hfe e91 e92 e93 ea9 hh9 hp9;go_upto_region 6 with fail
 have hrf:=Row.new w5 [.string fn,.string fe] 46;have hbf:Below w5.heap.size w5 (w5.alloc (.cells #[.string fn,.string fe] 46)):=(Below.refl _ _).alloc (Nat.le_refl _) _
 obtain ⟨w6,hw9⟩:∃ x,w5.alloc (.cells #[.string fn,.string fe] 46)=x:=⟨_,rfl⟩
 rw[hw9] at hrf hbf ⊢
 obtain ⟨bf,hbfe⟩:∃ x,w5.heap.size=x:=⟨_,rfl⟩
 rw[hbfe] at hrf ⊢;have HB6:=cH (eB HB5.out hbf);have HRS6:=cH (HRS5.out.below hbf (HRS5.out.lt bJ));have HRF:=cH hrf;clear hw9 hbf hbfe hrf hx0 hx1 y1 y2 y3 r0 r1 r2 r3 hf1 hf1' hf2;have s0:=HRF.out.at 0 _ rfl;have s1:=HRF.out.at 1 _ rfl;obtain ⟨pp,hpp,cpp⟩:=nQ fn bA;have HP2:=cH hpp;clear hpp;go_wp2_with fail
 refine (cpp _).mono ?_;rintro e w7 ⟨rfl,hb⟩;have HB7:=cH (eB HB6.out hb);have HRS7:=cH (HRS6.out.below hb (HRS6.out.lt bJ));replace HRF:=cH (HRF.out.below hb (HRF.out.lt bJ));clear hb cpp s0 s1;cases pp
 ·go_wp2_with fail
  go_ret;exact ⟨rfl,HB7.out⟩
 have hgo:=trivial;have s0:=HRF.out.at 0 _ rfl;have s1:=HRF.out.at 1 _ rfl;obtain ⟨pp,hpp,cpp⟩:=nQ fe bA;have HP3:=cH hpp;clear hpp;go_wp2_with fail
 refine (cpp _).mono ?_;rintro e w8 ⟨rfl,hb⟩;have HB8:=cH (eB HB7.out hb);have HRS8:=cH (HRS7.out.below hb (HRS7.out.lt bJ));replace HRF:=cH (HRF.out.below hb (HRF.out.lt bJ));clear hb cpp s0 s1;cases pp
 ·go_wp2_with fail
  go_ret;exact ⟨rfl,HB8.out⟩
 have hgo:=trivial;have r0:=HRS8.out.at 0 _ rfl;have r1:=HRS8.out.at 1 _ rfl;have r2:=HRS8.out.at 2 _ rfl;have r3:=HRS8.out.at 3 _ rfl;have s0:=HRF.out.at 0 _ rfl;have s1:=HRF.out.at 1 _ rfl;have S9:=HSA.out.below HB8.out;have cl9:=nU S9.l S9.ll fn
 obtain ⟨bl,hbl⟩:∃ b,listed st.langs fn=b:=⟨_,rfl⟩
 rw[hbl] at cl9;have HN1:=cH hbl;clear hbl S9;go_wp2_with fail
 refine (cl9).mono ?_;rintro e w9 ⟨rfl,hb⟩;have HB9:=cH (eB HB8.out hb);have HRS9:=cH (HRS8.out.below hb (HRS8.out.lt bJ));replace HRF:=cH (HRF.out.below hb (HRF.out.lt bJ));clear hb cl9 r0 r1 r2 r3 s0 s1;cases bl;rotate_left
 ·go_wp2_with fail
  go_ret;exact ⟨rfl,HB9.out⟩
 have hgo:=trivial;have r0:=HRS9.out.at 0 _ rfl;have r1:=HRS9.out.at 1 _ rfl;have r2:=HRS9.out.at 2 _ rfl;have r3:=HRS9.out.at 3 _ rfl;have s0:=HRF.out.at 0 _ rfl;have s1:=HRF.out.at 1 _ rfl;have S9:=HSA.out.below HB9.out;have cl9:=nU S9.d S9.dl fn
 obtain ⟨bl,hbl⟩:∃ b,listed st.dis fn=b:=⟨_,rfl⟩
 rw[hbl] at cl9;have HN2:=cH hbl;clear hbl S9;go_wp2_with fail
 refine (cl9).mono ?_;rintro e w10 ⟨rfl,hb⟩;have HB10:=cH (eB HB9.out hb);have HRS10:=cH (HRS9.out.below hb (HRS9.out.lt bJ));replace HRF:=cH (HRF.out.below hb (HRF.out.lt bJ));clear hb cl9 r0 r1 r2 r3 s0 s1;cases bl;rotate_left
 ·go_wp2_with fail
  go_ret;exact ⟨rfl,HB10.out⟩
 have hgo:=trivial;obtain ⟨hdp,hfew⟩:=HPD.out bL;have hfl:dirs.length+wt dirs≤2000:=by unfold fewB at hfew;exact of_decide_eq_true hfew
 have HDP:=cH hdp;have HFL:=cH hfl;have zdir:(gU dirs).size≤2000:=by rw[nT];exact hfl
 obtain ⟨dir,hdir⟩:∃ d,gU dirs=d:=⟨_,rfl⟩
 rw[hdir] at zdir;have HDIR:=cH hdir;clear hdir hdp hfew hfl
 obtain ⟨s,hs⟩:∃ x:ByteArray,(((((dir++⟨#[47]⟩)++lay)++⟨#[46]⟩)++fn)++⟨#[46]⟩)++fe=x:=⟨_,rfl⟩
 have HS:=cH hs;have u1:(⟨#[47]⟩:ByteArray).size=1:=rfl;have u2:(⟨#[46]⟩:ByteArray).size=1:=rfl;have hsz:s.size≤100000000000:=by rw[← hs];simp only[size_append,u1,u2];omega
 have m1:dir.size+1≤9223372036854775807:=by omega
 have m2:(dir++⟨#[47]⟩).size+lay.size≤9223372036854775807:=by rw[size_append,u1];omega
 have m3:(dir++⟨#[47]⟩++lay).size+1≤9223372036854775807:=by rw[size_append,size_append,u1];omega
 have m4:(dir++⟨#[47]⟩++lay++⟨#[46]⟩).size+fn.size≤9223372036854775807:=by rw[size_append,size_append,size_append,u1,u2];omega
 have m5:(dir++⟨#[47]⟩++lay++⟨#[46]⟩++fn).size+1≤9223372036854775807:=by rw[size_append,size_append,size_append,size_append,u1,u2];omega
 have m6:(dir++⟨#[47]⟩++lay++⟨#[46]⟩++fn++⟨#[46]⟩).size+fe.size≤9223372036854775807:=by rw[size_append,size_append,size_append,size_append,size_append,u1,u2];omega
 have z1:(dir++⟨#[47]⟩).size=dir.size+1:=by rw[size_append,u1]
 have n1:=eq_false (Nat.not_lt.2 m1);have n2:=eq_false (Nat.not_lt.2 m2);have n3:=eq_false (Nat.not_lt.2 m3);have n4:=eq_false (Nat.not_lt.2 m4);have n5:=eq_false (Nat.not_lt.2 m5);have n6:=eq_false (Nat.not_lt.2 m6);have n7:=n2;have n8:=n3;have n9:=n4;have n10:=n5;have n11:=n6;simp only[size_append,u1,u2] at n7 n8 n9 n10 n11;clear u1 u2 z1 m1 m2 m3 m4 m5 m6;have CF:Aside0 (∀ W,Below w10.heap.size w10 W→Calls Tryz.prog 28 #[.slice Ax dirs.length cx] W fun e w'=>e = .returned (.string dir)∧Below W.heap.size W w'):=cH (fun W hW=>HDIR.out▸mV (HDD.out.below (eB HB10.out hW)) bS)
 obtain ⟨comp,hcomp⟩:∃ c:ByteArray,(⟨#[108,97,121,111,117,116,115]⟩:ByteArray)=c:=⟨_,rfl⟩
 have HCOMP:=cH hcomp;have zcomp:comp.size≤2147483647:=by rw[← hcomp];decide
 obtain ⟨ok,HOK,ck⟩:=tW (HSA.out.below HB10.out) HFT.out comp s bA;replace HOK:=cH HOK
 obtain ⟨G,hG⟩:∃ G:ToldV→List ByteArray→List ByteArray→List ByteArray→Prop,(fun t l1 l2 l3=>ok=true→t=gQ (fL (eI st) comp (norm s))∧l1=iT (fL (eI st) comp (norm s))∧l2=iV (fL (eI st) comp (norm s))∧l3=kB (fL (eI st) comp (norm s)))=G:=⟨_,rfl⟩
 have HG:=cH hG
 have CK:Aside0 (∀ W,Below w10.heap.size w10 W→Calls Tryz.prog 29 #[.agg #[.slice Al st.langs.length cl,.slice Ad st.dis.length cd,.slice (some ⟨g9,o9,none⟩) st.fmts.length cf,.slice Ac st.cont.length cc],.string comp,.string s] W fun e w'=>∃ t l1 l2 l3 v1 v2 v3,e = .returned (.tuple #[iB t v1 v2 v3,.bool ok])∧rI w' W.heap.size v1 v2 v3 l1 l2 l3∧G t l1 l2 l3∧Below W.heap.size W w'):=cH (fun W hW=>(ck W hW).mono (by
  rintro e w' ⟨t,l1,l2,l3,v1,v2,v3,e1,h1,h2,h3⟩
  exact ⟨t,l1,l2,l3,v1,v2,v3,e1,h1,hG▸h2,h3⟩))
 clear ck hG;rw[← hcomp] at CK;clear hcomp;have r0:=HRS10.out.at 0 _ rfl;have r1:=HRS10.out.at 1 _ rfl;have r2:=HRS10.out.at 2 _ rfl;have r3:=HRS10.out.at 3 _ rfl;have s0:=HRF.out.at 0 _ rfl;have s1:=HRF.out.at 1 _ rfl
 obtain ⟨bf,hbf⟩:∃ x,bf=x:=⟨_,rfl⟩
 subst hbf
 obtain ⟨x1,p,hx1,hp'⟩:∃ (x1:Value) (p:Nat),x1=x1∧p=p:=⟨undef,0,rfl,rfl⟩
 clear hx1 hp';have HN:Aside0 (KN w10 G false false (x1,p) w10.drew):=cH (KN.start (Below.refl _ _).drew _);go_upto_region 8 with fail
 refine iH (n:=21) (S:=fun w'=>w'.cell? ⟨w.heap.size,0,none⟩=some (.slice Al st.langs.length cl)∧w'.cell? ⟨w.heap.size,1,none⟩=some (.slice Ad st.dis.length cd)∧w'.cell? ⟨w.heap.size,2,none⟩=some (.slice (some ⟨g9,o9,none⟩) st.fmts.length cf)∧w'.cell? ⟨w.heap.size,3,none⟩=some (.slice Ac st.cont.length cc)∧w'.cell? ⟨bf,0,none⟩=some (.string fn)∧w'.cell? ⟨bf,1,none⟩=some (.string fe)) (ds:=[19]) _ bB rfl rfl ⟨r0,r1,r2,r3,s0,s1⟩ (fun hHeld=>?_)
 refine sA1 1 (some 76) sB1 ?_
 refine sA1 4 (some 79) sB1 ?_
 refine sA1 7 (some 82) sB1 ?_
 refine sA1 11 (some 86) sB1 ?_
 refine sC1 0 (some 75) sP1 ?_
 refine sC1 8 (some 83) sP1 ?_
 refine sC1 12 (some 87) sP1 ?_
 refine nY (σ:=Value×Nat) 2 #[true,true,true,true,true,true,true,true,true,true,true,true,true,true,true,true,true,true,true,false,false] (fun s_=>[(77,.string dir),(78,.string (dir++⟨#[47]⟩)),(80,.string (dir++⟨#[47]⟩++lay)),(81,.string (dir++⟨#[47]⟩++lay++⟨#[46]⟩)),(84,.string (dir++⟨#[47]⟩++lay++⟨#[46]⟩++fn)),(85,.string (dir++⟨#[47]⟩++lay++⟨#[46]⟩++fn++⟨#[46]⟩)),(88,.string s),(89,.tuple #[s_.1,.bool ok]),(74,.tuple #[s_.1,.bool ok]),(90,s_.1),(91,.bool ok),(10,.pointer (some ⟨s_.2,0,none⟩))]) (fun s_ w'=>(w'.cell? ⟨w.heap.size,0,none⟩=some (.slice Al st.langs.length cl)∧w'.cell? ⟨w.heap.size,1,none⟩=some (.slice Ad st.dis.length cd)∧w'.cell? ⟨w.heap.size,2,none⟩=some (.slice (some ⟨g9,o9,none⟩) st.fmts.length cf)∧w'.cell? ⟨w.heap.size,3,none⟩=some (.slice Ac st.cont.length cc)∧w'.cell? ⟨bf,0,none⟩=some (.string fn)∧w'.cell? ⟨bf,1,none⟩=some (.string fe))∧KN w10 G true true s_ w') ?_ ?_
 rotate_left
 ·intro hJ2_14_18
  refine nY (σ:=Value×Nat) 3 #[true,true,true,true,true,true,true,true,true,true,true,true,true,true,true,true,true,true,false,false,false] (fun s_=>[(77,.string dir),(78,.string (dir++⟨#[47]⟩)),(80,.string (dir++⟨#[47]⟩++lay)),(81,.string (dir++⟨#[47]⟩++lay++⟨#[46]⟩)),(84,.string (dir++⟨#[47]⟩++lay++⟨#[46]⟩++fn)),(85,.string (dir++⟨#[47]⟩++lay++⟨#[46]⟩++fn++⟨#[46]⟩)),(88,.string s),(89,.tuple #[s_.1,.bool ok]),(74,.tuple #[s_.1,.bool ok]),(90,s_.1),(91,.bool ok)]) (fun s_ w'=>(w'.cell? ⟨w.heap.size,0,none⟩=some (.slice Al st.langs.length cl)∧w'.cell? ⟨w.heap.size,1,none⟩=some (.slice Ad st.dis.length cd)∧w'.cell? ⟨w.heap.size,2,none⟩=some (.slice (some ⟨g9,o9,none⟩) st.fmts.length cf)∧w'.cell? ⟨w.heap.size,3,none⟩=some (.slice Ac st.cont.length cc)∧w'.cell? ⟨bf,0,none⟩=some (.string fn)∧w'.cell? ⟨bf,1,none⟩=some (.string fe))∧KN w10 G true false s_ w') ?_ ?_
  rotate_left
  ·intro hJ2_14
   refine nY (σ:=Value×Nat) 6 #[true,true,true,true,true,true,true,true,true,true,true,true,true,true,false,false,false,false,true,false,false] (fun s_=>[(77,.string dir),(78,.string (dir++⟨#[47]⟩)),(80,.string (dir++⟨#[47]⟩++lay)),(81,.string (dir++⟨#[47]⟩++lay++⟨#[46]⟩)),(84,.string (dir++⟨#[47]⟩++lay++⟨#[46]⟩++fn)),(85,.string (dir++⟨#[47]⟩++lay++⟨#[46]⟩++fn++⟨#[46]⟩)),(88,.string s),(10,.pointer (some ⟨s_.2,0,none⟩))]) (fun s_ w'=>(w'.cell? ⟨w.heap.size,0,none⟩=some (.slice Al st.langs.length cl)∧w'.cell? ⟨w.heap.size,1,none⟩=some (.slice Ad st.dis.length cd)∧w'.cell? ⟨w.heap.size,2,none⟩=some (.slice (some ⟨g9,o9,none⟩) st.fmts.length cf)∧w'.cell? ⟨w.heap.size,3,none⟩=some (.slice Ac st.cont.length cc)∧w'.cell? ⟨bf,0,none⟩=some (.string fn)∧w'.cell? ⟨bf,1,none⟩=some (.string fe))∧KN w10 G false true s_ w') ?_ ?_
   rotate_left
   ·intro hJ2_18
    refine nY (σ:=Value×Nat) 7 #[true,true,true,true,true,true,true,true,true,true,true,true,true,true,false,false,false,false,false,false,false] (fun s_=>[(77,.string dir),(78,.string (dir++⟨#[47]⟩)),(80,.string (dir++⟨#[47]⟩++lay)),(81,.string (dir++⟨#[47]⟩++lay++⟨#[46]⟩)),(84,.string (dir++⟨#[47]⟩++lay++⟨#[46]⟩++fn)),(85,.string (dir++⟨#[47]⟩++lay++⟨#[46]⟩++fn++⟨#[46]⟩)),(88,.string s)]) (fun s_ w'=>(w'.cell? ⟨w.heap.size,0,none⟩=some (.slice Al st.langs.length cl)∧w'.cell? ⟨w.heap.size,1,none⟩=some (.slice Ad st.dis.length cd)∧w'.cell? ⟨w.heap.size,2,none⟩=some (.slice (some ⟨g9,o9,none⟩) st.fmts.length cf)∧w'.cell? ⟨w.heap.size,3,none⟩=some (.slice Ac st.cont.length cc)∧w'.cell? ⟨bf,0,none⟩=some (.string fn)∧w'.cell? ⟨bf,1,none⟩=some (.string fe))∧KN w10 G false false s_ w') ?_ ?_
    rotate_left
    ·intro hJ2;refine nY (σ:=Value×Nat) 13 #[true,true,false,false,true,false,false,true,true,false,false,true,true,false,false,false,false,false,true,false,false] (fun s_=>[(10,.pointer (some ⟨s_.2,0,none⟩))]) (fun s_ w'=>(w'.cell? ⟨w.heap.size,0,none⟩=some (.slice Al st.langs.length cl)∧w'.cell? ⟨w.heap.size,1,none⟩=some (.slice Ad st.dis.length cd)∧w'.cell? ⟨w.heap.size,2,none⟩=some (.slice (some ⟨g9,o9,none⟩) st.fmts.length cf)∧w'.cell? ⟨w.heap.size,3,none⟩=some (.slice Ac st.cont.length cc)∧w'.cell? ⟨bf,0,none⟩=some (.string fn)∧w'.cell? ⟨bf,1,none⟩=some (.string fe))∧KN w10 G false true s_ w') ?_ ?_;rotate_left
     ·intro hJ18;refine zZ (i:=2) (j:=18) (Ni:=some 77) (Nj:=some 10) #[true,true,true,false,true,false,false,true,true,false,false,true,true,false,false,false,false,false,false,false,false] #[true,true,false,false,true,false,false,true,true,false,false,true,true,false,false,false,false,false,true,false,false] rfl rfl rfl rfl bB bH bH (fun K hK=>?_) (fun K hK=>?_)
      ·skip
       refine iK Tryz.func28 bB rfl #[.slice Ax dirs.length cx] bK rfl rfl bG ?_
       with_reducible refine ((CF.out _ HN.out.below)).mono ?_
       rintro e wm ⟨rfl,hb⟩;refine ⟨_,rfl,?_⟩;replace HN:=cH (HN.out.grow hb);refine hK.out _ _ ⟨(eF (w:=w10.drew) hHeld.1 hb),(eF (w:=w10.drew) hHeld.2.1 hb),(eF (w:=w10.drew) hHeld.2.2.1 hb),(eF (w:=w10.drew) hHeld.2.2.2.1 hb),(eF (w:=w10.drew) hHeld.2.2.2.2.1 hb),(eF (w:=w10.drew) hHeld.2.2.2.2.2 hb)⟩ (fun hHeld=>?_);clear hK K;refine eU sJ1 ?_
       refine sA1 3 (some 78) sB1 ?_
       refine sA1 5 (some 80) sB1 ?_
       refine sA1 6 (some 81) sB1 ?_
       refine sA1 9 (some 84) sB1 ?_
       refine sA1 10 (some 85) sB1 ?_
       refine sA1 13 (some 88) sB1 ?_
       exact eU bF (hJ2 (x1,p) _ ⟨hHeld,HN.out⟩)
      skip
      refine jP (w1:=?_) (v:=?_) bK rfl ?_ ?_;rotate_left 2
      ·go_simp;constructor
       ·rfl
       rfl
      have hb:Below w10.drew.heap.size w10.drew (w10.drew.alloc (.cells fY.toArray 35)):=(Below.refl _ _).alloc (Nat.le_refl _) _;replace HN:=cH HN.out.cell;refine hK.out _ _ ⟨(eF (w:=w10.drew) hHeld.1 hb),(eF (w:=w10.drew) hHeld.2.1 hb),(eF (w:=w10.drew) hHeld.2.2.1 hb),(eF (w:=w10.drew) hHeld.2.2.2.1 hb),(eF (w:=w10.drew) hHeld.2.2.2.2.1 hb),(eF (w:=w10.drew) hHeld.2.2.2.2.2 hb)⟩ (fun hHeld=>?_);clear hK K;refine eU sJ1 ?_
      exact eU bF (hJ18 (x1,w10.drew.heap.size) _ ⟨hHeld,HN.out⟩)
     skip
     rintro ⟨x1,p⟩ wn ⟨hHeld,hN⟩;replace HN:=cH hN;clear hN;refine eU (a':=?_) ?_ ?_;rotate_left
     ·simp only[lV,Act.put,List.setIfInBounds_toArray,List.set_cons_zero,List.set_cons_succ];rfl
     refine sF1 2 (some 77) sG1 (fun K hK=>?_);refine iK Tryz.func28 bB rfl #[.slice Ax dirs.length cx] bK rfl rfl bG ?_
     with_reducible refine ((CF.out _ HN.out.below)).mono ?_
     rintro e wm ⟨rfl,hb⟩;refine ⟨_,rfl,?_⟩;replace HN:=cH (HN.out.grow hb);refine hK.out _ _ ⟨(eF (w:=wn) hHeld.1 hb),(eF (w:=wn) hHeld.2.1 hb),(eF (w:=wn) hHeld.2.2.1 hb),(eF (w:=wn) hHeld.2.2.2.1 hb),(eF (w:=wn) hHeld.2.2.2.2.1 hb),(eF (w:=wn) hHeld.2.2.2.2.2 hb)⟩ (fun hHeld=>?_);clear hK K;refine eU sJ1 ?_
     refine sA1 3 (some 78) sB1 ?_
     refine sA1 5 (some 80) sB1 ?_
     refine sA1 6 (some 81) sB1 ?_
     refine sA1 9 (some 84) sB1 ?_
     refine sA1 10 (some 85) sB1 ?_
     refine sA1 13 (some 88) sB1 ?_
     exact eU bF (hJ2_18 (x1,p) _ ⟨hHeld,HN.out⟩)
    skip
    rintro ⟨x1,p⟩ wn ⟨hHeld,hN⟩;replace HN:=cH hN;clear hN;refine eU (a':=?_) ?_ ?_;rotate_left
    ·simp only[lV,Act.put,List.setIfInBounds_toArray,List.set_cons_zero,List.set_cons_succ];rfl
    refine zZ (i:=14) (j:=18) (Ni:=some 89) (Nj:=some 10) #[true,true,true,true,true,true,true,true,true,true,true,true,true,true,true,false,false,false,false,false,false] #[true,true,true,true,true,true,true,true,true,true,true,true,true,true,false,false,false,false,true,false,false] rfl rfl rfl rfl bB bH bH (fun K hK=>?_) (fun K hK=>?_)
    ·skip
     refine iK Tryz.func29 bB rfl #[.agg #[.slice Al st.langs.length cl,.slice Ad st.dis.length cd,.slice (some ⟨g9,o9,none⟩) st.fmts.length cf,.slice Ac st.cont.length cc],.string ⟨#[108,97,121,111,117,116,115]⟩,.string s] bK rfl rfl bG ?_
     with_reducible refine ((CK.out _ HN.out.below)).mono ?_
     rintro e wm ⟨t,l1,l2,l3,v1,v2,v3,rfl,hs9,hg9,hb⟩;refine ⟨_,rfl,?_⟩;replace HN:=cH (HN.out.know hb hs9 hg9);clear hs9 hg9;refine hK.out _ _ ⟨(eF (w:=wn) hHeld.1 hb),(eF (w:=wn) hHeld.2.1 hb),(eF (w:=wn) hHeld.2.2.1 hb),(eF (w:=wn) hHeld.2.2.2.1 hb),(eF (w:=wn) hHeld.2.2.2.2.1 hb),(eF (w:=wn) hHeld.2.2.2.2.2 hb)⟩ (fun hHeld=>?_);clear hK K;refine eU sJ1 ?_
     refine sA1 15 (some 74) sB1 ?_
     refine sA1 16 (some 90) sB1 ?_
     refine sA1 17 (some 91) sB1 ?_
     exact eU bF (hJ2_14 (iB t v1 v2 v3,p) _ ⟨hHeld,HN.out⟩)
    skip
    refine jP (w1:=?_) (v:=?_) bK rfl ?_ ?_;rotate_left 2
    ·go_simp;constructor
     ·rfl
     rfl
    have hb:Below wn.heap.size wn (wn.alloc (.cells fY.toArray 35)):=(Below.refl _ _).alloc (Nat.le_refl _) _;replace HN:=cH HN.out.cell;refine hK.out _ _ ⟨(eF (w:=wn) hHeld.1 hb),(eF (w:=wn) hHeld.2.1 hb),(eF (w:=wn) hHeld.2.2.1 hb),(eF (w:=wn) hHeld.2.2.2.1 hb),(eF (w:=wn) hHeld.2.2.2.2.1 hb),(eF (w:=wn) hHeld.2.2.2.2.2 hb)⟩ (fun hHeld=>?_);clear hK K;refine eU sJ1 ?_
    exact eU bF (hJ2_18 (x1,wn.heap.size) _ ⟨hHeld,HN.out⟩)
   skip
   rintro ⟨x1,p⟩ wn ⟨hHeld,hN⟩;replace HN:=cH hN;clear hN;refine eU (a':=?_) ?_ ?_;rotate_left
   ·simp only[lV,Act.put,List.setIfInBounds_toArray,List.set_cons_zero,List.set_cons_succ];rfl
   refine sF1 14 (some 89) sG1 (fun K hK=>?_);refine iK Tryz.func29 bB rfl #[.agg #[.slice Al st.langs.length cl,.slice Ad st.dis.length cd,.slice (some ⟨g9,o9,none⟩) st.fmts.length cf,.slice Ac st.cont.length cc],.string ⟨#[108,97,121,111,117,116,115]⟩,.string s] bK rfl rfl bG ?_
   with_reducible refine ((CK.out _ HN.out.below)).mono ?_
   rintro e wm ⟨t,l1,l2,l3,v1,v2,v3,rfl,hs9,hg9,hb⟩;refine ⟨_,rfl,?_⟩;replace HN:=cH (HN.out.know hb hs9 hg9);clear hs9 hg9;refine hK.out _ _ ⟨(eF (w:=wn) hHeld.1 hb),(eF (w:=wn) hHeld.2.1 hb),(eF (w:=wn) hHeld.2.2.1 hb),(eF (w:=wn) hHeld.2.2.2.1 hb),(eF (w:=wn) hHeld.2.2.2.2.1 hb),(eF (w:=wn) hHeld.2.2.2.2.2 hb)⟩ (fun hHeld=>?_);clear hK K;refine eU sJ1 ?_
   refine sA1 15 (some 74) sB1 ?_
   refine sA1 16 (some 90) sB1 ?_
   refine sA1 17 (some 91) sB1 ?_
   exact eU bF (hJ2_14_18 (iB t v1 v2 v3,p) _ ⟨hHeld,HN.out⟩)
  skip
  rintro ⟨x1,p⟩ wn ⟨hHeld,hN⟩;replace HN:=cH hN;clear hN;refine eU (a':=?_) ?_ ?_;rotate_left
  ·simp only[lV,Act.put,List.setIfInBounds_toArray,List.set_cons_zero,List.set_cons_succ];rfl
  refine sF1 18 (some 10) sG1 (fun K hK=>?_);refine jP (w1:=?_) (v:=?_) bK rfl ?_ ?_;rotate_left 2
  ·go_simp;constructor
   ·rfl
   rfl
  have hb:Below wn.heap.size wn (wn.alloc (.cells fY.toArray 35)):=(Below.refl _ _).alloc (Nat.le_refl _) _;replace HN:=cH HN.out.cell;refine hK.out _ _ ⟨(eF (w:=wn) hHeld.1 hb),(eF (w:=wn) hHeld.2.1 hb),(eF (w:=wn) hHeld.2.2.1 hb),(eF (w:=wn) hHeld.2.2.2.1 hb),(eF (w:=wn) hHeld.2.2.2.2.1 hb),(eF (w:=wn) hHeld.2.2.2.2.2 hb)⟩ (fun hHeld=>?_);clear hK K;refine eU sJ1 ?_
  exact eU bF (hJ2_14_18 (x1,wn.heap.size) _ ⟨hHeld,HN.out⟩)
 rintro ⟨x1,p⟩ wn ⟨hHeld,hN⟩;replace HN:=cH hN;clear hN;refine eU (a':=?_) ?_ ?_;rotate_left
 ·simp only[lV,Act.put,List.setIfInBounds_toArray,List.set_cons_zero,List.set_cons_succ];rfl
 refine sH1 19 none sI1 (fun K hK=>?_);obtain ⟨t,l1,l2,l3,v1,v2,v3,e1,hr,hg,hfar⟩:=HN.out.res rfl;change x1=_ at e1;subst e1;obtain ⟨hP,hp0⟩:=HN.out.pa rfl;have HPR:=cH hP;have HB6:=cH HN.out.below;have HGG:=cH hg;have HFAR:=cH (hfar rfl);have HP0:=cH hp0
 obtain ⟨C,hC⟩:∃ C:Array Value,oY t v1 v2 v3=C:=⟨_,rfl⟩
 have HCS:=cH (show C.size=31 by rw[← hC];rfl);have HON:=cH (show C.all (·.oneCell')=true by obtain ⟨A1,c1,e1,_⟩:=hr.1;obtain ⟨A2,c2,e2,_⟩:=hr.2.1;obtain ⟨A3,c3,e3,_⟩:=hr.2.2;rw[← hC,e1,e2,e3];exact mF _ _ _ _ _ _ _ _ _ _);have hval:iB t v1 v2 v3 = .agg C:=by rw[← hC];rfl
 rw[hval];have HC:=cH hC;clear hP hp0 hg hfar hr hval hC;refine zY bK rfl (.tmp 10) (.tmp 90) rfl rfl rfl HPR.out rfl HCS.out HON.out ?_;refine hK.out _ _ ?_;clear hK K;refine sA1 20 (some 11) sB1 ?_
 refine iY bB ?_
 obtain ⟨W,hW⟩:∃ W,wn.setCells p 0 C.toList=W:=⟨_,rfl⟩
 have hce:=nM HPR.out rfl HCS.out;have hbw:Below w10.heap.size w10 W:=hW▸below_setCells HP0.out _ _ _ HB6.out;have hsl:=HFAR.out C.toList;rw[hW] at hce hsl ⊢;have HCE:=cH hce;have HSL:Aside0 (eT W w10.heap.size v1 l1∧eT W w10.heap.size v2 l2∧eT W w10.heap.size v3 l3):=cH hsl;have HBX:=cH (eB HB10.out hbw);have HVX:=cH hbw;have HBW:=cH (Below.refl W.heap.size W);have HRS3:=cH (HRS10.out.below hbw (HRS10.out.lt bJ));have HT:Aside0 (ok=true→t=gQ (fL (eI st) comp (norm s))∧l1=iT (fL (eI st) comp (norm s))∧l2=iV (fL (eI st) comp (norm s))∧l3=kB (fL (eI st) comp (norm s))):=cH (by have h9:=HGG.out;rw[← HG.out] at h9;exact h9)
 obtain ⟨bk,hbk⟩:∃ x,p=x:=⟨_,rfl⟩
 rw[hbk] at HCE ⊢;clear hW hce hbw hsl hHeld hbk r0 r1 r2 r3 s0 s1;have HRFW:=cH (HRF.out.below HVX.out (HRF.out.lt bJ));clear hs n1 n2 n3 n4 n5 n6 n7 n8 n9 n10 n11;cases ok
 ·go_wp2_with fail
  go_ret;exact ⟨rfl,HBX.out⟩
 have hgo:=trivial;obtain ⟨ht1,rfl,rfl,rfl⟩:=HT.out bL;obtain ⟨OS,HASC,HASCC,hs400,hc2000,hPK⟩:=HOK.out bL;have HPK:=cH hPK;clear hPK
 obtain ⟨p,hp⟩:∃ p,fL (eI st) comp (norm s)=p:=⟨_,rfl⟩
 rw[hp] at ht1 HSL;subst ht1;have HP:=cH hp;have hpo:=nP (eI st) comp (norm s) (by rw[norm_size];omega);rw[hp] at hpo;have HPO:=cH hpo;have HPN:=cH (oL (eI st) comp (norm s));rw[hp] at HPN;have k9:=HCE.out 9 (.string (nrm p.trim p.s)) (by rw[← HC.out];rfl);have hne:=HPN.out;clear hp hpo HT HOK k9 hne;obtain ⟨hpl,hme⟩:=HSH.out bL;unfold qB at hme;simp only[Bool.or_eq_false_iff] at hme
 obtain ⟨q1,q2,q3,q4⟩:=aB4 HPK.out HP.out HDP.out (lay:=lay) (fn:=fn) (fe:=fe) (by
  rw[← HS.out,← HDIR.out];simp only[iP,jL]
  simp[L]) hpl (HP2.out bL) (HP3.out bL) (by rw[← HCOMP.out];unfold eV;rw[L_toList];rfl) (by rw[hme.2.1,hme.2.2];rfl) (by rw[HN1.out,HN2.out];rfl) (by
  unfold jW
  exact List.any_eq_true.2 ⟨_,HIN.out,dY⟩) hme.1
 have t1:(fn.toList==fn.toList)=true:=by simp
 have t2:(lay.toList==lay.toList)=true:=by simp
 have t3:(fe.toList==fe.toList)=true:=by simp
 have s0:=HRFW.out.at 0 _ rfl;have s1:=HRFW.out.at 1 _ rfl;have k16:=HCE.out 16 (.string fn) (by rw[← HC.out,← show xQ p=fn from q1];rfl);have k18:=HCE.out 18 (.string lay) (by rw[← HC.out,← show qG p=lay from q2];rfl);have k15:=HCE.out 15 (.string fe) (by rw[← HC.out,← show fH p 0=fe from q3];rfl);have hr2:=(HSL.out.2.1.below HBW.out).mono (Nat.zero_le _);rw[show iV p=[fe,fn,lay] from q4] at hr2;obtain ⟨A2,c2,e2,hc2,hd2⟩:=id hr2;have HR2:=cH (show eT W 0 (.slice A2 3 c2) [fe,fn,lay] from e2▸hr2);have k22:=HCE.out 22 (.slice A2 3 c2) (by rw[← HC.out,show (Value.slice A2 3 c2)=v2 from e2.symm];rfl);clear e2 hr2 hc2 hd2;clear q1 q2 q3 q4 hpl hme;have hal:Below W.heap.size W (W.alloc (.cells #[.string fe,.string fn,.string lay] 9)):=(Below.refl _ _).alloc (Nat.le_refl _) _
 have ct:=lK (w:=W.alloc (.cells #[.string fe,.string fn,.string lay] 9)) (HR2.out.below hal) ((eT.of_row (l:=[fe,fn,lay]) (Row.new W [.string fe,.string fn,.string lay] 9) 3 bJ).mono (Nat.zero_le _)) bJ;go_wp2_with fail
 refine ct.mono ?_;rintro e wt1 ⟨rfl,hbt⟩;have hbx:=eB hal hbt;have HBt1:=cH (eB HBX.out hbx);have HVt1:=cH (hbx);replace k16:=eH k16 hbx;replace k18:=eH k18 hbx;replace k15:=eH k15 hbx;replace k22:=eH k22 hbx;clear hal ct hbt hbx;go_wp2_with fail
 go_ret
 first
 | exact ⟨rfl,HBt1.out⟩
 | exact ⟨congrArg (fun b=>Ending.returned (Value.bool b)) (by assumption),HBt1.out⟩
end
theorem lifted (os:Os) (started:os.Started) (H:Type) (enc:TypeId×Value→H) :
 ReturnsInHanded {} Tryz.checked os 8 .any (fun w args=>(Rows.fnBuiltFormatSpec.pre enc Tryz.prog Tryz.f8 Rows.fnBuiltFormatRow.domain false w args∧laidMetH Tryz.prog Rows.fnBuiltFormatRow.laid w)∧sizedMet enc Tryz.prog Tryz.f8 (OpenSpec.ofChange Rows.fnBuiltFormatSpec) false w args)
  (Rows.fnBuiltFormatSpec.post enc Tryz.prog Tryz.f8 false true false false):=by
 refine returnsInHanded_of_change_and (C:=Tryz.checked) (X:=fun w _=>laidMetH Tryz.prog Rows.fnBuiltFormatRow.laid w) (fun _ _ _ hh h=>h.of_heap hh) RowKit.own started bB Tryz.func8
  (ChangeSpec.witness_shaped (enc:=enc) (C:=Tryz.checked) (os:=os) (X:=fun w _=>laidMetH Tryz.prog Rows.fnBuiltFormatRow.laid w) false (World.laidAll Tryz.prog os Rows.fnBuiltFormatRow.laid) #[.agg #[.slice none 0 0,.slice none 0 0,.slice none 0 0,.slice none 0 0],.slice none 0 0,.string ByteArray.empty,.int .i64 0] 8 (World.laidAll_os _ _ _)
   (World.shaped_of_ZipB bB bB) bB bB bB
   bN) ?_
 intro W base args ds gs before hval0 hW _ _ _ _;have hval:∀ (j:Nat) t v,Tryz.f8.params[j]? = some t→args[j]? = some v→Value.okWide Tryz.prog W .any base t v:=hval0;have hW':=hW;obtain ⟨p,q,hA0,hV,rfl,_,_⟩:=hW;have hA:DataW.TrodAll enc Tryz.prog W 0 (fun _=>true) true Tryz.f8.params.toList args.toList ds p:=hA0;rw[Tryz.params8] at hA hval;obtain ⟨v0,vs0,d0,ds0,p0,q0,hargs,rfl,rfl,h0,r0⟩:=trodAll_cons hA;obtain ⟨v1,vs1,d1,ds1,p1,q1,rfl,rfl,rfl,h1,r1⟩:=trodAll_cons r0;obtain ⟨v2,vs2,d2,ds2,p2,q2,rfl,rfl,rfl,h2,r2⟩:=trodAll_cons r1;obtain ⟨v3,vs3,d3,ds3,p3,q3,rfl,rfl,rfl,h3,r3⟩:=trodAll_cons r2;obtain ⟨rfl,rfl,rfl⟩:=trodAll_nil r3;obtain rfl:args = #[v0,v1,v2,v3]:=by cases args;simp_all
 obtain ⟨rfl,rfl⟩:=trodVars_none hV;have k0:=h0;have lt0:∀ x∈p0,x.block < W.heap.size:=by obtain ⟨m,hm⟩:=k0;exact DataW.trod_lt m _ _ _ hm
 obtain ⟨st0,vl0,vd0,vf0,vc0,rfl,S0⟩:=SiteRow.open_site (hval 0 25 v0 rfl rfl) h0;have k1:=h1;have lt1:∀ x∈p1,x.block < W.heap.size:=by obtain ⟨m,hm⟩:=k1;exact DataW.trod_lt m _ _ _ hm
 obtain ⟨l1,S1,z1⟩:∃ l,eT W 0 v1 l∧l.length≤9223372036854775807:=by obtain ⟨a9,n9,c9,rfl⟩:=okWide_slice Tryz.underlying22 (hval 1 22 v1 rfl rfl);obtain ⟨m,hm⟩:=k1;exact SiteRow.open_strs hm
 obtain ⟨a2,rfl,rfl,rfl,y2⟩:=Go.ChangeMaps.open_string Tryz.underlying9 (hval 2 9 v2 rfl rfl) h2;obtain ⟨a3,rfl,rfl,rfl,w3⟩:=open_int Tryz.underlying3 (hval 3 3 v3 rfl rfl) h3;clear hA0 hval0;refine (walk (w:=W) S0 S1 z1 a2 a3).mono fun e W' ⟨he,bel⟩=>?_;subst he;exact ⟨_,rfl,_,_,_,[],_,[],hW',trodAll_mk1 (shut_bool Tryz.underlying4 _),(trodAll_cons_mk (Below.trod SiteRow.laidOut bB (of_decide_eq_true bB) k0 bel lt0) (trodAll_cons_mk (Below.trod SiteRow.laidOut bB (of_decide_eq_true bB) k1 bel lt1) (trodAll_cons_mk (Go.ChangeMaps.shut_string Tryz.underlying9 y2) (trodAll_cons_mk (shut_int Tryz.underlying3 w3) trodAll_mk0)))),rfl,bel.frame _,fun h=>by cases h⟩
theorem said:Rows.FnBuiltFormatSaid :=
 OpenClaim.holds_of_wide 8 Tryz.f8 rfl rfl rfl rfl rfl rfl rfl ⟨rfl,rfl,rfl,rfl,rfl⟩ rfl rfl rfl rfl rfl bB Tryz.func8 bB
  (of_decide_eq_true bB) bM
  (fun os started H enc _=>lifted os started H enc)
theorem plain (f:FuncId) (fn:Func) (hf:Tryz.pinned.checked.prog.funcNamed "pub-trackway/laws.FnBuiltFormat" = some f) (hfn:Tryz.pinned.checked.prog.funcs[f]? = some fn) :
 false=Tryz.pinned.checked.prog.looks []∧∀ (j:Nat) t,fn.params[j]? = some t→Tryz.pinned.checked.prog.wantsStandIn t=false:=by
 obtain rfl:f=8:=Option.some.inj ((show Tryz.prog.funcNamed "pub-trackway/laws.FnBuiltFormat" = some 8 by kernel_rfl).symm.trans hf) |>.symm
 obtain rfl:fn=Tryz.f8:=(Option.some.inj (Tryz.func8.symm.trans hfn)).symm;refine ⟨by kernel_rfl,fun j t ht=>?_⟩;rw[Tryz.params8] at ht;have hm:t∈[25,22,9,3]:=by simpa using Array.mem_of_getElem? ht
 have hall:([25,22,9,3].all fun u=>!Tryz.prog.wantsStandIn u)=true:=by kernel_rfl
 exact (show Tryz.prog.wantsStandIn t=false by simpa using List.all_eq_true.1 hall t hm)
theorem card:Rows.FnBuiltFormatCardSaid :=
 Claim7.holds_tied_plain_at .later [] _ _ _ _ said (fun _ h=>by cases h) bB (fun _ h=>by cases h) fnBuiltFormat_row_tie rfl ⟨rfl,rfl⟩ bB rfl plain bB
end Go.Proofs.YtcdgldnphhidlaaGreatDoor.fnBuiltFormat
namespace Go.Proofs.YtcdgldnphhidlaaGreatDoor
theorem fnBuiltFormat_card:Rows.FnBuiltFormatCardSaid:=fnBuiltFormat.card
#print axioms fnBuiltFormat_card
end Go.Proofs.YtcdgldnphhidlaaGreatDoor
