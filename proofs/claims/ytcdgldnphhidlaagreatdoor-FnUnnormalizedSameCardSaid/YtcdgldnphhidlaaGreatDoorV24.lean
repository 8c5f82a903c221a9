/- Texts that the law leans on: Alike, Again, Take2. Condition: as told at each. -/
import Derived.Test.YtcdgldnphhidlaaGreatDoorVa
import Derived.Test.YtcdgldnphhidlaaGreatDoorV22
import Derived.Test.YtcdgldnphhidlaaGreatDoorV23
set_option linter.unusedVariables false
set_option linter.unusedSimpArgs false
set_option maxRecDepth 100000
set_option maxHeartbeats 16000000
namespace Go.Proofs.YtcdgldnphhidlaaGreatDoor.Path
open Go.RowKit Go.WideMaps Go.ZW.PrintWords Go.Proofs.YtcdgldnphhidlaaGreatDoor.Base Go.Proofs.YtcdgldnphhidlaaGreatDoor.Lower
section
variable {w:World} {f0 f1 f2 f3 f4 f5 f6 f7 f8 f9 f10 f11 f12 f13 f14 f15 f16 f17 f18 f19 f20:ByteArray} {f24 f25 f26 f27 f28 f29:Bool} {f30:Int} {A1 A2 A3 D1 D2 D3:Option Addr} {n1 n2 n3 Ac1 Ac2 Ac3 Dc1 Dc2 Dc3:Nat}
theorem oT {P:Program} {ops:Array Oper} {rest:List Oper} {op:Oper} {a:Act} {w:World} {Q:Exit→Act→World→Prop} (hw:Region.wanted op (yielded ops a.tmps)=true) (ty:TypeId) (x:Operand) (ho:op.op = .load ty x)
 (b o:Nat) (hx:a.eval x = .pointer (some ⟨b,o,none⟩)) (cs:List Value) (d:TypeDesc) (hc:w.rangeAt b o cs)
 (hu:P.underlying ty=some d) (hd:d.isRow=true) (hi:(P.info? ty).map (·.size)=some cs.length)
 (h:wpList P ops Q rest (a.put op.dst (.agg cs.toArray)) w):wpList P ops Q (op::rest) a w:=by
 unfold wpList;rw[if_pos hw];exact .inl (wp_load_mid ty x ho b o hx cs d hc hu hd hi h)
theorem qO {w w' : World} {b j:Nat} {v:Value} (h:w.cell? ⟨b,j,none⟩=some v) (hb:Below w.heap.size w w'):w'.cell? ⟨b,j,none⟩=some v:=(hb.cell (World.block_lt_of_cell? w ⟨b,j,none⟩ h)).trans h
theorem kY {w w' : World} {b:Nat} {cs:List Value} (h:w.rangeAt b 0 cs) (hb:Below w.heap.size w w'):w'.rangeAt b 0 cs:=fun j v hv=>qO (h j v hv) hb
theorem aCw (hne:(f9.toList==[])=false) {l1 l2 l3:List ByteArray} (hl1:l1.length≤1000000) (hl2:l2.length≤1000000) (hl3:l3.length≤1000000)
 (S1:eT w 0 (.slice A1 n1 Ac1) l1) (S2:eT w 0 (.slice A2 n2 Ac2) l2) (S3:eT w 0 (.slice A3 n3 Ac3) l3) (U1:eT w 0 (.slice D1 n1 Dc1) l1) (U2:eT w 0 (.slice D2 n2 Dc2) l2) (U3:eT w 0 (.slice D3 n3 Dc3) l3) :
 Calls Tryz.prog 39 #[.agg #[.string f0,.string f1,.string f2,.string f3,.string f4,.string f5,.string f6,.string f7,.string f8,.string f9,.string f10,.string f11,.string f12,.string f13,.string f14,.string f15,.string f16,.string f17,.string f18,.string f19,.string f20,.slice A1 n1 Ac1,.slice A2 n2 Ac2,.slice A3 n3 Ac3,.bool f24,.bool f25,.bool f26,.bool f27,.bool f28,.bool f29,.int .i64 f30],.agg #[.string f0,.string f1,.string f2,.string f3,.string f4,.string f5,.string f6,.string f7,.string f8,.string f9,.string f10,.string f11,.string f12,.string f13,.string f14,.string f15,.string f16,.string f17,.string f18,.string f19,.string f20,.slice D1 n1 Dc1,.slice D2 n2 Dc2,.slice D3 n3 Dc3,.bool f24,.bool f25,.bool f26,.bool f27,.bool f28,.bool f29,.int .i64 f30]] w fun e w'=>e = .returned (.bool true)∧Below w.heap.size w w':=by
 have hR1:=Row.new w [.string f0,.string f1,.string f2,.string f3,.string f4,.string f5,.string f6,.string f7,.string f8,.string f9,.string f10,.string f11,.string f12,.string f13,.string f14,.string f15,.string f16,.string f17,.string f18,.string f19,.string f20,.slice A1 n1 Ac1,.slice A2 n2 Ac2,.slice A3 n3 Ac3,.bool f24,.bool f25,.bool f26,.bool f27,.bool f28,.bool f29,.int .i64 f30] 35
 obtain ⟨w1,hw1⟩:∃ w1,w.alloc (.cells #[.string f0,.string f1,.string f2,.string f3,.string f4,.string f5,.string f6,.string f7,.string f8,.string f9,.string f10,.string f11,.string f12,.string f13,.string f14,.string f15,.string f16,.string f17,.string f18,.string f19,.string f20,.slice A1 n1 Ac1,.slice A2 n2 Ac2,.slice A3 n3 Ac3,.bool f24,.bool f25,.bool f26,.bool f27,.bool f28,.bool f29,.int .i64 f30] 35)=w1:=⟨_,rfl⟩
 have hR2:=Row.new w1 [.string f0,.string f1,.string f2,.string f3,.string f4,.string f5,.string f6,.string f7,.string f8,.string f9,.string f10,.string f11,.string f12,.string f13,.string f14,.string f15,.string f16,.string f17,.string f18,.string f19,.string f20,.slice D1 n1 Dc1,.slice D2 n2 Dc2,.slice D3 n3 Dc3,.bool f24,.bool f25,.bool f26,.bool f27,.bool f28,.bool f29,.int .i64 f30] 35
 obtain ⟨w2,hw2⟩:∃ w2,w1.alloc (.cells #[.string f0,.string f1,.string f2,.string f3,.string f4,.string f5,.string f6,.string f7,.string f8,.string f9,.string f10,.string f11,.string f12,.string f13,.string f14,.string f15,.string f16,.string f17,.string f18,.string f19,.string f20,.slice D1 n1 Dc1,.slice D2 n2 Dc2,.slice D3 n3 Dc3,.bool f24,.bool f25,.bool f26,.bool f27,.bool f28,.bool f29,.int .i64 f30] 35)=w2:=⟨_,rfl⟩
 have hb1:Below w.heap.size w w1:=by rw[← hw1];exact (Below.refl _ _).alloc (Nat.le_refl _) _
 have hb2:Below w1.heap.size w1 w2:=by rw[← hw2];exact (Below.refl _ _).alloc (Nat.le_refl _) _
 have hz1:w1.heap.size=w.heap.size+1:=by rw[← hw1];simp
 have hz2:w2.heap.size=w.heap.size+2:=by rw[← hw2];simp[hz1]
 change Row (w.alloc (.cells #[.string f0,.string f1,.string f2,.string f3,.string f4,.string f5,.string f6,.string f7,.string f8,.string f9,.string f10,.string f11,.string f12,.string f13,.string f14,.string f15,.string f16,.string f17,.string f18,.string f19,.string f20,.slice A1 n1 Ac1,.slice A2 n2 Ac2,.slice A3 n3 Ac3,.bool f24,.bool f25,.bool f26,.bool f27,.bool f28,.bool f29,.int .i64 f30] 35)) _ _ at hR1;change Row (w1.alloc (.cells #[.string f0,.string f1,.string f2,.string f3,.string f4,.string f5,.string f6,.string f7,.string f8,.string f9,.string f10,.string f11,.string f12,.string f13,.string f14,.string f15,.string f16,.string f17,.string f18,.string f19,.string f20,.slice D1 n1 Dc1,.slice D2 n2 Dc2,.slice D3 n3 Dc3,.bool f24,.bool f25,.bool f26,.bool f27,.bool f28,.bool f29,.int .i64 f30] 35)) _ _ at hR2
 rw[hw1] at hR1;rw[hw2,hz1] at hR2;have hRa:=hR1.below hb2 bA;have HB:=cH (hb1.trans (hb2.mono bA));have HRa:=cH hRa;have HRb:=cH hR2;have HN:=cH hne;have HW1:=cH hw1;have HW2:=cH hw2
 obtain ⟨LA,hLA⟩:∃ l:List Value,[.string f0,.string f1,.string f2,.string f3,.string f4,.string f5,.string f6,.string f7,.string f8,.string f9,.string f10,.string f11,.string f12,.string f13,.string f14,.string f15,.string f16,.string f17,.string f18,.string f19,.string f20,.slice A1 n1 Ac1,.slice A2 n2 Ac2,.slice A3 n3 Ac3,.bool f24,.bool f25,.bool f26,.bool f27,.bool f28,.bool f29,.int .i64 f30]=l:=⟨_,rfl⟩
 obtain ⟨LD,hLD⟩:∃ l:List Value,[.string f0,.string f1,.string f2,.string f3,.string f4,.string f5,.string f6,.string f7,.string f8,.string f9,.string f10,.string f11,.string f12,.string f13,.string f14,.string f15,.string f16,.string f17,.string f18,.string f19,.string f20,.slice D1 n1 Dc1,.slice D2 n2 Dc2,.slice D3 n3 Dc3,.bool f24,.bool f25,.bool f26,.bool f27,.bool f28,.bool f29,.int .i64 f30]=l:=⟨_,rfl⟩
 have hra:Row w2 w.heap.size LA:=by rw[← hLA];exact HRa.out
 have hrb:Row w2 (w.heap.size+1) LD:=by rw[← hLD];exact HRb.out
 have lA:LA.length=31:=by rw[← hLA];rfl
 have lD:LD.length=31:=by rw[← hLD];rfl
 have oA:LA.toArray.all (·.oneCell')=true:=by rw[← hLA];kernel_rfl
 have oD:LD.toArray.all (·.oneCell')=true:=by rw[← hLD];kernel_rfl
 have iA:(Tryz.prog.info? 35).map (·.size)=some LA.length:=by rw[lA];kernel_rfl
 have iD:(Tryz.prog.info? 35).map (·.size)=some LD.length:=by rw[lD];kernel_rfl
 have sA:LA.toArray.size=31:=by rw[List.size_toArray];exact lA
 have sD:LD.toArray.size=31:=by rw[List.size_toArray];exact lD
 have iA' : (Tryz.prog.info? 35).map (·.size)=some LA.toArray.size:=by rw[List.size_toArray];exact iA
 have iD' : (Tryz.prog.info? 35).map (·.size)=some LD.toArray.size:=by rw[List.size_toArray];exact iD
 have hS0:w2.drew.rangeAt w.heap.size 0 LA∧w2.drew.rangeAt (w.heap.size+1) 0 LD:=⟨(World.rangeAt_drew _ _ _ _).2 hra.range,(World.rangeAt_drew _ _ _ _).2 hrb.range⟩
 have keepS:∀ w3:World,(∀ k,k < w2.heap.size→w3.heap[k]? = w2.heap[k]?)→w3.rangeAt w.heap.size 0 LA∧w3.rangeAt (w.heap.size+1) 0 LD:=fun w3 h=>⟨sR hra.range (h _ bA),sR hrb.range (h _ bA)⟩
 have HLA:=cH hLA;have HLD:=cH hLD;clear hLA hLD hR1 hR2 hRa hb1 hb2 hw1 hw2 hz1;go_enter Tryz.func39,Tryz.ntmps39;go_upto_region 1 with fail
 rw[HW1.out]
 first | rw[HW2.out] | (change Code.wp _ _ _ _ (w1.alloc (.cells #[.string f0,.string f1,.string f2,.string f3,.string f4,.string f5,.string f6,.string f7,.string f8,.string f9,.string f10,.string f11,.string f12,.string f13,.string f14,.string f15,.string f16,.string f17,.string f18,.string f19,.string f20,.slice D1 n1 Dc1,.slice D2 n2 Dc2,.slice D3 n3 Dc3,.bool f24,.bool f25,.bool f26,.bool f27,.bool f28,.bool f29,.int .i64 f30] 35));rw[HW2.out])
 go_cut [5,6] from 5 to 8 (fun s5 s6 wx=>∃ b5 b6,s5 = .pointer (some ⟨b5,0,none⟩)∧s6 = .pointer (some ⟨b6,0,none⟩)∧Aside0 (wx.rangeAt b5 0 LA∧wx.rangeAt b6 0 LD∧w2.heap.size≤b5∧w2.heap.size≤b6∧Below w2.heap.size w2 wx))
 case first J2 K2 hJ2 hK2 =>
  obtain ⟨w3,hw3⟩:∃ w3,w2.drew.alloc (.cells TZ 35)=w3:=⟨_,rfl⟩
  obtain ⟨w4,hw4⟩:∃ w4,w3.alloc (.cells TZ 35)=w4:=⟨_,rfl⟩
  have z2:w2.drew.heap.size=w2.heap.size:=rfl;have z3:w3.heap.size=w2.heap.size+1:=by rw[← hw3];simp
  have z4:w4.heap.size=w2.heap.size+2:=by rw[← hw4];simp[z3]
  have k3:∀ k,k < w2.heap.size→w3.heap[k]? = w2.heap[k]?:=fun k hk=>by rw[← hw3];exact Below.heap_alloc w2.drew _ k hk
  have k4:∀ k,k < w2.heap.size→w4.heap[k]? = w2.heap[k]?:=fun k hk=>by rw[← hw4,Below.heap_alloc w3 _ k bA];exact k3 k hk
  have t3:w3.there w2.heap.size 0 31:=by rw[← hw3];exact aCr w2.drew
  have t4:w4.there w2.heap.size 0 31:=by rw[← hw4];exact there_alloc t3 _ bA
  have t4' : w4.there (w2.heap.size+1) 0 31:=by rw[← hw4,← z3];exact aCr w3
  have b4:Below w2.heap.size w2 w4:=by
   rw[← hw4,← hw3];exact ((Below.refl _ _).drew.alloc (Nat.le_refl _) _).alloc bJ _
  refine wp_region_held_drew (S:=fun w'=>w'.rangeAt w.heap.size 0 LA∧w'.rangeAt (w.heap.size+1) 0 LD) bB hS0 (fun hH=>?_);refine takeD (i:=0) (d:=some 7) (v:=.agg LA.toArray) rfl rfl bB bB bB (fun _ _ _ h=>h) (yieldsIf_load_mid rfl 35 (.tmp 2) rfl w.heap.size 0 rfl LA _ (fun _ h=>h.1) Tryz.underlying35 rfl iA) hH ?_;refine takeD (i:=1) (d:=some 8) (v:=.agg LD.toArray) rfl rfl bB bB bB (fun _ _ _ h=>h) (yieldsIf_load_mid rfl 35 (.tmp 3) rfl (w.heap.size+1) 0 rfl LD _ (fun _ h=>h.2) Tryz.underlying35 rfl iD) hH ?_;refine wpAnyH_ready (rs:=[2,3]) bB bJ ?_
  refine sN (d:=some 5) (v:=.pointer (some ⟨w2.heap.size,0,none⟩)) (w':=w3) rfl rfl rfl (fun K h=>rK rfl (by rw[hw3];exact h)) (keepS _ k3) ?_ (sN (d:=some 6) (v:=.pointer (some ⟨w2.heap.size,0,none⟩)) (w':=w3) rfl rfl rfl (fun K h=>rK rfl (by rw[hw3];exact h)) (keepS _ k3) ?_ AllReadyH.nil)
  ·refine wpAnyH_ready (rs:=[3]) bB bJ ?_;refine sN (d:=some 6) (v:=.pointer (some ⟨w2.heap.size+1,0,none⟩)) (w':=w4) rfl rfl rfl (fun K h=>rK rfl (by rw[hw4,z3];exact h)) (keepS _ k4) ?_ AllReadyH.nil;refine wpAnyH_ready (rs:=[4]) bB bJ ?_;refine sN (d:=none) (v:=undef) (w':=w4.setCells w2.heap.size 0 LA) rfl rfl rfl (fun K h=>wp_store_mid 35 (.tmp 5) (.tmp 7) rfl w2.heap.size 0 LA.toArray rfl rfl (by rw[sA];exact t4) iA' oA (by rw[List.toList_toArray];exact h)) (keepS _ fun k hk=>(hZ _ _ k bA).trans (k4 k hk)) ?_ AllReadyH.nil;refine wpAnyH_ready (rs:=[5]) bB bJ ?_
   refine sN (d:=none) (v:=undef) (w':=(w4.setCells w2.heap.size 0 LA).setCells (w2.heap.size+1) 0 LD) rfl rfl rfl (fun K h=>wp_store_mid 35 (.tmp 6) (.tmp 8) rfl (w2.heap.size+1) 0 LD.toArray rfl rfl (by rw[sD];exact sS t4' (hZ _ _ _ bA)) iD' oD (by rw[List.toList_toArray];exact h)) (keepS _ fun k hk=>(hZ _ _ k bA).trans ((hZ _ _ k bA).trans (k4 k hk))) ?_ AllReadyH.nil;refine wpAnyH_done bB ?_ _;simp only[Act.put,List.setIfInBounds_toArray,List.set_cons_zero,List.set_cons_succ];refine hK2 _ _ (Met.intro (hJ2 _ _ ?_))
   repeat apply Exists.intro
   refine ⟨?rel,rfl⟩
   case rel =>
    refine ⟨w2.heap.size,w2.heap.size+1,rfl,rfl,cH ⟨?_,?_,Nat.le_refl _,aQ,?_⟩⟩
    ·exact sR (World.rangeAt_setCells_same w4 w2.heap.size 0 LA (by rw[lA];exact t4)) (hZ _ _ _ bA)
    ·exact World.rangeAt_setCells_same _ (w2.heap.size+1) 0 LD (by rw[lD];exact sS t4' (hZ _ _ _ bA))
    exact below_setCells (Nat.le_succ _) _ _ _ (below_setCells (Nat.le_refl _) _ _ _ b4)
  refine wpAnyH_ready (rs:=[2]) bB bJ ?_;refine sN (d:=some 5) (v:=.pointer (some ⟨w2.heap.size+1,0,none⟩)) (w':=w4) rfl rfl rfl (fun K h=>rK rfl (by rw[hw4,z3];exact h)) (keepS _ k4) ?_ AllReadyH.nil;refine wpAnyH_ready (rs:=[4]) bB bJ ?_;refine sN (d:=none) (v:=undef) (w':=w4.setCells (w2.heap.size+1) 0 LA) rfl rfl rfl (fun K h=>wp_store_mid 35 (.tmp 5) (.tmp 7) rfl (w2.heap.size+1) 0 LA.toArray rfl rfl (by rw[sA];exact t4') iA' oA (by rw[List.toList_toArray];exact h)) (keepS _ fun k hk=>(hZ _ _ k bA).trans (k4 k hk)) ?_ AllReadyH.nil;refine wpAnyH_ready (rs:=[5]) bB bJ ?_
  refine sN (d:=none) (v:=undef) (w':=(w4.setCells (w2.heap.size+1) 0 LA).setCells w2.heap.size 0 LD) rfl rfl rfl (fun K h=>wp_store_mid 35 (.tmp 6) (.tmp 8) rfl w2.heap.size 0 LD.toArray rfl rfl (by rw[sD];exact sS t4 (hZ _ _ _ bA)) iD' oD (by rw[List.toList_toArray];exact h)) (keepS _ fun k hk=>(hZ _ _ k bA).trans ((hZ _ _ k bA).trans (k4 k hk))) ?_ AllReadyH.nil;refine wpAnyH_done bB ?_ _;simp only[Act.put,List.setIfInBounds_toArray,List.set_cons_zero,List.set_cons_succ];refine hK2 _ _ (Met.intro (hJ2 _ _ ?_))
  repeat apply Exists.intro
  refine ⟨?rel,rfl⟩
  case rel =>
   refine ⟨w2.heap.size+1,w2.heap.size,rfl,rfl,cH ⟨?_,?_,aQ,Nat.le_refl _,?_⟩⟩
   ·exact sR (World.rangeAt_setCells_same w4 (w2.heap.size+1) 0 LA (by rw[lA];exact t4')) (hZ _ _ _ bA)
   ·exact World.rangeAt_setCells_same _ w2.heap.size 0 LD (by rw[lD];exact sS t4 (hZ _ _ _ bA))
   exact below_setCells (Nat.le_refl _) _ _ _ (below_setCells (Nat.le_succ _) _ _ _ b4)
 obtain ⟨b5,b6,rfl,rfl,HX⟩:=hcut
 obtain ⟨wx,rfl⟩:∃ x,x=wc:=⟨_,rfl⟩
 have HB9:=cH (HB.out.trans (HX.out.2.2.2.2.mono HB.out.size));have RA9:=cH HX.out.1;have RD9:=cH HX.out.2.1;have ra:=HRa.out.below HX.out.2.2.2.2 bA;have rb:=HRb.out.below HX.out.2.2.2.2 bA;have a9:=ra.at 9 _ rfl;have a21:=ra.at 21 _ rfl;have a22:=ra.at 22 _ rfl;have a23:=ra.at 23 _ rfl;have b21:=rb.at 21 _ rfl;have b22:=rb.at 22 _ rfl;have b23:=rb.at 23 _ rfl;clear ra rb;have t1:=lK (S1.below HB9.out) (U1.below HB9.out) hl1;go_wp2_with fail
 refine t1.mono ?_;rintro e w10 ⟨rfl,hb10⟩;have HB10:=cH (HB9.out.trans (hb10.mono HB9.out.size));replace a9:=qO a9 hb10;replace a22:=qO a22 hb10;replace a23:=qO a23 hb10;replace b22:=qO b22 hb10;replace b23:=qO b23 hb10;have RA10:=cH (kY RA9.out hb10);have RD10:=cH (kY RD9.out hb10);clear t1 hb10;clear a21 b21;have t2:=lK (S2.below HB10.out) (U2.below HB10.out) hl2;go_wp2_with fail
 refine t2.mono ?_;rintro e w11 ⟨rfl,hb11⟩;have HB11:=cH (HB10.out.trans (hb11.mono HB10.out.size));replace a9:=qO a9 hb11;replace a23:=qO a23 hb11;replace b23:=qO b23 hb11;have RA11:=cH (kY RA10.out hb11);have RD11:=cH (kY RD10.out hb11);clear t2 hb11;clear a22 b22;have t3:=lK (S3.below HB11.out) (U3.below HB11.out) hl3;go_wp2_with fail
 refine t3.mono ?_;rintro e w12 ⟨rfl,hb12⟩;have HB12:=cH (HB11.out.trans (hb12.mono HB11.out.size));replace a9:=qO a9 hb12;have RA12:=cH (kY RA11.out hb12);have RD12:=cH (kY RD11.out hb12);clear t3 hb12;clear a23 b23;have hn9:=HN.out
 have cnames:Calls Tryz.prog 64 #[.agg LA.toArray,.agg LD.toArray] w12 fun e w'=>e = .returned (.bool true)∧Below w12.heap.size w12 w':=by
  rw[← HLA.out,← HLD.out];exact aDk
 go_wp2_with (first | (refine oT bK 35 _ rfl b5 0 rfl LA _ RA12.out Tryz.underlying35 rfl iA ?_) | (refine oT bK 35 _ rfl b6 0 rfl LD _ RD12.out Tryz.underlying35 rfl iD ?_) | fail)
 refine cnames.mono ?_;rintro e w13 ⟨rfl,hb13⟩;have HB13:=cH (HB12.out.trans (hb13.mono HB12.out.size));have RA13:=cH (kY RA12.out hb13);have RD13:=cH (kY RD12.out hb13);clear cnames hb13;clear a9 hn9
 have cwords:Calls Tryz.prog 65 #[.agg LA.toArray,.agg LD.toArray] w13 fun e w'=>e = .returned (.bool true)∧Below w13.heap.size w13 w':=by
  rw[← HLA.out,← HLD.out];exact aDt
 go_wp2_with (first | (refine oT bK 35 _ rfl b5 0 rfl LA _ RA13.out Tryz.underlying35 rfl iA ?_) | (refine oT bK 35 _ rfl b6 0 rfl LD _ RD13.out Tryz.underlying35 rfl iD ?_) | fail)
 refine cwords.mono ?_;rintro e w14 ⟨rfl,hb14⟩;have HB14:=cH (HB13.out.trans (hb14.mono HB13.out.size));have RA14:=cH (kY RA13.out hb14);have RD14:=cH (kY RD13.out hb14);clear cwords hb14
 have csorts:Calls Tryz.prog 66 #[.agg LA.toArray,.agg LD.toArray] w14 fun e w'=>e = .returned (.bool true)∧Below w14.heap.size w14 w':=by
  rw[← HLA.out,← HLD.out];exact aDq
 go_wp2_with (first | (refine oT bK 35 _ rfl b5 0 rfl LA _ RA14.out Tryz.underlying35 rfl iA ?_) | (refine oT bK 35 _ rfl b6 0 rfl LD _ RD14.out Tryz.underlying35 rfl iD ?_) | fail)
 refine csorts.mono ?_;rintro e w15 ⟨rfl,hb15⟩;have HB15:=cH (HB14.out.trans (hb15.mono HB14.out.size));have RA15:=cH (kY RA14.out hb15);have RD15:=cH (kY RD14.out hb15);clear csorts hb15;go_wp2_with fail
 go_ret;exact ⟨rfl,HB15.out⟩
end
open Go.RowKit Go.WideMaps Go.ZW.PrintWords Go.Proofs.YtcdgldnphhidlaaGreatDoor.Base Go.Proofs.YtcdgldnphhidlaaGreatDoor.Lower Go.Proofs.YtcdgldnphhidlaaGreatDoor.Total Go.Proofs.YtcdgldnphhidlaaGreatDoor.PCore
section
variable {w:World} {st:fD} {vl vd vf vc:Value}
theorem aEa {p:eJ} (I:PathIn p) (hne:((nrm p.trim p.s).toList==[])=false) {v1 v2 v3 u1 u2 u3:Value} (T1:Told w 0 p v1 v2 v3) (T2:Told w 0 p u1 u2 u3) :
 Calls Tryz.prog 39 #[iB (gQ p) v1 v2 v3,iB (gQ p) u1 u2 u3] w fun e w'=>e = .returned (.bool true)∧Below w.heap.size w w':=by
 obtain ⟨S1,S2,S3⟩:=T1;obtain ⟨U1,U2,U3⟩:=T2;have l1:(iT p).length≤1000000:=by unfold iT;rw[List.length_map];exact I.ll
 have l2:(iV p).length≤1000000:=by unfold iV;rw[List.length_map];exact I.kl
 have l3:(kB p).length≤1000000:=by unfold kB;rw[List.length_map];exact I.ul
 obtain ⟨a1,c1,rfl,_⟩:=id S1;obtain ⟨a2,c2,rfl,_⟩:=id S2;obtain ⟨a3,c3,rfl,_⟩:=id S3;obtain ⟨b1,d1,rfl,_⟩:=id U1;obtain ⟨b2,d2,rfl,_⟩:=id U2;obtain ⟨b3,d3,rfl,_⟩:=id U3
 exact aCw (f0:=(gQ p).component) (f1:=(gQ p).container) (f2:=(gQ p).containerDir) (f3:=(gQ p).section_) (f4:=(gQ p).name) (f5:=(gQ p).nameNoExt) (f6:=(gQ p).baseName) (f7:=(gQ p).nameNoId) (f8:=(gQ p).dir) (f9:=(gQ p).path) (f10:=(gQ p).pathNoLang) (f11:=(gQ p).pathNoId) (f12:=(gQ p).pathBefore) (f13:=(gQ p).base) (f14:=(gQ p).idBase) (f15:=(gQ p).ext) (f16:=(gQ p).fmt) (f17:=(gQ p).kind) (f18:=(gQ p).layout) (f19:=(gQ p).lang) (f20:=(gQ p).custom) (f24:=(gQ p).disabled) (f25:=(gQ p).isContent) (f26:=(gQ p).isBundle) (f27:=(gQ p).isBranch) (f28:=(gQ p).isLeaf) (f29:=(gQ p).isData) (f30:=(gQ p).typ) hne l1 l2 l3 S1 S2 S3 U1 U2 U3
end
section
variable {P:Program} {md:Region.Mode} {ops:Array Oper} {Q:Exit→Act→World→Prop} {S:World→Prop} {fuel:Nat} {listed:Array Bool} {a:Act} {w:World}
theorem aEf {i:Nat} {o:Oper} {d:Option Tmp} {R:Value→World→Prop} {rs:List Nat} (ho:ops[i]? = some o) (hd:o.dst=d) (hw:Region.wanted o (yielded ops a.tmps)=true)
 (step:∀ K:Act→World→Prop,(∀ v w',R v w'→K (a.put o.dst v) w')→Oper.wp P o a w K Q) (hS:∀ v w',R v w'→S w')
 (h:∀ v w',R v w'→wpAnyH P md ops Q S fuel (listed.setIfInBounds i true) (a.put d v) w')
 (more:AllReadyH P md ops Q S fuel listed a w rs):AllReadyH P md ops Q S fuel listed a w (i::rs):=by
 subst hd;refine AllReadyH.cons ho (fun K hK=>?_) more;rw[if_pos hw];exact step K (fun v w' hr=>hK.out _ _ (hS v w' hr) (fun _=>h v w' hr))
theorem uY {o:Oper} {K:Act→World→Prop} {f:FuncId} {args:Array Value} {R:Value→World→Prop} (hx:(execOp a.eval o).run P w = .ok (.enter f args) w)
 (hc:Calls P f args w fun e w'=>∃ v,e = .returned v∧R v w') (hK:∀ v w',R v w'→K (a.put o.dst v) w'):Oper.wp P o a w K Q:=by
 unfold Oper.wp;rw[hx];show Calls P f args w _;refine hc.mono ?_;rintro e w' ⟨v,rfl,hr⟩;exact hK v w' hr
end
end Go.Proofs.YtcdgldnphhidlaaGreatDoor.Path
