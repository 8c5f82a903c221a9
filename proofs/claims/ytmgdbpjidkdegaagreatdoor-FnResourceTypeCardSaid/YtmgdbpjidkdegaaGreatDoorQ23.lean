/- Texts that the law leans on: Alike, Keep, Cuts, First, Sizes, Same, Again, Take2, Views. Condition: as told at each. -/
import Derived.Test.YtmgdbpjidkdegaaGreatDoorQa
import Derived.Test.YtmgdbpjidkdegaaGreatDoorQ22
set_option linter.unusedVariables false
set_option linter.unusedSimpArgs false
set_option linter.unusedSimpArgs false
set_option linter.unusedVariables false
namespace Go.Proofs.YtmgdbpjidkdegaaGreatDoor.Path
open Go.RowKit Go.WideMaps Go.Proofs.YtmgdbpjidkdegaaGreatDoorW.PrintWords Go.Proofs.YtmgdbpjidkdegaaGreatDoor.Base Go.Proofs.YtmgdbpjidkdegaaGreatDoor.Lower
section
variable {w:World} {f0 f1 f2 f3 f4 f5 f6 f7 f8 f9 f10 f11 f12 f13 f14 f15 f16 f17 f18 f19 f20:ByteArray} {f24 f25 f26 f27 f28 f29:Bool} {f30:Int} {A1 A2 A3 D1 D2 D3:Option Addr} {n1 n2 n3 Ac1 Ac2 Ac3 Dc1 Dc2 Dc3:Nat}
theorem load_mid_w {P:Program} {ops:Array Oper} {rest:List Oper} {op:Oper} {a:Act} {w:World} {Q:Exit→Act→World→Prop} (hw:Region.wanted op (yielded ops a.tmps)=true) (ty:TypeId) (x:Operand) (ho:op.op = .load ty x)
 (b o:Nat) (hx:a.eval x = .pointer (some ⟨b,o,none⟩)) (cs:List Value) (d:TypeDesc) (hc:w.rangeAt b o cs)
 (hu:P.underlying ty=some d) (hd:d.isRow=true) (hi:(P.info? ty).map (·.size)=some cs.length)
 (h:wpList P ops Q rest (a.put op.dst (.agg cs.toArray)) w):wpList P ops Q (op::rest) a w:=by
 unfold wpList;rw[if_pos hw];exact .inl (wp_load_mid ty x ho b o hx cs d hc hu hd hi h)
theorem cstep {w w' : World} {b j:Nat} {v:Value} (h:w.cell? ⟨b,j,none⟩=some v) (hb:Below w.heap.size w w'):w'.cell? ⟨b,j,none⟩=some v:=(hb.cell (World.block_lt_of_cell? w ⟨b,j,none⟩ h)).trans h
theorem rstep {w w' : World} {b:Nat} {cs:List Value} (h:w.rangeAt b 0 cs) (hb:Below w.heap.size w w'):w'.rangeAt b 0 cs:=fun j v hv=>cstep (h j v hv) hb
set_option maxRecDepth 100000 in
set_option maxHeartbeats 4000000 in
theorem alike_calls (hne:(f9.toList==[])=false) {l1 l2 l3:List ByteArray} (hl1:l1.length≤1000000) (hl2:l2.length≤1000000) (hl3:l3.length≤1000000)
 (S1:StrRow w 0 (.slice A1 n1 Ac1) l1) (S2:StrRow w 0 (.slice A2 n2 Ac2) l2) (S3:StrRow w 0 (.slice A3 n3 Ac3) l3) (U1:StrRow w 0 (.slice D1 n1 Dc1) l1) (U2:StrRow w 0 (.slice D2 n2 Dc2) l2) (U3:StrRow w 0 (.slice D3 n3 Dc3) l3) :
 Calls Tryz.prog 32 #[.agg #[.string f0,.string f1,.string f2,.string f3,.string f4,.string f5,.string f6,.string f7,.string f8,.string f9,.string f10,.string f11,.string f12,.string f13,.string f14,.string f15,.string f16,.string f17,.string f18,.string f19,.string f20,.slice A1 n1 Ac1,.slice A2 n2 Ac2,.slice A3 n3 Ac3,.bool f24,.bool f25,.bool f26,.bool f27,.bool f28,.bool f29,.int .i64 f30],.agg #[.string f0,.string f1,.string f2,.string f3,.string f4,.string f5,.string f6,.string f7,.string f8,.string f9,.string f10,.string f11,.string f12,.string f13,.string f14,.string f15,.string f16,.string f17,.string f18,.string f19,.string f20,.slice D1 n1 Dc1,.slice D2 n2 Dc2,.slice D3 n3 Dc3,.bool f24,.bool f25,.bool f26,.bool f27,.bool f28,.bool f29,.int .i64 f30]] w fun e w'=>e = .returned (.bool true)∧Below w.heap.size w w':=by
 have hR1:=Row.new w [.string f0,.string f1,.string f2,.string f3,.string f4,.string f5,.string f6,.string f7,.string f8,.string f9,.string f10,.string f11,.string f12,.string f13,.string f14,.string f15,.string f16,.string f17,.string f18,.string f19,.string f20,.slice A1 n1 Ac1,.slice A2 n2 Ac2,.slice A3 n3 Ac3,.bool f24,.bool f25,.bool f26,.bool f27,.bool f28,.bool f29,.int .i64 f30] 32
 obtain ⟨w1,hw1⟩:∃ w1,w.alloc (.cells #[.string f0,.string f1,.string f2,.string f3,.string f4,.string f5,.string f6,.string f7,.string f8,.string f9,.string f10,.string f11,.string f12,.string f13,.string f14,.string f15,.string f16,.string f17,.string f18,.string f19,.string f20,.slice A1 n1 Ac1,.slice A2 n2 Ac2,.slice A3 n3 Ac3,.bool f24,.bool f25,.bool f26,.bool f27,.bool f28,.bool f29,.int .i64 f30] 32)=w1:=⟨_,rfl⟩
 have hR2:=Row.new w1 [.string f0,.string f1,.string f2,.string f3,.string f4,.string f5,.string f6,.string f7,.string f8,.string f9,.string f10,.string f11,.string f12,.string f13,.string f14,.string f15,.string f16,.string f17,.string f18,.string f19,.string f20,.slice D1 n1 Dc1,.slice D2 n2 Dc2,.slice D3 n3 Dc3,.bool f24,.bool f25,.bool f26,.bool f27,.bool f28,.bool f29,.int .i64 f30] 32
 obtain ⟨w2,hw2⟩:∃ w2,w1.alloc (.cells #[.string f0,.string f1,.string f2,.string f3,.string f4,.string f5,.string f6,.string f7,.string f8,.string f9,.string f10,.string f11,.string f12,.string f13,.string f14,.string f15,.string f16,.string f17,.string f18,.string f19,.string f20,.slice D1 n1 Dc1,.slice D2 n2 Dc2,.slice D3 n3 Dc3,.bool f24,.bool f25,.bool f26,.bool f27,.bool f28,.bool f29,.int .i64 f30] 32)=w2:=⟨_,rfl⟩
 have hb1:Below w.heap.size w w1:=by rw[← hw1];exact (Below.refl _ _).alloc (Nat.le_refl _) _
 have hb2:Below w1.heap.size w1 w2:=by rw[← hw2];exact (Below.refl _ _).alloc (Nat.le_refl _) _
 have hz1:w1.heap.size=w.heap.size+1:=by rw[← hw1];simp
 have hz2:w2.heap.size=w.heap.size+2:=by rw[← hw2];simp[hz1]
 change Row (w.alloc (.cells #[.string f0,.string f1,.string f2,.string f3,.string f4,.string f5,.string f6,.string f7,.string f8,.string f9,.string f10,.string f11,.string f12,.string f13,.string f14,.string f15,.string f16,.string f17,.string f18,.string f19,.string f20,.slice A1 n1 Ac1,.slice A2 n2 Ac2,.slice A3 n3 Ac3,.bool f24,.bool f25,.bool f26,.bool f27,.bool f28,.bool f29,.int .i64 f30] 32)) _ _ at hR1;change Row (w1.alloc (.cells #[.string f0,.string f1,.string f2,.string f3,.string f4,.string f5,.string f6,.string f7,.string f8,.string f9,.string f10,.string f11,.string f12,.string f13,.string f14,.string f15,.string f16,.string f17,.string f18,.string f19,.string f20,.slice D1 n1 Dc1,.slice D2 n2 Dc2,.slice D3 n3 Dc3,.bool f24,.bool f25,.bool f26,.bool f27,.bool f28,.bool f29,.int .i64 f30] 32)) _ _ at hR2
 rw[hw1] at hR1;rw[hw2,hz1] at hR2;have hRa:=hR1.below hb2 bA;have HB:=bR (hb1.trans (hb2.mono bA));have HRa:=bR hRa;have HRb:=bR hR2;have HN:=bR hne;have HW1:=bR hw1;have HW2:=bR hw2
 obtain ⟨LA,hLA⟩:∃ l:List Value,[.string f0,.string f1,.string f2,.string f3,.string f4,.string f5,.string f6,.string f7,.string f8,.string f9,.string f10,.string f11,.string f12,.string f13,.string f14,.string f15,.string f16,.string f17,.string f18,.string f19,.string f20,.slice A1 n1 Ac1,.slice A2 n2 Ac2,.slice A3 n3 Ac3,.bool f24,.bool f25,.bool f26,.bool f27,.bool f28,.bool f29,.int .i64 f30]=l:=⟨_,rfl⟩
 obtain ⟨LD,hLD⟩:∃ l:List Value,[.string f0,.string f1,.string f2,.string f3,.string f4,.string f5,.string f6,.string f7,.string f8,.string f9,.string f10,.string f11,.string f12,.string f13,.string f14,.string f15,.string f16,.string f17,.string f18,.string f19,.string f20,.slice D1 n1 Dc1,.slice D2 n2 Dc2,.slice D3 n3 Dc3,.bool f24,.bool f25,.bool f26,.bool f27,.bool f28,.bool f29,.int .i64 f30]=l:=⟨_,rfl⟩
 have hra:Row w2 w.heap.size LA:=by rw[← hLA];exact HRa.out
 have hrb:Row w2 (w.heap.size+1) LD:=by rw[← hLD];exact HRb.out
 have lA:LA.length=31:=by rw[← hLA];rfl
 have lD:LD.length=31:=by rw[← hLD];rfl
 have oA:LA.toArray.all (·.oneCell')=true:=by rw[← hLA];kernel_rfl
 have oD:LD.toArray.all (·.oneCell')=true:=by rw[← hLD];kernel_rfl
 have iA:(Tryz.prog.info? 32).map (·.size)=some LA.length:=by rw[lA];kernel_rfl
 have iD:(Tryz.prog.info? 32).map (·.size)=some LD.length:=by rw[lD];kernel_rfl
 have sA:LA.toArray.size=31:=by rw[List.size_toArray];exact lA
 have sD:LD.toArray.size=31:=by rw[List.size_toArray];exact lD
 have iA' : (Tryz.prog.info? 32).map (·.size)=some LA.toArray.size:=by rw[List.size_toArray];exact iA
 have iD' : (Tryz.prog.info? 32).map (·.size)=some LD.toArray.size:=by rw[List.size_toArray];exact iD
 have hS0:w2.drew.rangeAt w.heap.size 0 LA∧w2.drew.rangeAt (w.heap.size+1) 0 LD:=⟨(World.rangeAt_drew _ _ _ _).2 hra.range,(World.rangeAt_drew _ _ _ _).2 hrb.range⟩
 have keepS:∀ w3:World,(∀ k,k < w2.heap.size→w3.heap[k]? = w2.heap[k]?)→w3.rangeAt w.heap.size 0 LA∧w3.rangeAt (w.heap.size+1) 0 LD:=fun w3 h=>⟨range_far hra.range (h _ bA),range_far hrb.range (h _ bA)⟩
 have HLA:=bR hLA;have HLD:=bR hLD;clear hLA hLD hR1 hR2 hRa hb1 hb2 hw1 hw2 hz1;go_enter Tryz.func32,Tryz.ntmps32;go_upto_region 1 with fail
 rw[HW1.out]
 first | rw[HW2.out] | (change Code.wp _ _ _ _ (w1.alloc (.cells #[.string f0,.string f1,.string f2,.string f3,.string f4,.string f5,.string f6,.string f7,.string f8,.string f9,.string f10,.string f11,.string f12,.string f13,.string f14,.string f15,.string f16,.string f17,.string f18,.string f19,.string f20,.slice D1 n1 Dc1,.slice D2 n2 Dc2,.slice D3 n3 Dc3,.bool f24,.bool f25,.bool f26,.bool f27,.bool f28,.bool f29,.int .i64 f30] 32));rw[HW2.out])
 go_cut [5,6] from 5 to 8 (fun s5 s6 wx=>∃ b5 b6,s5 = .pointer (some ⟨b5,0,none⟩)∧s6 = .pointer (some ⟨b6,0,none⟩)∧Aside0 (wx.rangeAt b5 0 LA∧wx.rangeAt b6 0 LD∧w2.heap.size≤b5∧w2.heap.size≤b6∧Below w2.heap.size w2 wx))
 case first J2 K2 hJ2 hK2 =>
  obtain ⟨w3,hw3⟩:∃ w3,w2.drew.alloc (.cells TZ 32)=w3:=⟨_,rfl⟩
  obtain ⟨w4,hw4⟩:∃ w4,w3.alloc (.cells TZ 32)=w4:=⟨_,rfl⟩
  have z2:w2.drew.heap.size=w2.heap.size:=rfl;have z3:w3.heap.size=w2.heap.size+1:=by rw[← hw3];simp
  have z4:w4.heap.size=w2.heap.size+2:=by rw[← hw4];simp[z3]
  have k3:∀ k,k < w2.heap.size→w3.heap[k]? = w2.heap[k]?:=fun k hk=>by rw[← hw3];exact Below.heap_alloc w2.drew _ k hk
  have k4:∀ k,k < w2.heap.size→w4.heap[k]? = w2.heap[k]?:=fun k hk=>by rw[← hw4,Below.heap_alloc w3 _ k bA];exact k3 k hk
  have t3:w3.there w2.heap.size 0 31:=by rw[← hw3];exact there_TZ w2.drew
  have t4:w4.there w2.heap.size 0 31:=by rw[← hw4];exact there_alloc t3 _ bA
  have t4' : w4.there (w2.heap.size+1) 0 31:=by rw[← hw4,← z3];exact there_TZ w3
  have b4:Below w2.heap.size w2 w4:=by
   rw[← hw4,← hw3];exact ((Below.refl _ _).drew.alloc (Nat.le_refl _) _).alloc bI _
  refine wp_region_held_drew (S:=fun w'=>w'.rangeAt w.heap.size 0 LA∧w'.rangeAt (w.heap.size+1) 0 LD) bB hS0 (fun hH=>?_);refine takeD (i:=0) (d:=some 7) (v:=.agg LA.toArray) rfl rfl bB bB bB (fun _ _ _ h=>h) (yieldsIf_load_mid rfl 32 (.tmp 2) rfl w.heap.size 0 rfl LA _ (fun _ h=>h.1) Tryz.underlying32 rfl iA) hH ?_;refine takeD (i:=1) (d:=some 8) (v:=.agg LD.toArray) rfl rfl bB bB bB (fun _ _ _ h=>h) (yieldsIf_load_mid rfl 32 (.tmp 3) rfl (w.heap.size+1) 0 rfl LD _ (fun _ h=>h.2) Tryz.underlying32 rfl iD) hH ?_;refine wpAnyH_ready (rs:=[2,3]) bB bI ?_
  refine comeD (d:=some 5) (v:=.pointer (some ⟨w2.heap.size,0,none⟩)) (w':=w3) rfl rfl rfl (fun K h=>alloc_told rfl (by rw[hw3];exact h)) (keepS _ k3) ?_ (comeD (d:=some 6) (v:=.pointer (some ⟨w2.heap.size,0,none⟩)) (w':=w3) rfl rfl rfl (fun K h=>alloc_told rfl (by rw[hw3];exact h)) (keepS _ k3) ?_ AllReadyH.nil)
  ·refine wpAnyH_ready (rs:=[3]) bB bI ?_;refine comeD (d:=some 6) (v:=.pointer (some ⟨w2.heap.size+1,0,none⟩)) (w':=w4) rfl rfl rfl (fun K h=>alloc_told rfl (by rw[hw4,z3];exact h)) (keepS _ k4) ?_ AllReadyH.nil;refine wpAnyH_ready (rs:=[4]) bB bI ?_;refine comeD (d:=none) (v:=undef) (w':=w4.setCells w2.heap.size 0 LA) rfl rfl rfl (fun K h=>wp_store_mid 32 (.tmp 5) (.tmp 7) rfl w2.heap.size 0 LA.toArray rfl rfl (by rw[sA];exact t4) iA' oA (by rw[List.toList_toArray];exact h)) (keepS _ fun k hk=>(setCells_far _ _ k bA).trans (k4 k hk)) ?_ AllReadyH.nil;refine wpAnyH_ready (rs:=[5]) bB bI ?_
   refine comeD (d:=none) (v:=undef) (w':=(w4.setCells w2.heap.size 0 LA).setCells (w2.heap.size+1) 0 LD) rfl rfl rfl (fun K h=>wp_store_mid 32 (.tmp 6) (.tmp 8) rfl (w2.heap.size+1) 0 LD.toArray rfl rfl (by rw[sD];exact there_far t4' (setCells_far _ _ _ bA)) iD' oD (by rw[List.toList_toArray];exact h)) (keepS _ fun k hk=>(setCells_far _ _ k bA).trans ((setCells_far _ _ k bA).trans (k4 k hk))) ?_ AllReadyH.nil;refine wpAnyH_done bB ?_ _;simp only[Act.put,List.setIfInBounds_toArray,List.set_cons_zero,List.set_cons_succ];refine hK2 _ _ (Met.intro (hJ2 _ _ ?_))
   repeat apply Exists.intro
   refine ⟨?rel,rfl⟩
   case rel =>
    refine ⟨w2.heap.size,w2.heap.size+1,rfl,rfl,bR ⟨?_,?_,Nat.le_refl _,by omega,?_⟩⟩
    ·exact range_far (World.rangeAt_setCells_same w4 w2.heap.size 0 LA (by rw[lA];exact t4)) (setCells_far _ _ _ bA)
    ·exact World.rangeAt_setCells_same _ (w2.heap.size+1) 0 LD (by rw[lD];exact there_far t4' (setCells_far _ _ _ bA))
    ·exact below_setCells (Nat.le_succ _) _ _ _ (below_setCells (Nat.le_refl _) _ _ _ b4)
  ·refine wpAnyH_ready (rs:=[2]) bB bI ?_;refine comeD (d:=some 5) (v:=.pointer (some ⟨w2.heap.size+1,0,none⟩)) (w':=w4) rfl rfl rfl (fun K h=>alloc_told rfl (by rw[hw4,z3];exact h)) (keepS _ k4) ?_ AllReadyH.nil;refine wpAnyH_ready (rs:=[4]) bB bI ?_;refine comeD (d:=none) (v:=undef) (w':=w4.setCells (w2.heap.size+1) 0 LA) rfl rfl rfl (fun K h=>wp_store_mid 32 (.tmp 5) (.tmp 7) rfl (w2.heap.size+1) 0 LA.toArray rfl rfl (by rw[sA];exact t4') iA' oA (by rw[List.toList_toArray];exact h)) (keepS _ fun k hk=>(setCells_far _ _ k bA).trans (k4 k hk)) ?_ AllReadyH.nil;refine wpAnyH_ready (rs:=[5]) bB bI ?_
   refine comeD (d:=none) (v:=undef) (w':=(w4.setCells (w2.heap.size+1) 0 LA).setCells w2.heap.size 0 LD) rfl rfl rfl (fun K h=>wp_store_mid 32 (.tmp 6) (.tmp 8) rfl w2.heap.size 0 LD.toArray rfl rfl (by rw[sD];exact there_far t4 (setCells_far _ _ _ bA)) iD' oD (by rw[List.toList_toArray];exact h)) (keepS _ fun k hk=>(setCells_far _ _ k bA).trans ((setCells_far _ _ k bA).trans (k4 k hk))) ?_ AllReadyH.nil;refine wpAnyH_done bB ?_ _;simp only[Act.put,List.setIfInBounds_toArray,List.set_cons_zero,List.set_cons_succ];refine hK2 _ _ (Met.intro (hJ2 _ _ ?_))
   repeat apply Exists.intro
   refine ⟨?rel,rfl⟩
   case rel =>
    refine ⟨w2.heap.size+1,w2.heap.size,rfl,rfl,bR ⟨?_,?_,by omega,Nat.le_refl _,?_⟩⟩
    ·exact range_far (World.rangeAt_setCells_same w4 (w2.heap.size+1) 0 LA (by rw[lA];exact t4')) (setCells_far _ _ _ bA)
    ·exact World.rangeAt_setCells_same _ w2.heap.size 0 LD (by rw[lD];exact there_far t4 (setCells_far _ _ _ bA))
    ·exact below_setCells (Nat.le_refl _) _ _ _ (below_setCells (Nat.le_succ _) _ _ _ b4)
 case rest =>
  obtain ⟨b5,b6,rfl,rfl,HX⟩:=hcut
  obtain ⟨wx,rfl⟩:∃ x,x=wc:=⟨_,rfl⟩
  have HB9:=bR (HB.out.trans (HX.out.2.2.2.2.mono HB.out.size));have RA9:=bR HX.out.1;have RD9:=bR HX.out.2.1;have ra:=HRa.out.below HX.out.2.2.2.2 bA;have rb:=HRb.out.below HX.out.2.2.2.2 bA;have a9:=ra.at 9 _ rfl;have a21:=ra.at 21 _ rfl;have a22:=ra.at 22 _ rfl;have a23:=ra.at 23 _ rfl;have b21:=rb.at 21 _ rfl;have b22:=rb.at 22 _ rfl;have b23:=rb.at 23 _ rfl;clear ra rb;have t1:=texts_calls (S1.below HB9.out) (U1.below HB9.out) hl1;go_wp2_with fail
  refine t1.mono ?_;rintro e w10 ⟨rfl,hb10⟩;have HB10:=bR (HB9.out.trans (hb10.mono HB9.out.size));replace a9:=cstep a9 hb10;replace a22:=cstep a22 hb10;replace a23:=cstep a23 hb10;replace b22:=cstep b22 hb10;replace b23:=cstep b23 hb10;have RA10:=bR (rstep RA9.out hb10);have RD10:=bR (rstep RD9.out hb10);clear t1 hb10;clear a21 b21;have t2:=texts_calls (S2.below HB10.out) (U2.below HB10.out) hl2;go_wp2_with fail
  refine t2.mono ?_;rintro e w11 ⟨rfl,hb11⟩;have HB11:=bR (HB10.out.trans (hb11.mono HB10.out.size));replace a9:=cstep a9 hb11;replace a23:=cstep a23 hb11;replace b23:=cstep b23 hb11;have RA11:=bR (rstep RA10.out hb11);have RD11:=bR (rstep RD10.out hb11);clear t2 hb11;clear a22 b22;have t3:=texts_calls (S3.below HB11.out) (U3.below HB11.out) hl3;go_wp2_with fail
  refine t3.mono ?_;rintro e w12 ⟨rfl,hb12⟩;have HB12:=bR (HB11.out.trans (hb12.mono HB11.out.size));replace a9:=cstep a9 hb12;have RA12:=bR (rstep RA11.out hb12);have RD12:=bR (rstep RD11.out hb12);clear t3 hb12;clear a23 b23;have hn9:=HN.out
  have cnames:Calls Tryz.prog 54 #[.agg LA.toArray,.agg LD.toArray] w12 fun e w'=>e = .returned (.bool true)∧Below w12.heap.size w12 w':=by
   rw[← HLA.out,← HLD.out];exact names_calls
  go_wp2_with (first | (refine load_mid_w bH 32 _ rfl b5 0 rfl LA _ RA12.out Tryz.underlying32 rfl iA ?_) | (refine load_mid_w bH 32 _ rfl b6 0 rfl LD _ RD12.out Tryz.underlying32 rfl iD ?_) | fail)
  refine cnames.mono ?_;rintro e w13 ⟨rfl,hb13⟩;have HB13:=bR (HB12.out.trans (hb13.mono HB12.out.size));have RA13:=bR (rstep RA12.out hb13);have RD13:=bR (rstep RD12.out hb13);clear cnames hb13;clear a9 hn9
  have cwords:Calls Tryz.prog 55 #[.agg LA.toArray,.agg LD.toArray] w13 fun e w'=>e = .returned (.bool true)∧Below w13.heap.size w13 w':=by
   rw[← HLA.out,← HLD.out];exact words_calls
  go_wp2_with (first | (refine load_mid_w bH 32 _ rfl b5 0 rfl LA _ RA13.out Tryz.underlying32 rfl iA ?_) | (refine load_mid_w bH 32 _ rfl b6 0 rfl LD _ RD13.out Tryz.underlying32 rfl iD ?_) | fail)
  refine cwords.mono ?_;rintro e w14 ⟨rfl,hb14⟩;have HB14:=bR (HB13.out.trans (hb14.mono HB13.out.size));have RA14:=bR (rstep RA13.out hb14);have RD14:=bR (rstep RD13.out hb14);clear cwords hb14
  have csorts:Calls Tryz.prog 56 #[.agg LA.toArray,.agg LD.toArray] w14 fun e w'=>e = .returned (.bool true)∧Below w14.heap.size w14 w':=by
   rw[← HLA.out,← HLD.out];exact sorts_calls
  go_wp2_with (first | (refine load_mid_w bH 32 _ rfl b5 0 rfl LA _ RA14.out Tryz.underlying32 rfl iA ?_) | (refine load_mid_w bH 32 _ rfl b6 0 rfl LD _ RD14.out Tryz.underlying32 rfl iD ?_) | fail)
  refine csorts.mono ?_;rintro e w15 ⟨rfl,hb15⟩;have HB15:=bR (HB14.out.trans (hb15.mono HB14.out.size));have RA15:=bR (rstep RA14.out hb15);have RD15:=bR (rstep RD14.out hb15);clear csorts hb15;go_wp2_with fail
  go_ret;exact ⟨rfl,HB15.out⟩
end
end Go.Proofs.YtmgdbpjidkdegaaGreatDoor.Path
namespace Go.Proofs.YtmgdbpjidkdegaaGreatDoor.Path
open Go.RowKit Go.Proofs.YtmgdbpjidkdegaaGreatDoorW.PrintWords Go.Proofs.YtmgdbpjidkdegaaGreatDoor.Base
theorem mApply_keeps {E:Env} {lay:Bool} {p q:PathV} {pre v:ByteArray} {x:Int×Int} (h:mApply E lay p pre x v=some q):Same p q:=by
 unfold mApply at h
 repeat' split at h
 all_goals first | (cases h;exact ⟨rfl,rfl,rfl,rfl,rfl,rfl,rfl,rfl,rfl⟩) | cases h
theorem mWord_keeps (E:Env) (p:PathV) (comp:ByteArray) (lo ld:Nat) (nd:Int) (last:Bool):Same p (mWord E p comp lo ld nd last).1:=by
 unfold mWord;simp only;split
 ·unfold mWrap;simp only;split
  ·exact ⟨rfl,rfl,rfl,rfl,rfl,rfl,rfl,rfl,rfl⟩
  ·split
   ·rename_i q hq
    exact mApply_keeps hq
   ·exact ⟨rfl,rfl,rfl,rfl,rfl,rfl,rfl,rfl,rfl⟩
 ·split
  ·exact ⟨rfl,rfl,rfl,rfl,rfl,rfl,rfl,rfl,rfl⟩
  ·unfold mPlain
   repeat' split
   all_goals exact ⟨rfl,rfl,rfl,rfl,rfl,rfl,rfl,rfl,rfl⟩
theorem mId_keeps (E:Env) (p:PathV) (comp:ByteArray) (i ld:Nat) (nd:Int) (last:Bool):Same p (mId E p comp i ld nd last):=by
 unfold mId;split
 ·exact Same.refl p
 ·obtain ⟨e,he,_⟩:=mNameEnd_eq (mWord E p comp (i+1) ld nd last) i ld last;rw[he];have h:=mWord_keeps E p comp (i+1) ld nd last;exact ⟨h.s,h.cLow,h.cHigh,h.sec,h.comp,h.typ,h.nLow,h.nHigh,h.trim⟩
structure KeptP (T:ByteArray) (t:Int) (p:PathV):Prop where
 s:p.s=T
 typ:p.typ=t
 hi:p.cHigh = -1∨∃ j:Nat,p.cHigh=(j:Int)+1∧T.data.toList[j]? = some 47
 lo:p.cLow = -1∨∃ j:Nat,p.cLow=(j:Int)+1∧T.data.toList[j]? = some 47
theorem KeptP.same {s:ByteArray} {t:Int} {p q:PathV} (h:KeptP s t p) (g:Same p q):KeptP s t q :=
 ⟨g.s.trans h.s,g.typ.trans h.typ,by rw[g.cHigh];exact h.hi,by rw[g.cLow];exact h.lo⟩
theorem KeptP.step {E:Env} {s comp:ByteArray} {t:Int} {sk:List Nat} {nd:Int} {i:Nat} {d:DoV} (h:KeptP s t d.p):KeptP s t (doStep E comp sk nd i d).p:=by
 unfold doStep;rw[h.s];split
 ·split
  ·exact h
  ·exact h.same (mId_keeps _ _ _ _ _ _ _)
 ·split
  ·rename_i hc
   have key:∀ q:PathV,KeptP s t q→KeptP s t { q with cHigh:=(i:Int)+1 }:=fun q hq=>⟨hq.s,hq.typ,.inr ⟨i,rfl,hc⟩,hq.lo⟩
   have key2:∀ q:PathV,KeptP s t q→KeptP s t { q with cLow:=(i:Int)+1 }:=fun q hq=>⟨hq.s,hq.typ,hq.hi,.inr ⟨i,rfl,hc⟩⟩
   have key3:∀ q:PathV,KeptP s t q→KeptP s t { q with sec:=(i:Int) }:=fun q hq=>⟨hq.s,hq.typ,hq.hi,hq.lo⟩
   have hq:KeptP s t (if 0 < d.ld then mId E d.p comp i d.ld nd true else d.p):=by
    split
    ·exact h.same (mId_keeps _ _ _ _ _ _ _)
    ·exact h
   have h1:KeptP s t (if d.p.cHigh = -1 then { (if 0 < d.ld then mId E d.p comp i d.ld nd true else d.p) with cHigh:=(i:Int)+1 } else if d.p.cLow = -1 then { d.p with cLow:=(i:Int)+1 } else d.p):=by
    split
    ·exact key _ hq
    ·split
     ·exact key2 _ h
     ·exact h
   simp only;split
   ·exact key3 _ h1
   ·exact h1
  ·exact h
theorem KeptP.loop {E:Env} {s comp:ByteArray} {t:Int} {sk:List Nat} {nd:Int}:∀ (i:Nat) (d:DoV),KeptP s t d.p→KeptP s t (doLoop E comp sk nd i d).p
 | 0,_,h=>h
 | i+1,d,h=>by unfold doLoop;exact KeptP.loop i _ h.step
end Go.Proofs.YtmgdbpjidkdegaaGreatDoor.Path
namespace Go.Proofs.YtmgdbpjidkdegaaGreatDoor.Path
open Go.RowKit Go.Proofs.YtmgdbpjidkdegaaGreatDoorW.PrintWords Go.Proofs.YtmgdbpjidkdegaaGreatDoor.Base Go.Proofs.YtmgdbpjidkdegaaGreatDoor.Total
structure Split (l pre n:List UInt8):Prop where
 eq:l=pre++n
 slash:∃ q,pre=q++[47]
 no:∀ j:Nat,n[j]?≠some 47
theorem Split.behind {l pre n:List UInt8} (S:Split l pre n):behind l=pre.length∧n=l.drop pre.length:=by
 obtain ⟨q,hq⟩:=S.slash;have hl:L (⟨l.toArray⟩:ByteArray)=l:=L_mk l;have e1:l[q.length]? = some 47:=by rw[S.eq,hq,List.append_assoc,List.getElem?_append_right (Nat.le_refl _),Nat.sub_self];rfl
 obtain ⟨j,_,hb,hj,hk⟩:=last_slash ⟨l.toArray⟩ ⟨q.length,by rw[hl];exact e1⟩;rw[hl] at hb hj hk
 have:j=q.length:=by
  rcases Nat.lt_trichotomy j q.length with h | h | h
  ·exact absurd e1 (hk _ h)
  ·exact h
  ·exfalso;have hp:pre.length≤j:=by rw[hq];simp;omega
   rw[S.eq,List.getElem?_append_right hp] at hj;exact S.no _ hj
 refine ⟨by rw[hb,this,hq];simp,by rw[S.eq,List.drop_left]⟩
end Go.Proofs.YtmgdbpjidkdegaaGreatDoor.Path
set_option linter.unusedVariables false
namespace Go.Proofs.YtmgdbpjidkdegaaGreatDoor.Path
open Go.RowKit Go.Proofs.YtmgdbpjidkdegaaGreatDoorW.PrintWords Go.Proofs.YtmgdbpjidkdegaaGreatDoor.Base Go.Proofs.YtmgdbpjidkdegaaGreatDoor.Total
structure Head (x:Int×Int) (p:PathV):Prop where
 at_:p.known[0]? = some x
 lay:p.lay = -1∨1≤p.lay
theorem Head.len {x:Int×Int} {p:PathV} (h:Head x p):1≤p.known.length:=(List.getElem?_eq_some_iff.1 h.at_).1
end Go.Proofs.YtmgdbpjidkdegaaGreatDoor.Path
namespace Go.Proofs.YtmgdbpjidkdegaaGreatDoor.Path
open Go.RowKit Go.Proofs.YtmgdbpjidkdegaaGreatDoorW.PrintWords Go.Proofs.YtmgdbpjidkdegaaGreatDoor.Base
theorem cell_step {w w' : World} {b j:Nat} {v:Value} (h:w.cell? ⟨b,j,none⟩=some v) (hb:Below w.heap.size w w'):w'.cell? ⟨b,j,none⟩=some v:=(hb.cell (World.block_lt_of_cell? w ⟨b,j,none⟩ h)).trans h
end Go.Proofs.YtmgdbpjidkdegaaGreatDoor.Path
namespace Go.Proofs.YtmgdbpjidkdegaaGreatDoor.Path
open Go.RowKit Go.Proofs.YtmgdbpjidkdegaaGreatDoorW.PrintWords Go.Proofs.YtmgdbpjidkdegaaGreatDoor.Base Go.Proofs.YtmgdbpjidkdegaaGreatDoor.Lower
def PathV.as (c:ByteArray) (p:PathV):PathV:={ p with comp:=c }
section
variable {E:Env} {c k:ByteArray} (h1:isLay c=isLay k) (h2:isCon c=isCon k)
include h1 h2 in
include h1 h2 in
def DoV.as (c:ByteArray) (d:DoV):DoV:={ d with p:=d.p.as c }
include h1 h2 in
include h1 h2 in
include h1 in
include h1 h2 in
end
end Go.Proofs.YtmgdbpjidkdegaaGreatDoor.Path
set_option linter.unusedSimpArgs false
set_option linter.unusedVariables false
namespace Go.Proofs.YtmgdbpjidkdegaaGreatDoor.Path
open Go.RowKit Go.WideMaps Go.Proofs.YtmgdbpjidkdegaaGreatDoorW.PrintWords Go.Proofs.YtmgdbpjidkdegaaGreatDoor.Base Go.Proofs.YtmgdbpjidkdegaaGreatDoor.Lower Go.Proofs.YtmgdbpjidkdegaaGreatDoor.Total Go.Proofs.YtmgdbpjidkdegaaGreatDoor.PCore
section
variable {w:World} {st:SiteV} {vl vd vf vc:Value}
theorem alike_told {p:PathV} (I:PathIn p) (hne:((nrm p.trim p.s).toList==[])=false) {v1 v2 v3 u1 u2 u3:Value} (T1:Told w 0 p v1 v2 v3) (T2:Told w 0 p u1 u2 u3) :
 Calls Tryz.prog 32 #[toldVal (mTold p) v1 v2 v3,toldVal (mTold p) u1 u2 u3] w fun e w'=>e = .returned (.bool true)∧Below w.heap.size w w':=by
 obtain ⟨S1,S2,S3⟩:=T1;obtain ⟨U1,U2,U3⟩:=T2;have l1:(mLangs p).length≤1000000:=by unfold mLangs;rw[List.length_map];exact I.ll
 have l2:(mIds p).length≤1000000:=by unfold mIds;rw[List.length_map];exact I.kl
 have l3:(mUnk p).length≤1000000:=by unfold mUnk;rw[List.length_map];exact I.ul
 obtain ⟨a1,c1,rfl,_⟩:=id S1;obtain ⟨a2,c2,rfl,_⟩:=id S2;obtain ⟨a3,c3,rfl,_⟩:=id S3;obtain ⟨b1,d1,rfl,_⟩:=id U1;obtain ⟨b2,d2,rfl,_⟩:=id U2;obtain ⟨b3,d3,rfl,_⟩:=id U3
 exact alike_calls (f0:=(mTold p).component) (f1:=(mTold p).container) (f2:=(mTold p).containerDir) (f3:=(mTold p).section_) (f4:=(mTold p).name) (f5:=(mTold p).nameNoExt) (f6:=(mTold p).baseName) (f7:=(mTold p).nameNoId) (f8:=(mTold p).dir) (f9:=(mTold p).path) (f10:=(mTold p).pathNoLang) (f11:=(mTold p).pathNoId) (f12:=(mTold p).pathBefore) (f13:=(mTold p).base) (f14:=(mTold p).idBase) (f15:=(mTold p).ext) (f16:=(mTold p).fmt) (f17:=(mTold p).kind) (f18:=(mTold p).layout) (f19:=(mTold p).lang) (f20:=(mTold p).custom) (f24:=(mTold p).disabled) (f25:=(mTold p).isContent) (f26:=(mTold p).isBundle) (f27:=(mTold p).isBranch) (f28:=(mTold p).isLeaf) (f29:=(mTold p).isData) (f30:=(mTold p).typ) hne l1 l2 l3 S1 S2 S3 U1 U2 U3
end
end Go.Proofs.YtmgdbpjidkdegaaGreatDoor.Path
set_option linter.unusedSimpArgs false
set_option linter.unusedVariables false
namespace Go.Proofs.YtmgdbpjidkdegaaGreatDoor.Path
open Go.RowKit Go.WideMaps Go.Proofs.YtmgdbpjidkdegaaGreatDoorW.PrintWords Go.Proofs.YtmgdbpjidkdegaaGreatDoor.Base Go.Proofs.YtmgdbpjidkdegaaGreatDoor.Lower
section
variable {P:Program} {md:Region.Mode} {ops:Array Oper} {Q:Exit→Act→World→Prop} {S:World→Prop} {fuel:Nat} {listed:Array Bool} {a:Act} {w:World}
theorem comeC {i:Nat} {o:Oper} {d:Option Tmp} {R:Value→World→Prop} {rs:List Nat} (ho:ops[i]? = some o) (hd:o.dst=d) (hw:Region.wanted o (yielded ops a.tmps)=true)
 (step:∀ K:Act→World→Prop,(∀ v w',R v w'→K (a.put o.dst v) w')→Oper.wp P o a w K Q) (hS:∀ v w',R v w'→S w')
 (h:∀ v w',R v w'→wpAnyH P md ops Q S fuel (listed.setIfInBounds i true) (a.put d v) w')
 (more:AllReadyH P md ops Q S fuel listed a w rs):AllReadyH P md ops Q S fuel listed a w (i::rs):=by
 subst hd;refine AllReadyH.cons ho (fun K hK=>?_) more;rw[if_pos hw];exact step K (fun v w' hr=>hK.out _ _ (hS v w' hr) (fun _=>h v w' hr))
theorem call_step {o:Oper} {K:Act→World→Prop} {f:FuncId} {args:Array Value} {R:Value→World→Prop} (hx:(execOp a.eval o).run P w = .ok (.enter f args) w)
 (hc:Calls P f args w fun e w'=>∃ v,e = .returned v∧R v w') (hK:∀ v w',R v w'→K (a.put o.dst v) w'):Oper.wp P o a w K Q:=by
 unfold Oper.wp;rw[hx];show Calls P f args w _;refine hc.mono ?_;rintro e w' ⟨v,rfl,hr⟩;exact hK v w' hr
end
end Go.Proofs.YtmgdbpjidkdegaaGreatDoor.Path
set_option linter.unusedSimpArgs false
set_option linter.unusedVariables false
namespace Go.Proofs.YtmgdbpjidkdegaaGreatDoor.Path
open Go.RowKit Go.WideMaps Go.Proofs.YtmgdbpjidkdegaaGreatDoorW.PrintWords Go.Proofs.YtmgdbpjidkdegaaGreatDoor.Base Go.Proofs.YtmgdbpjidkdegaaGreatDoor.Lower
theorem PathOk.typed {p:PathV} (h:PathOk p) (t:Int):PathOk { p with typ:=t }:=⟨⟨h.sz,h.kn,h.un,h.kl,h.ul,h.ll⟩,h.ch,h.cl,h.se,h.k0,h.na⟩
def resTyp (t:Int):Int:=if 1≤t∧t≤5 then 1 else 0
section
variable {w:World} {B b ub:Nat} {p:PathV} {vk vu vl u:Value}
theorem PathAt.copied (H:PathAt w B b p vk vu vl u) (t:Int) (ty:TypeId):PathAt ((w.alloc (.cells (cells p vk vu vl u).toArray ty)).setCell ⟨w.heap.size,5,none⟩ (.int .i64 t)) B w.heap.size { p with typ:=t } vk vu vl u:=by
 have hlt:=H.lt;obtain ⟨_,n1,n2,n3⟩:=H.new_ne (Nat.le_refl _);have hA:=H.alloc (.cells (cells p vk vu vl u).toArray ty);have hR:=(Row.new w (cells p vk vu vl u) ty).set 5 (.int .i64 t) bF;refine ⟨by have:=H.base;omega,hR,?_,?_,?_,n1,n2,n3,H.ku⟩
 ·exact ownsRow_setCell_other hA.ok (a:=⟨w.heap.size,5,none⟩) (fun e=>n1 e.symm) _
 ·exact ownsRow_setCell_other hA.ou (a:=⟨w.heap.size,5,none⟩) (fun e=>n2 e.symm) _
 ·exact ownsRow_setCell_other hA.ol (a:=⟨w.heap.size,5,none⟩) (fun e=>n3 e.symm) _
set_option maxRecDepth 100000 in
set_option maxHeartbeats 1600000 in
theorem forType_calls (H:PathAt w B b p vk vu vl u) (t:Int):Calls Tryz.prog 61 #[.agg (cells p vk vu vl u).toArray,.int .i64 t] w fun e w'=>∃ nb,e = .returned (.pointer (some ⟨nb,0,none⟩))∧PathAt w' B nb { p with typ:=t } vk vu vl u∧Below w.heap.size w w':=by
 have hc:=H.copied t 92;have hb:Below w.heap.size w ((w.alloc (.cells (cells p vk vu vl u).toArray 92)).setCell ⟨w.heap.size,5,none⟩ (.int .i64 t)):=((Below.refl _ _).alloc (Nat.le_refl _) _).setCell (p:=⟨w.heap.size,5,none⟩) (Nat.le_refl _) _
 have hr:=(Row.new w (cells p vk vu vl u) 92)
 have q5:=hr.at 5 _ rfl;have f5:=hr.free 5 bF;have HC:=bR hc;have HB:=bR hb
 obtain ⟨C,hC⟩:∃ C,(cells p vk vu vl u).toArray=C:=⟨_,rfl⟩
 rw[hC] at HC HB q5 f5 ⊢;clear hc hb hr hC H;go_enter Tryz.func61,Tryz.ntmps61;go_wp2_with fail
 go_ret;rw[World.setCell_alloc_new] at HC HB;exact ⟨_,rfl,HC.out,HB.out⟩
theorem modify_calls (H:PathAt w B b p vk vu vl u):Calls Tryz.prog 65 #[.pointer (some ⟨b,0,none⟩)] w fun e w'=>e = .returned (.tuple #[])∧PathAt w' B b { p with typ:=resTyp p.typ } vk vu vl u∧Below B w w':=by
 have ci:=IsContent_calls H;have q5:=H.row.at 5 _ rfl;have f5:=H.row.free 5 bF;have HH:=bR H;clear H
 by_cases c:1≤p.typ∧p.typ≤5
 ·have hv:decide (1≤p.typ∧p.typ≤5)=true:=decide_eq_true c;rw[hv] at ci;have ht:resTyp p.typ=1:=if_pos c;rw[ht];clear hv ht c;go_enter Tryz.func65,Tryz.ntmps65;go_wp2_with fail
  (with_reducible refine ci.mono ?_)
  rintro e w' ⟨rfl,rfl⟩;go_wp2_with fail
  refine bodyPost_end (v:=.tuple #[]) (by simp[results,Tryz.results65]) rfl ?_;exact ⟨rfl,HH.out.put 5 (.int .i64 1) { p with typ:=1 } u rfl rfl rfl rfl bA,(Below.refl _ _).setCell (p:=⟨b,5,none⟩) HH.out.base _⟩
 ·have hv:decide (1≤p.typ∧p.typ≤5)=false:=decide_eq_false c;rw[hv] at ci;have ht:resTyp p.typ=0:=if_neg c;rw[ht];clear hv ht c;go_enter Tryz.func65,Tryz.ntmps65;go_wp2_with fail
  (with_reducible refine ci.mono ?_)
  rintro e w' ⟨rfl,rfl⟩;go_wp2_with fail
  refine bodyPost_end (v:=.tuple #[]) (by simp[results,Tryz.results65]) rfl ?_;exact ⟨rfl,HH.out.put 5 (.int .i64 0) { p with typ:=0 } u rfl rfl rfl rfl bA,(Below.refl _ _).setCell (p:=⟨b,5,none⟩) HH.out.base _⟩
end
section
variable {w:World} {st:SiteV} {vl vd vf vc:Value}
set_option maxRecDepth 100000 in
set_option maxHeartbeats 4000000 in
theorem implForType_calls (S:SiteIn w st vl vd vf vc) (OS:SiteOk st) (comp s:ByteArray) (t:Int) (hs:s.size≤900000) (ha:asc s) :
 Calls Tryz.prog 35 #[.agg #[vl,vd,vf,vc],.string comp,.string s,.int .i64 t] w fun e w' =>
  ∃ v1 v2 v3,e = .returned (toldVal (mTold { mPath (envOf st) comp (norm s) with typ:=t }) v1 v2 v3)∧Told w' w.heap.size { mPath (envOf st) comp (norm s) with typ:=t } v1 v2 v3∧Below w.heap.size w w':=by
 have HSI:=bR S;have hok0:=mPath_ok (envOf st) comp (norm s) (by rw[norm_size];exact hs)
 have hok:PathOk { mPath (envOf st) comp (norm s) with typ:=t }∧-1≤(mPath (envOf st) comp (norm s)).fmt∧-1≤(mPath (envOf st) comp (norm s)).lang:=⟨hok0.1.typed _,hok0.2⟩
 clear hok0;have HOK:=bR hok;have HA:=bR ha;obtain ⟨Al,cl,rfl,_,_⟩:=S.l;obtain ⟨Ad,cd,rfl,_,_⟩:=S.d;obtain ⟨Af,cf,rfl,_,_⟩:=S.f;obtain ⟨Ac,cc,rfl,_,_⟩:=S.c;clear S hok ha;have hB1:Below w.heap.size w (w.alloc (.cells #[.slice Al st.langs.length cl,.slice Ad st.dis.length cd,.slice Af st.fmts.length cf,.slice Ac st.cont.length cc] 25)):=(Below.refl _ _).alloc (Nat.le_refl _) _;have hR1:=Row.new w [.slice Al st.langs.length cl,.slice Ad st.dis.length cd,.slice Af st.fmts.length cf,.slice Ac st.cont.length cc] 25;have hs1:w.heap.size < (w.alloc (.cells #[.slice Al st.langs.length cl,.slice Ad st.dis.length cd,.slice Af st.fmts.length cf,.slice Ac st.cont.length cc] 25)).heap.size:=by simp
 go_enter Tryz.func35,Tryz.ntmps35;go_upto_region 1 with fail
 obtain ⟨w1,hw1⟩:∃ w1,w.alloc (.cells #[.slice Al st.langs.length cl,.slice Ad st.dis.length cd,.slice Af st.fmts.length cf,.slice Ac st.cont.length cc] 25)=w1:=⟨_,rfl⟩
 have hz1:w1.heap.size=w.heap.size+1:=by rw[← hw1];simp
 rw[hw1] at hB1 hR1 hs1 ⊢;clear hw1;have hB2:Below w1.heap.size w1 (w1.alloc (.cells toldZero.toArray 32)):=(Below.refl _ _).alloc (Nat.le_refl _) _;have hR2:Row (w1.alloc (.cells toldZero.toArray 32)) w1.heap.size toldZero:=Row.new w1 toldZero _;rw[show toldZero.toArray=TZ from rfl] at hB2 hR2
 obtain ⟨w2,hw2⟩:∃ w2,w1.alloc (.cells TZ 32)=w2:=⟨_,rfl⟩
 rw[hw2] at hB2 hR2;change Code.wp _ _ _ _ (w1.alloc (.cells TZ 32));rw[hw2];clear hw2;rw[hz1] at hR2;have hB:Below w.heap.size w w2:=hB1.trans (hB2.mono bA);have hRs:=hR1.below hB2 hs1;have r0:=hRs.at 0 _ rfl;have r1:=hRs.at 1 _ rfl;have r2:=hRs.at 2 _ rfl;have r3:=hRs.at 3 _ rfl;have HB:=bR hB;have HR2:=bR hR2;have hlt2:w.heap.size+1 < w2.heap.size:=hR2.lt bG;have cp:=parser_calls (HSI.out.l.below hB) (HSI.out.d.below hB) (HSI.out.f.below hB) (HSI.out.c.below hB) OS;clear hB1 hR1 hs1 hB2 hR2 hB hRs hz1;go_wp2_with fail
 refine cp.mono ?_;rintro e w3 ⟨pb,mb,sb,fb,rfl,hS,hb3⟩;have cP:=Parse_calls hS OS comp s hs HA.out;have HB3:=bR hb3;clear cp hS hb3 r0 r1 r2 r3;go_wp2_with fail
 refine cP.mono ?_;rintro e w4 ⟨b,ub,vk,vu,vl,rfl,hp,hb4⟩;have HP:=bR hp.1;have HB4:=bR (below_step HB3.out hb4);have hx:Row w4 b (cells (mPath (envOf st) comp (norm s)) vk vu vl (.pointer (some ⟨ub,0,none⟩))):=hp.1.row
 obtain ⟨PC,hPC⟩:∃ C,cells (mPath (envOf st) comp (norm s)) vk vu vl (.pointer (some ⟨ub,0,none⟩))=C:=⟨_,rfl⟩
 have hlen:PC.length=26:=by rw[← hPC];rfl
 rw[hPC] at hx;have cu:=forType_calls hp.1 t;rw[hPC] at cu;have hpr:w4.rangeAt b 0 PC:=fun j v hv=>by rw[Nat.zero_add];exact hx.at j v hv
 clear cP hp hb4 hPC hx
 go_wp2_with (first | (refine wpList_load_mid rfl 92 _ rfl b 0 rfl PC _ hpr Tryz.underlying92 rfl (by rw[hlen];kernel_rfl) ?_) | fail)
 refine cu.mono ?_;rintro e w9 ⟨nb,rfl,hp9,hb9⟩;have ct:=told_calls hp9 HOK.out.1 HOK.out.2.1 HOK.out.2.2;replace HB4:=bR (below_step HB4.out hb9);clear cu hb9 hpr hlen hp9;go_wp2_with fail
 refine ct.mono ?_;rintro e w5 ⟨v1,v2,v3,rfl,hs1,hs2,hs3,hb5⟩;have HB5:=bR (below_step HB4.out hb5);have hz5:=HB4.out.size;have S1:=bR hs1;have S2:=bR hs2;have S3:=bR hs3;obtain ⟨A1,c1,e1,_⟩:=S1.out;obtain ⟨A2,c2,e2,_⟩:=S2.out;obtain ⟨A3,c3,e3,_⟩:=S3.out;clear ct hb5 hs1 hs2 hs3
 obtain ⟨C,hC⟩:∃ C:Array Value,toldC (mTold { mPath (envOf st) comp (norm s) with typ:=t }) v1 v2 v3=C:=⟨_,rfl⟩
 have hval:toldVal (mTold { mPath (envOf st) comp (norm s) with typ:=t }) v1 v2 v3 = .agg C:=by rw[← hC];rfl
 have hCs:C.size=31:=by rw[← hC];rfl
 have hl:C.toList.length=31:=by simpa using hCs
 have hone:C.all (·.oneCell')=true:=by rw[← hC,e1,e2,e3];exact toldC_one _ _ _ _ _ _ _ _ _ _
 have HV:=bR hval;rw[hval];clear hval e1 e2 e3;have HC:=bR hC;have hRf:=HR2.out.below HB5.out hlt2;have ht:World.there _ (w.heap.size+1) 0 31:=hRf.there
 dsimp only
 refine (show ∀ (a:Act) (w:World),wpList _ _ _ _ a w→_ from by assumption) _ _ ?_;refine wpList_store_mid rfl 32 _ _ rfl (w.heap.size+1) 0 C rfl rfl (by rw[hCs];exact ht) (by rw[hCs];kernel_rfl) hone ?_;have hr:=World.rangeAt_setCells_same _ (w.heap.size+1) 0 C.toList (by rw[hl];exact ht);have hld:=run_loadVar_mid (P:=Tryz.prog) _ (w.heap.size+1) 0 32 C.toList _ hr Tryz.underlying32 rfl (by rw[hl];kernel_rfl);have hfar:∀ k,k≠w.heap.size+1→(w5.setCells (w.heap.size+1) 0 C.toList).heap[k]? = w5.heap[k]?:=fun k hk=>setCells_far _ _ k hk;have hbel:Below w.heap.size w (w5.setCells (w.heap.size+1) 0 C.toList):=below_setCells (Nat.le_succ _) _ _ _ (HB.out.trans (HB5.out.mono HB.out.size))
 obtain ⟨W,hW⟩:∃ W,w5.setCells (w.heap.size+1) 0 C.toList=W:=⟨_,rfl⟩
 rw[hW] at hld hbel hfar ⊢;have s1:=bR (S1.out.far fun k hk _=>hfar k bA);have s2:=bR (S2.out.far fun k hk _=>hfar k bA);have s3:=bR (S3.out.far fun k hk _=>hfar k bA);have HBel:=bR hbel;have hz4:w.heap.size≤w9.heap.size:=by omega
 clear hbel hfar hW hr hone hl hCs ht hRf S1 S2 S3;go_wp2_with fail
 refine bodyPost_ret (v:=.agg C) (results_cell Tryz.results35 rfl (by simpa using hld)) rfl ⟨v1,v2,v3,?_,⟨s1.out.mono hz4,s2.out.mono hz4,s3.out.mono hz4⟩,HBel.out⟩;rw[HV.out]
set_option maxRecDepth 100000 in
set_option maxHeartbeats 4000000 in
theorem implResource_calls (S:SiteIn w st vl vd vf vc) (OS:SiteOk st) (comp s:ByteArray) (hs:s.size≤900000) (ha:asc s) :
 Calls Tryz.prog 41 #[.agg #[vl,vd,vf,vc],.string comp,.string s] w fun e w' =>
  ∃ v1 v2 v3,e = .returned (toldVal (mTold { mPath (envOf st) comp (norm s) with typ:=resTyp (mPath (envOf st) comp (norm s)).typ }) v1 v2 v3)∧Told w' w.heap.size { mPath (envOf st) comp (norm s) with typ:=resTyp (mPath (envOf st) comp (norm s)).typ } v1 v2 v3∧Below w.heap.size w w':=by
 have HSI:=bR S;have hok0:=mPath_ok (envOf st) comp (norm s) (by rw[norm_size];exact hs)
 have hok:PathOk { mPath (envOf st) comp (norm s) with typ:=resTyp (mPath (envOf st) comp (norm s)).typ }∧-1≤(mPath (envOf st) comp (norm s)).fmt∧-1≤(mPath (envOf st) comp (norm s)).lang:=⟨hok0.1.typed _,hok0.2⟩
 clear hok0;have HOK:=bR hok;have HA:=bR ha;obtain ⟨Al,cl,rfl,_,_⟩:=S.l;obtain ⟨Ad,cd,rfl,_,_⟩:=S.d;obtain ⟨Af,cf,rfl,_,_⟩:=S.f;obtain ⟨Ac,cc,rfl,_,_⟩:=S.c;clear S hok ha;have hB1:Below w.heap.size w (w.alloc (.cells #[.slice Al st.langs.length cl,.slice Ad st.dis.length cd,.slice Af st.fmts.length cf,.slice Ac st.cont.length cc] 25)):=(Below.refl _ _).alloc (Nat.le_refl _) _;have hR1:=Row.new w [.slice Al st.langs.length cl,.slice Ad st.dis.length cd,.slice Af st.fmts.length cf,.slice Ac st.cont.length cc] 25;have hs1:w.heap.size < (w.alloc (.cells #[.slice Al st.langs.length cl,.slice Ad st.dis.length cd,.slice Af st.fmts.length cf,.slice Ac st.cont.length cc] 25)).heap.size:=by simp
 go_enter Tryz.func41,Tryz.ntmps41;go_upto_region 1 with fail
 obtain ⟨w1,hw1⟩:∃ w1,w.alloc (.cells #[.slice Al st.langs.length cl,.slice Ad st.dis.length cd,.slice Af st.fmts.length cf,.slice Ac st.cont.length cc] 25)=w1:=⟨_,rfl⟩
 have hz1:w1.heap.size=w.heap.size+1:=by rw[← hw1];simp
 rw[hw1] at hB1 hR1 hs1 ⊢;clear hw1;have hB2:Below w1.heap.size w1 (w1.alloc (.cells toldZero.toArray 32)):=(Below.refl _ _).alloc (Nat.le_refl _) _;have hR2:Row (w1.alloc (.cells toldZero.toArray 32)) w1.heap.size toldZero:=Row.new w1 toldZero _;rw[show toldZero.toArray=TZ from rfl] at hB2 hR2
 obtain ⟨w2,hw2⟩:∃ w2,w1.alloc (.cells TZ 32)=w2:=⟨_,rfl⟩
 rw[hw2] at hB2 hR2;change Code.wp _ _ _ _ (w1.alloc (.cells TZ 32));rw[hw2];clear hw2;rw[hz1] at hR2;have hB:Below w.heap.size w w2:=hB1.trans (hB2.mono bA);have hRs:=hR1.below hB2 hs1;have r0:=hRs.at 0 _ rfl;have r1:=hRs.at 1 _ rfl;have r2:=hRs.at 2 _ rfl;have r3:=hRs.at 3 _ rfl;have HB:=bR hB;have HR2:=bR hR2;have hlt2:w.heap.size+1 < w2.heap.size:=hR2.lt bG;have cp:=parser_calls (HSI.out.l.below hB) (HSI.out.d.below hB) (HSI.out.f.below hB) (HSI.out.c.below hB) OS;clear hB1 hR1 hs1 hB2 hR2 hB hRs hz1;go_wp2_with fail
 refine cp.mono ?_;rintro e w3 ⟨pb,mb,sb,fb,rfl,hS,hb3⟩;have cP:=Parse_calls hS OS comp s hs HA.out;have HB3:=bR hb3;clear cp hS hb3 r0 r1 r2 r3;go_wp2_with fail
 refine cP.mono ?_;rintro e w4 ⟨b,ub,vk,vu,vl,rfl,hp,hb4⟩;have cu:=modify_calls hp.1;have HB4:=bR (below_step HB3.out hb4);clear cP hp hb4;go_wp2_with fail
 refine cu.mono ?_;rintro e w9 ⟨rfl,hp9,hb9⟩;have ct:=told_calls hp9 HOK.out.1 HOK.out.2.1 HOK.out.2.2;replace HB4:=bR (HB4.out.trans (hb9.mono HB3.out.size));clear cu hb9 hp9;go_wp2_with fail
 refine ct.mono ?_;rintro e w5 ⟨v1,v2,v3,rfl,hs1,hs2,hs3,hb5⟩;have HB5:=bR (below_step HB4.out hb5);have hz5:=HB4.out.size;have S1:=bR hs1;have S2:=bR hs2;have S3:=bR hs3;obtain ⟨A1,c1,e1,_⟩:=S1.out;obtain ⟨A2,c2,e2,_⟩:=S2.out;obtain ⟨A3,c3,e3,_⟩:=S3.out;clear ct hb5 hs1 hs2 hs3
 obtain ⟨C,hC⟩:∃ C:Array Value,toldC (mTold { mPath (envOf st) comp (norm s) with typ:=resTyp (mPath (envOf st) comp (norm s)).typ }) v1 v2 v3=C:=⟨_,rfl⟩
 have hval:toldVal (mTold { mPath (envOf st) comp (norm s) with typ:=resTyp (mPath (envOf st) comp (norm s)).typ }) v1 v2 v3 = .agg C:=by rw[← hC];rfl
 have hCs:C.size=31:=by rw[← hC];rfl
 have hl:C.toList.length=31:=by simpa using hCs
 have hone:C.all (·.oneCell')=true:=by rw[← hC,e1,e2,e3];exact toldC_one _ _ _ _ _ _ _ _ _ _
 have HV:=bR hval;rw[hval];clear hval e1 e2 e3;have HC:=bR hC;have hRf:=HR2.out.below HB5.out hlt2;have ht:World.there _ (w.heap.size+1) 0 31:=hRf.there
 dsimp only
 refine (show ∀ (a:Act) (w:World),wpList _ _ _ _ a w→_ from by assumption) _ _ ?_;refine wpList_store_mid rfl 32 _ _ rfl (w.heap.size+1) 0 C rfl rfl (by rw[hCs];exact ht) (by rw[hCs];kernel_rfl) hone ?_;have hr:=World.rangeAt_setCells_same _ (w.heap.size+1) 0 C.toList (by rw[hl];exact ht);have hld:=run_loadVar_mid (P:=Tryz.prog) _ (w.heap.size+1) 0 32 C.toList _ hr Tryz.underlying32 rfl (by rw[hl];kernel_rfl);have hfar:∀ k,k≠w.heap.size+1→(w5.setCells (w.heap.size+1) 0 C.toList).heap[k]? = w5.heap[k]?:=fun k hk=>setCells_far _ _ k hk;have hbel:Below w.heap.size w (w5.setCells (w.heap.size+1) 0 C.toList):=below_setCells (Nat.le_succ _) _ _ _ (HB.out.trans (HB5.out.mono HB.out.size))
 obtain ⟨W,hW⟩:∃ W,w5.setCells (w.heap.size+1) 0 C.toList=W:=⟨_,rfl⟩
 rw[hW] at hld hbel hfar ⊢;have s1:=bR (S1.out.far fun k hk _=>hfar k bA);have s2:=bR (S2.out.far fun k hk _=>hfar k bA);have s3:=bR (S3.out.far fun k hk _=>hfar k bA);have HBel:=bR hbel;have hz4:w.heap.size≤w9.heap.size:=by omega
 clear hbel hfar hW hr hone hl hCs ht hRf S1 S2 S3;go_wp2_with fail
 refine bodyPost_ret (v:=.agg C) (results_cell Tryz.results41 rfl (by simpa using hld)) rfl ⟨v1,v2,v3,?_,⟨s1.out.mono hz4,s2.out.mono hz4,s3.out.mono hz4⟩,HBel.out⟩;rw[HV.out]
end
end Go.Proofs.YtmgdbpjidkdegaaGreatDoor.Path
