/- Texts that the law leans on: Alike, Keep, Cuts, First, Slashes, Same, Small, Again, Take2, Begins. Condition: as told at each. -/
import Derived.Test.YtjlaamcklhdhaaaGreatDoorV21
set_option linter.unusedSimpArgs false
set_option linter.unusedVariables false
namespace Go.Proofs.YtjlaamcklhdhaaaGreatDoor.Path
open Go.RowKit Go.WideMaps Go.Proofs.YtjlaamcklhdhaaaGreatDoorW.PrintWords Go.Proofs.YtjlaamcklhdhaaaGreatDoor.Base Go.Proofs.YtjlaamcklhdhaaaGreatDoor.Lower
section
variable {w:World} {f0 f1 f2 f3 f4 f5 f6 f7 f8 f9 f10 f11 f12 f13 f14 f15 f16 f17 f18 f19 f20:ByteArray} {f24 f25 f26 f27 f28 f29:Bool} {f30:Int} {A1 A2 A3 D1 D2 D3:Option Addr} {n1 n2 n3 Ac1 Ac2 Ac3 Dc1 Dc2 Dc3:Nat}
theorem load_mid_w {P:Program} {ops:Array Oper} {rest:List Oper} {op:Oper} {a:Act} {w:World} {Q:Exit→Act→World→Prop} (hw:Region.wanted op (yielded ops a.tmps)=true) (ty:TypeId) (x:Operand) (ho:op.op = .load ty x)
 (b o:Nat) (hx:a.eval x = .pointer (some ⟨b,o,none⟩)) (cs:List Value) (d:TypeDesc) (hc:w.rangeAt b o cs)
 (hu:P.underlying ty=some d) (hd:d.isRow=true) (hi:(P.info? ty).map (·.size)=some cs.length)
 (h:wpList P ops Q rest (a.put op.dst (.agg cs.toArray)) w):wpList P ops Q (op::rest) a w:=by
 unfold wpList;rw[if_pos hw];exact .inl (wp_load_mid ty x ho b o hx cs d hc hu hd hi h)
theorem cstep {w w' : World} {b j:Nat} {v:Value} (h:w.cell? ⟨b,j,none⟩=some v) (hb:Below w.heap.size w w'):w'.cell? ⟨b,j,none⟩=some v:=(hb.cell (World.block_lt_of_cell? w ⟨b,j,none⟩ h)).trans h
theorem rstep {w w' : World} {b:Nat} {cs:List Value} (h:w.rangeAt b 0 cs) (hb:Below w.heap.size w w'):w'.rangeAt b 0 cs:=fun j v hv=>cstep (h j v hv) hb
set_option maxRecDepth 100000 in
set_option maxHeartbeats 4000000 in
theorem alike_calls (hne:(f9.toList==[])=false) {l1 l2 l3:List ByteArray} (hl1:l1.length≤1000000) (hl2:l2.length≤1000000) (hl3:l3.length≤1000000)
 (S1:StrRow w 0 (.slice A1 n1 Ac1) l1) (S2:StrRow w 0 (.slice A2 n2 Ac2) l2) (S3:StrRow w 0 (.slice A3 n3 Ac3) l3) (U1:StrRow w 0 (.slice D1 n1 Dc1) l1) (U2:StrRow w 0 (.slice D2 n2 Dc2) l2) (U3:StrRow w 0 (.slice D3 n3 Dc3) l3) :
 Calls Tryz.prog 23 #[.agg #[.string f0,.string f1,.string f2,.string f3,.string f4,.string f5,.string f6,.string f7,.string f8,.string f9,.string f10,.string f11,.string f12,.string f13,.string f14,.string f15,.string f16,.string f17,.string f18,.string f19,.string f20,.slice A1 n1 Ac1,.slice A2 n2 Ac2,.slice A3 n3 Ac3,.bool f24,.bool f25,.bool f26,.bool f27,.bool f28,.bool f29,.int .i64 f30],.agg #[.string f0,.string f1,.string f2,.string f3,.string f4,.string f5,.string f6,.string f7,.string f8,.string f9,.string f10,.string f11,.string f12,.string f13,.string f14,.string f15,.string f16,.string f17,.string f18,.string f19,.string f20,.slice D1 n1 Dc1,.slice D2 n2 Dc2,.slice D3 n3 Dc3,.bool f24,.bool f25,.bool f26,.bool f27,.bool f28,.bool f29,.int .i64 f30]] w fun e w'=>e = .returned (.bool true)∧Below w.heap.size w w':=by
 have hR1:=Row.new w [.string f0,.string f1,.string f2,.string f3,.string f4,.string f5,.string f6,.string f7,.string f8,.string f9,.string f10,.string f11,.string f12,.string f13,.string f14,.string f15,.string f16,.string f17,.string f18,.string f19,.string f20,.slice A1 n1 Ac1,.slice A2 n2 Ac2,.slice A3 n3 Ac3,.bool f24,.bool f25,.bool f26,.bool f27,.bool f28,.bool f29,.int .i64 f30] 28
 obtain ⟨w1,hw1⟩:∃ w1,w.alloc (.cells #[.string f0,.string f1,.string f2,.string f3,.string f4,.string f5,.string f6,.string f7,.string f8,.string f9,.string f10,.string f11,.string f12,.string f13,.string f14,.string f15,.string f16,.string f17,.string f18,.string f19,.string f20,.slice A1 n1 Ac1,.slice A2 n2 Ac2,.slice A3 n3 Ac3,.bool f24,.bool f25,.bool f26,.bool f27,.bool f28,.bool f29,.int .i64 f30] 28)=w1:=⟨_,rfl⟩
 have hR2:=Row.new w1 [.string f0,.string f1,.string f2,.string f3,.string f4,.string f5,.string f6,.string f7,.string f8,.string f9,.string f10,.string f11,.string f12,.string f13,.string f14,.string f15,.string f16,.string f17,.string f18,.string f19,.string f20,.slice D1 n1 Dc1,.slice D2 n2 Dc2,.slice D3 n3 Dc3,.bool f24,.bool f25,.bool f26,.bool f27,.bool f28,.bool f29,.int .i64 f30] 28
 obtain ⟨w2,hw2⟩:∃ w2,w1.alloc (.cells #[.string f0,.string f1,.string f2,.string f3,.string f4,.string f5,.string f6,.string f7,.string f8,.string f9,.string f10,.string f11,.string f12,.string f13,.string f14,.string f15,.string f16,.string f17,.string f18,.string f19,.string f20,.slice D1 n1 Dc1,.slice D2 n2 Dc2,.slice D3 n3 Dc3,.bool f24,.bool f25,.bool f26,.bool f27,.bool f28,.bool f29,.int .i64 f30] 28)=w2:=⟨_,rfl⟩
 have hb1:Below w.heap.size w w1:=by rw[← hw1];exact (Below.refl _ _).alloc (Nat.le_refl _) _
 have hb2:Below w1.heap.size w1 w2:=by rw[← hw2];exact (Below.refl _ _).alloc (Nat.le_refl _) _
 have hz1:w1.heap.size=w.heap.size+1:=by rw[← hw1];simp
 have hz2:w2.heap.size=w.heap.size+2:=by rw[← hw2];simp[hz1]
 change Row (w.alloc (.cells #[.string f0,.string f1,.string f2,.string f3,.string f4,.string f5,.string f6,.string f7,.string f8,.string f9,.string f10,.string f11,.string f12,.string f13,.string f14,.string f15,.string f16,.string f17,.string f18,.string f19,.string f20,.slice A1 n1 Ac1,.slice A2 n2 Ac2,.slice A3 n3 Ac3,.bool f24,.bool f25,.bool f26,.bool f27,.bool f28,.bool f29,.int .i64 f30] 28)) _ _ at hR1;change Row (w1.alloc (.cells #[.string f0,.string f1,.string f2,.string f3,.string f4,.string f5,.string f6,.string f7,.string f8,.string f9,.string f10,.string f11,.string f12,.string f13,.string f14,.string f15,.string f16,.string f17,.string f18,.string f19,.string f20,.slice D1 n1 Dc1,.slice D2 n2 Dc2,.slice D3 n3 Dc3,.bool f24,.bool f25,.bool f26,.bool f27,.bool f28,.bool f29,.int .i64 f30] 28)) _ _ at hR2
 rw[hw1] at hR1;rw[hw2,hz1] at hR2;have hRa:=hR1.below hb2 (by omega);have HB:=Aside0.mk (hb1.trans (hb2.mono (by omega)));have HRa:=Aside0.mk hRa;have HRb:=Aside0.mk hR2;have HN:=Aside0.mk hne;have HW1:=Aside0.mk hw1;have HW2:=Aside0.mk hw2
 obtain ⟨LA,hLA⟩:∃ l:List Value,[.string f0,.string f1,.string f2,.string f3,.string f4,.string f5,.string f6,.string f7,.string f8,.string f9,.string f10,.string f11,.string f12,.string f13,.string f14,.string f15,.string f16,.string f17,.string f18,.string f19,.string f20,.slice A1 n1 Ac1,.slice A2 n2 Ac2,.slice A3 n3 Ac3,.bool f24,.bool f25,.bool f26,.bool f27,.bool f28,.bool f29,.int .i64 f30]=l:=⟨_,rfl⟩
 obtain ⟨LD,hLD⟩:∃ l:List Value,[.string f0,.string f1,.string f2,.string f3,.string f4,.string f5,.string f6,.string f7,.string f8,.string f9,.string f10,.string f11,.string f12,.string f13,.string f14,.string f15,.string f16,.string f17,.string f18,.string f19,.string f20,.slice D1 n1 Dc1,.slice D2 n2 Dc2,.slice D3 n3 Dc3,.bool f24,.bool f25,.bool f26,.bool f27,.bool f28,.bool f29,.int .i64 f30]=l:=⟨_,rfl⟩
 have hra:Row w2 w.heap.size LA:=by rw[← hLA];exact HRa.out
 have hrb:Row w2 (w.heap.size+1) LD:=by rw[← hLD];exact HRb.out
 have lA:LA.length=31:=by rw[← hLA];rfl
 have lD:LD.length=31:=by rw[← hLD];rfl
 have oA:LA.toArray.all (·.oneCell')=true:=by rw[← hLA];kernel_rfl
 have oD:LD.toArray.all (·.oneCell')=true:=by rw[← hLD];kernel_rfl
 have iA:(Tryz.prog.info? 28).map (·.size)=some LA.length:=by rw[lA];kernel_rfl
 have iD:(Tryz.prog.info? 28).map (·.size)=some LD.length:=by rw[lD];kernel_rfl
 have sA:LA.toArray.size=31:=by rw[List.size_toArray];exact lA
 have sD:LD.toArray.size=31:=by rw[List.size_toArray];exact lD
 have iA' : (Tryz.prog.info? 28).map (·.size)=some LA.toArray.size:=by rw[List.size_toArray];exact iA
 have iD' : (Tryz.prog.info? 28).map (·.size)=some LD.toArray.size:=by rw[List.size_toArray];exact iD
 have hS0:w2.drew.rangeAt w.heap.size 0 LA∧w2.drew.rangeAt (w.heap.size+1) 0 LD:=⟨(World.rangeAt_drew _ _ _ _).2 hra.range,(World.rangeAt_drew _ _ _ _).2 hrb.range⟩
 have keepS:∀ w3:World,(∀ k,k < w2.heap.size→w3.heap[k]? = w2.heap[k]?)→w3.rangeAt w.heap.size 0 LA∧w3.rangeAt (w.heap.size+1) 0 LD:=fun w3 h=>⟨range_far hra.range (h _ (by omega)),range_far hrb.range (h _ (by omega))⟩
 have HLA:=Aside0.mk hLA;have HLD:=Aside0.mk hLD;clear hLA hLD hR1 hR2 hRa hb1 hb2 hw1 hw2 hz1;go_enter Tryz.func23,Tryz.ntmps23;go_upto_region 1 with fail
 rw[HW1.out]
 first | rw[HW2.out] | (change Code.wp _ _ _ _ (w1.alloc (.cells #[.string f0,.string f1,.string f2,.string f3,.string f4,.string f5,.string f6,.string f7,.string f8,.string f9,.string f10,.string f11,.string f12,.string f13,.string f14,.string f15,.string f16,.string f17,.string f18,.string f19,.string f20,.slice D1 n1 Dc1,.slice D2 n2 Dc2,.slice D3 n3 Dc3,.bool f24,.bool f25,.bool f26,.bool f27,.bool f28,.bool f29,.int .i64 f30] 28));rw[HW2.out])
 go_cut [5,6] from 5 to 8 (fun s5 s6 wx=>∃ b5 b6,s5 = .pointer (some ⟨b5,0,none⟩)∧s6 = .pointer (some ⟨b6,0,none⟩)∧Aside0 (wx.rangeAt b5 0 LA∧wx.rangeAt b6 0 LD∧w2.heap.size≤b5∧w2.heap.size≤b6∧Below w2.heap.size w2 wx))
 case first J2 K2 hJ2 hK2 =>
  obtain ⟨w3,hw3⟩:∃ w3,w2.drew.alloc (.cells TZ 28)=w3:=⟨_,rfl⟩
  obtain ⟨w4,hw4⟩:∃ w4,w3.alloc (.cells TZ 28)=w4:=⟨_,rfl⟩
  have z2:w2.drew.heap.size=w2.heap.size:=rfl;have z3:w3.heap.size=w2.heap.size+1:=by rw[← hw3];simp
  have z4:w4.heap.size=w2.heap.size+2:=by rw[← hw4];simp[z3]
  have k3:∀ k,k < w2.heap.size→w3.heap[k]? = w2.heap[k]?:=fun k hk=>by rw[← hw3];exact Below.heap_alloc w2.drew _ k hk
  have k4:∀ k,k < w2.heap.size→w4.heap[k]? = w2.heap[k]?:=fun k hk=>by rw[← hw4,Below.heap_alloc w3 _ k (by omega)];exact k3 k hk
  have t3:w3.there w2.heap.size 0 31:=by rw[← hw3];exact there_TZ w2.drew
  have t4:w4.there w2.heap.size 0 31:=by rw[← hw4];exact there_alloc t3 _ (by omega)
  have t4' : w4.there (w2.heap.size+1) 0 31:=by rw[← hw4,← z3];exact there_TZ w3
  have b4:Below w2.heap.size w2 w4:=by
   rw[← hw4,← hw3];exact ((Below.refl _ _).drew.alloc (Nat.le_refl _) _).alloc (by simp) _
  refine wp_region_held_drew (S:=fun w'=>w'.rangeAt w.heap.size 0 LA∧w'.rangeAt (w.heap.size+1) 0 LD) (by kernel_rfl) hS0 (fun hH=>?_);refine takeD (i:=0) (d:=some 7) (v:=.agg LA.toArray) rfl rfl (by kernel_rfl) (by kernel_rfl) (by kernel_rfl) (fun _ _ _ h=>h) (yieldsIf_load_mid rfl 28 (.tmp 2) rfl w.heap.size 0 rfl LA _ (fun _ h=>h.1) Tryz.underlying28 rfl iA) hH ?_;refine takeD (i:=1) (d:=some 8) (v:=.agg LD.toArray) rfl rfl (by kernel_rfl) (by kernel_rfl) (by kernel_rfl) (fun _ _ _ h=>h) (yieldsIf_load_mid rfl 28 (.tmp 3) rfl (w.heap.size+1) 0 rfl LD _ (fun _ h=>h.2) Tryz.underlying28 rfl iD) hH ?_;refine wpAnyH_ready (rs:=[2,3]) (by kernel_rfl) (by simp) ?_
  refine comeD (d:=some 5) (v:=.pointer (some ⟨w2.heap.size,0,none⟩)) (w':=w3) rfl rfl rfl (fun K h=>alloc_told rfl (by rw[hw3];exact h)) (keepS _ k3) ?_ (comeD (d:=some 6) (v:=.pointer (some ⟨w2.heap.size,0,none⟩)) (w':=w3) rfl rfl rfl (fun K h=>alloc_told rfl (by rw[hw3];exact h)) (keepS _ k3) ?_ AllReadyH.nil)
  ·refine wpAnyH_ready (rs:=[3]) (by kernel_rfl) (by simp) ?_;refine comeD (d:=some 6) (v:=.pointer (some ⟨w2.heap.size+1,0,none⟩)) (w':=w4) rfl rfl rfl (fun K h=>alloc_told rfl (by rw[hw4,z3];exact h)) (keepS _ k4) ?_ AllReadyH.nil;refine wpAnyH_ready (rs:=[4]) (by kernel_rfl) (by simp) ?_;refine comeD (d:=none) (v:=undef) (w':=w4.setCells w2.heap.size 0 LA) rfl rfl rfl (fun K h=>wp_store_mid 28 (.tmp 5) (.tmp 7) rfl w2.heap.size 0 LA.toArray rfl rfl (by rw[sA];exact t4) iA' oA (by rw[List.toList_toArray];exact h)) (keepS _ fun k hk=>(setCells_far _ _ k (by omega)).trans (k4 k hk)) ?_ AllReadyH.nil;refine wpAnyH_ready (rs:=[5]) (by kernel_rfl) (by simp) ?_
   refine comeD (d:=none) (v:=undef) (w':=(w4.setCells w2.heap.size 0 LA).setCells (w2.heap.size+1) 0 LD) rfl rfl rfl (fun K h=>wp_store_mid 28 (.tmp 6) (.tmp 8) rfl (w2.heap.size+1) 0 LD.toArray rfl rfl (by rw[sD];exact there_far t4' (setCells_far _ _ _ (by omega))) iD' oD (by rw[List.toList_toArray];exact h)) (keepS _ fun k hk=>(setCells_far _ _ k (by omega)).trans ((setCells_far _ _ k (by omega)).trans (k4 k hk))) ?_ AllReadyH.nil;refine wpAnyH_done (by kernel_rfl) ?_ _;simp only[Act.put,List.setIfInBounds_toArray,List.set_cons_zero,List.set_cons_succ];refine hK2 _ _ (Met.intro (hJ2 _ _ ?_))
   repeat apply Exists.intro
   refine ⟨?rel,rfl⟩
   case rel =>
    refine ⟨w2.heap.size,w2.heap.size+1,rfl,rfl,Aside0.mk ⟨?_,?_,Nat.le_refl _,by omega,?_⟩⟩
    ·exact range_far (World.rangeAt_setCells_same w4 w2.heap.size 0 LA (by rw[lA];exact t4)) (setCells_far _ _ _ (by omega))
    ·exact World.rangeAt_setCells_same _ (w2.heap.size+1) 0 LD (by rw[lD];exact there_far t4' (setCells_far _ _ _ (by omega)))
    ·exact below_setCells (Nat.le_succ _) _ _ _ (below_setCells (Nat.le_refl _) _ _ _ b4)
  ·refine wpAnyH_ready (rs:=[2]) (by kernel_rfl) (by simp) ?_;refine comeD (d:=some 5) (v:=.pointer (some ⟨w2.heap.size+1,0,none⟩)) (w':=w4) rfl rfl rfl (fun K h=>alloc_told rfl (by rw[hw4,z3];exact h)) (keepS _ k4) ?_ AllReadyH.nil;refine wpAnyH_ready (rs:=[4]) (by kernel_rfl) (by simp) ?_;refine comeD (d:=none) (v:=undef) (w':=w4.setCells (w2.heap.size+1) 0 LA) rfl rfl rfl (fun K h=>wp_store_mid 28 (.tmp 5) (.tmp 7) rfl (w2.heap.size+1) 0 LA.toArray rfl rfl (by rw[sA];exact t4') iA' oA (by rw[List.toList_toArray];exact h)) (keepS _ fun k hk=>(setCells_far _ _ k (by omega)).trans (k4 k hk)) ?_ AllReadyH.nil;refine wpAnyH_ready (rs:=[5]) (by kernel_rfl) (by simp) ?_
   refine comeD (d:=none) (v:=undef) (w':=(w4.setCells (w2.heap.size+1) 0 LA).setCells w2.heap.size 0 LD) rfl rfl rfl (fun K h=>wp_store_mid 28 (.tmp 6) (.tmp 8) rfl w2.heap.size 0 LD.toArray rfl rfl (by rw[sD];exact there_far t4 (setCells_far _ _ _ (by omega))) iD' oD (by rw[List.toList_toArray];exact h)) (keepS _ fun k hk=>(setCells_far _ _ k (by omega)).trans ((setCells_far _ _ k (by omega)).trans (k4 k hk))) ?_ AllReadyH.nil;refine wpAnyH_done (by kernel_rfl) ?_ _;simp only[Act.put,List.setIfInBounds_toArray,List.set_cons_zero,List.set_cons_succ];refine hK2 _ _ (Met.intro (hJ2 _ _ ?_))
   repeat apply Exists.intro
   refine ⟨?rel,rfl⟩
   case rel =>
    refine ⟨w2.heap.size+1,w2.heap.size,rfl,rfl,Aside0.mk ⟨?_,?_,by omega,Nat.le_refl _,?_⟩⟩
    ·exact range_far (World.rangeAt_setCells_same w4 (w2.heap.size+1) 0 LA (by rw[lA];exact t4')) (setCells_far _ _ _ (by omega))
    ·exact World.rangeAt_setCells_same _ w2.heap.size 0 LD (by rw[lD];exact there_far t4 (setCells_far _ _ _ (by omega)))
    ·exact below_setCells (Nat.le_refl _) _ _ _ (below_setCells (Nat.le_succ _) _ _ _ b4)
 case rest =>
  obtain ⟨b5,b6,rfl,rfl,HX⟩:=hcut
  obtain ⟨wx,rfl⟩:∃ x,x=wc:=⟨_,rfl⟩
  have HB9:=Aside0.mk (HB.out.trans (HX.out.2.2.2.2.mono HB.out.size));have RA9:=Aside0.mk HX.out.1;have RD9:=Aside0.mk HX.out.2.1;have ra:=HRa.out.below HX.out.2.2.2.2 (by omega);have rb:=HRb.out.below HX.out.2.2.2.2 (by omega);have a9:=ra.at 9 _ rfl;have a21:=ra.at 21 _ rfl;have a22:=ra.at 22 _ rfl;have a23:=ra.at 23 _ rfl;have b21:=rb.at 21 _ rfl;have b22:=rb.at 22 _ rfl;have b23:=rb.at 23 _ rfl;clear ra rb;have t1:=texts_calls (S1.below HB9.out) (U1.below HB9.out) hl1;go_wp2_with fail
  refine t1.mono ?_;rintro e w10 ⟨rfl,hb10⟩;have HB10:=Aside0.mk (HB9.out.trans (hb10.mono HB9.out.size));replace a9:=cstep a9 hb10;replace a22:=cstep a22 hb10;replace a23:=cstep a23 hb10;replace b22:=cstep b22 hb10;replace b23:=cstep b23 hb10;have RA10:=Aside0.mk (rstep RA9.out hb10);have RD10:=Aside0.mk (rstep RD9.out hb10);clear t1 hb10;clear a21 b21;have t2:=texts_calls (S2.below HB10.out) (U2.below HB10.out) hl2;go_wp2_with fail
  refine t2.mono ?_;rintro e w11 ⟨rfl,hb11⟩;have HB11:=Aside0.mk (HB10.out.trans (hb11.mono HB10.out.size));replace a9:=cstep a9 hb11;replace a23:=cstep a23 hb11;replace b23:=cstep b23 hb11;have RA11:=Aside0.mk (rstep RA10.out hb11);have RD11:=Aside0.mk (rstep RD10.out hb11);clear t2 hb11;clear a22 b22;have t3:=texts_calls (S3.below HB11.out) (U3.below HB11.out) hl3;go_wp2_with fail
  refine t3.mono ?_;rintro e w12 ⟨rfl,hb12⟩;have HB12:=Aside0.mk (HB11.out.trans (hb12.mono HB11.out.size));replace a9:=cstep a9 hb12;have RA12:=Aside0.mk (rstep RA11.out hb12);have RD12:=Aside0.mk (rstep RD11.out hb12);clear t3 hb12;clear a23 b23;have hn9:=HN.out
  have cnames:Calls Tryz.prog 38 #[.agg LA.toArray,.agg LD.toArray] w12 fun e w'=>e = .returned (.bool true)∧Below w12.heap.size w12 w':=by
   rw[← HLA.out,← HLD.out];exact names_calls
  go_wp2_with (first | (refine load_mid_w (by rfl) 28 _ rfl b5 0 rfl LA _ RA12.out Tryz.underlying28 rfl iA ?_) | (refine load_mid_w (by rfl) 28 _ rfl b6 0 rfl LD _ RD12.out Tryz.underlying28 rfl iD ?_) | fail)
  refine cnames.mono ?_;rintro e w13 ⟨rfl,hb13⟩;have HB13:=Aside0.mk (HB12.out.trans (hb13.mono HB12.out.size));have RA13:=Aside0.mk (rstep RA12.out hb13);have RD13:=Aside0.mk (rstep RD12.out hb13);clear cnames hb13;clear a9 hn9
  have cwords:Calls Tryz.prog 39 #[.agg LA.toArray,.agg LD.toArray] w13 fun e w'=>e = .returned (.bool true)∧Below w13.heap.size w13 w':=by
   rw[← HLA.out,← HLD.out];exact words_calls
  go_wp2_with (first | (refine load_mid_w (by rfl) 28 _ rfl b5 0 rfl LA _ RA13.out Tryz.underlying28 rfl iA ?_) | (refine load_mid_w (by rfl) 28 _ rfl b6 0 rfl LD _ RD13.out Tryz.underlying28 rfl iD ?_) | fail)
  refine cwords.mono ?_;rintro e w14 ⟨rfl,hb14⟩;have HB14:=Aside0.mk (HB13.out.trans (hb14.mono HB13.out.size));have RA14:=Aside0.mk (rstep RA13.out hb14);have RD14:=Aside0.mk (rstep RD13.out hb14);clear cwords hb14
  have csorts:Calls Tryz.prog 40 #[.agg LA.toArray,.agg LD.toArray] w14 fun e w'=>e = .returned (.bool true)∧Below w14.heap.size w14 w':=by
   rw[← HLA.out,← HLD.out];exact sorts_calls
  go_wp2_with (first | (refine load_mid_w (by rfl) 28 _ rfl b5 0 rfl LA _ RA14.out Tryz.underlying28 rfl iA ?_) | (refine load_mid_w (by rfl) 28 _ rfl b6 0 rfl LD _ RD14.out Tryz.underlying28 rfl iD ?_) | fail)
  refine csorts.mono ?_;rintro e w15 ⟨rfl,hb15⟩;have HB15:=Aside0.mk (HB14.out.trans (hb15.mono HB14.out.size));have RA15:=Aside0.mk (rstep RA14.out hb15);have RD15:=Aside0.mk (rstep RD14.out hb15);clear csorts hb15;go_wp2_with fail
  go_ret;exact ⟨rfl,HB15.out⟩
end
end Go.Proofs.YtjlaamcklhdhaaaGreatDoor.Path
namespace Go.Proofs.YtjlaamcklhdhaaaGreatDoor.Path
open Go.RowKit Go.Proofs.YtjlaamcklhdhaaaGreatDoorW.PrintWords Go.Proofs.YtjlaamcklhdhaaaGreatDoor.Base
theorem mApply_keeps {E:Env} {lay:Bool} {p q:PathV} {pre v:ByteArray} {x:Int×Int} (h:mApply E lay p pre x v=some q):Same p q:=by
 unfold mApply at h
 repeat' split at h
 all_goals first | (cases h;exact ⟨rfl,rfl,rfl,rfl,rfl,rfl,rfl,rfl,rfl⟩) | cases h
theorem mWord_keeps (E:Env) (p:PathV) (comp:ByteArray) (lo ld:Nat) (nd:Int) (last:Bool):Same p (mWord E p comp lo ld nd last).1:=by
 unfold mWord;simp only;split
 ·unfold mWrap;simp only;split
  ·exact ⟨rfl,rfl,rfl,rfl,rfl,rfl,rfl,rfl,rfl⟩
  ·split
   ·rename_i q hq
    exact mApply_keeps hq
   ·exact ⟨rfl,rfl,rfl,rfl,rfl,rfl,rfl,rfl,rfl⟩
 ·split
  ·exact ⟨rfl,rfl,rfl,rfl,rfl,rfl,rfl,rfl,rfl⟩
  ·unfold mPlain
   repeat' split
   all_goals exact ⟨rfl,rfl,rfl,rfl,rfl,rfl,rfl,rfl,rfl⟩
theorem mId_keeps (E:Env) (p:PathV) (comp:ByteArray) (i ld:Nat) (nd:Int) (last:Bool):Same p (mId E p comp i ld nd last):=by
 unfold mId;split
 ·exact Same.refl p
 ·obtain ⟨e,he,_⟩:=mNameEnd_eq (mWord E p comp (i+1) ld nd last) i ld last;rw[he];have h:=mWord_keeps E p comp (i+1) ld nd last;exact ⟨h.s,h.cLow,h.cHigh,h.sec,h.comp,h.typ,h.nLow,h.nHigh,h.trim⟩
structure KeptP (T:ByteArray) (t:Int) (p:PathV):Prop where
 s:p.s=T
 typ:p.typ=t
 hi:p.cHigh = -1∨∃ j:Nat,p.cHigh=(j:Int)+1∧T.data.toList[j]? = some 47
 lo:p.cLow = -1∨∃ j:Nat,p.cLow=(j:Int)+1∧T.data.toList[j]? = some 47
theorem KeptP.same {s:ByteArray} {t:Int} {p q:PathV} (h:KeptP s t p) (g:Same p q):KeptP s t q :=
 ⟨g.s.trans h.s,g.typ.trans h.typ,by rw[g.cHigh];exact h.hi,by rw[g.cLow];exact h.lo⟩
theorem KeptP.step {E:Env} {s comp:ByteArray} {t:Int} {sk:List Nat} {nd:Int} {i:Nat} {d:DoV} (h:KeptP s t d.p):KeptP s t (doStep E comp sk nd i d).p:=by
 unfold doStep;rw[h.s];split
 ·split
  ·exact h
  ·exact h.same (mId_keeps _ _ _ _ _ _ _)
 ·split
  ·rename_i hc
   have key:∀ q:PathV,KeptP s t q→KeptP s t { q with cHigh:=(i:Int)+1 }:=fun q hq=>⟨hq.s,hq.typ,.inr ⟨i,rfl,hc⟩,hq.lo⟩
   have key2:∀ q:PathV,KeptP s t q→KeptP s t { q with cLow:=(i:Int)+1 }:=fun q hq=>⟨hq.s,hq.typ,hq.hi,.inr ⟨i,rfl,hc⟩⟩
   have key3:∀ q:PathV,KeptP s t q→KeptP s t { q with sec:=(i:Int) }:=fun q hq=>⟨hq.s,hq.typ,hq.hi,hq.lo⟩
   have hq:KeptP s t (if 0 < d.ld then mId E d.p comp i d.ld nd true else d.p):=by
    split
    ·exact h.same (mId_keeps _ _ _ _ _ _ _)
    ·exact h
   have h1:KeptP s t (if d.p.cHigh = -1 then { (if 0 < d.ld then mId E d.p comp i d.ld nd true else d.p) with cHigh:=(i:Int)+1 } else if d.p.cLow = -1 then { d.p with cLow:=(i:Int)+1 } else d.p):=by
    split
    ·exact key _ hq
    ·split
     ·exact key2 _ h
     ·exact h
   simp only;split
   ·exact key3 _ h1
   ·exact h1
  ·exact h
theorem KeptP.loop {E:Env} {s comp:ByteArray} {t:Int} {sk:List Nat} {nd:Int}:∀ (i:Nat) (d:DoV),KeptP s t d.p→KeptP s t (doLoop E comp sk nd i d).p
 | 0,_,h=>h
 | i+1,d,h=>by unfold doLoop;exact KeptP.loop i _ h.step
end Go.Proofs.YtjlaamcklhdhaaaGreatDoor.Path
namespace Go.Proofs.YtjlaamcklhdhaaaGreatDoor.Path
open Go.RowKit Go.Proofs.YtjlaamcklhdhaaaGreatDoorW.PrintWords Go.Proofs.YtjlaamcklhdhaaaGreatDoor.Base Go.Proofs.YtjlaamcklhdhaaaGreatDoor.Total
structure Split (l pre n:List UInt8):Prop where
 eq:l=pre++n
 slash:∃ q,pre=q++[47]
 no:∀ j:Nat,n[j]?≠some 47
theorem Split.behind {l pre n:List UInt8} (S:Split l pre n):behind l=pre.length∧n=l.drop pre.length:=by
 obtain ⟨q,hq⟩:=S.slash;have hl:L (⟨l.toArray⟩:ByteArray)=l:=L_mk l;have e1:l[q.length]? = some 47:=by rw[S.eq,hq,List.append_assoc,List.getElem?_append_right (Nat.le_refl _),Nat.sub_self];rfl
 obtain ⟨j,_,hb,hj,hk⟩:=last_slash ⟨l.toArray⟩ ⟨q.length,by rw[hl];exact e1⟩;rw[hl] at hb hj hk
 have:j=q.length:=by
  rcases Nat.lt_trichotomy j q.length with h | h | h
  ·exact absurd e1 (hk _ h)
  ·exact h
  ·exfalso;have hp:pre.length≤j:=by rw[hq];simp;omega
   rw[S.eq,List.getElem?_append_right hp] at hj;exact S.no _ hj
 refine ⟨by rw[hb,this,hq];simp,by rw[S.eq,List.drop_left]⟩
end Go.Proofs.YtjlaamcklhdhaaaGreatDoor.Path
set_option linter.unusedVariables false
namespace Go.Proofs.YtjlaamcklhdhaaaGreatDoor.Path
open Go.RowKit Go.Proofs.YtjlaamcklhdhaaaGreatDoorW.PrintWords Go.Proofs.YtjlaamcklhdhaaaGreatDoor.Base Go.Proofs.YtjlaamcklhdhaaaGreatDoor.Total
structure Head (x:Int×Int) (p:PathV):Prop where
 at_:p.known[0]? = some x
 lay:p.lay = -1∨1≤p.lay
theorem Head.len {x:Int×Int} {p:PathV} (h:Head x p):1≤p.known.length:=(List.getElem?_eq_some_iff.1 h.at_).1
end Go.Proofs.YtjlaamcklhdhaaaGreatDoor.Path
namespace Go.Proofs.YtjlaamcklhdhaaaGreatDoor.Path
open Go.RowKit Go.Proofs.YtjlaamcklhdhaaaGreatDoorW.PrintWords Go.Proofs.YtjlaamcklhdhaaaGreatDoor.Base Go.Proofs.YtjlaamcklhdhaaaGreatDoor.Lower
theorem norm_47 (c:UInt8):hypB (lowB c)=47↔c=47:=by
 have hn:∀ d:UInt8,d=47↔d.toNat=47:=fun d=>⟨fun h=>by rw[h];rfl,fun h=>UInt8.toNat_inj.1 h⟩
 by_cases h1:65≤c.toNat∧c.toNat≤90
 ·have e1:lowB c=c+32:=by unfold lowB;rw[if_pos h1]
  have e2:(c+32).toNat=c.toNat+32:=by
   rw[UInt8.toNat_add,show (32:UInt8).toNat=32 from rfl];omega
  have e3:c+32≠32:=by
   intro h;have:=congrArg UInt8.toNat h;rw[e2,show (32:UInt8).toNat=32 from rfl] at this;omega
  have e4:hypB (c+32)=c+32:=by unfold hypB;rw[if_neg e3]
  rw[e1,e4,hn,hn,e2];omega
 ·have e1:lowB c=c:=by unfold lowB;rw[if_neg h1]
  rw[e1];unfold hypB
  by_cases h2:c=32
  ·rw[if_pos h2,h2];decide
  ·rw[if_neg h2]
theorem leadL (b:ByteArray):L ((⟨#[47]⟩:ByteArray)++b)=47::L b:=by rw[L_append];rfl
end Go.Proofs.YtjlaamcklhdhaaaGreatDoor.Path
namespace Go.Proofs.YtjlaamcklhdhaaaGreatDoor.Path
open Go.RowKit Go.Proofs.YtjlaamcklhdhaaaGreatDoorW.PrintWords Go.Proofs.YtjlaamcklhdhaaaGreatDoor.Base Go.Proofs.YtjlaamcklhdhaaaGreatDoor.Lower
theorem mPath_text {E:Env} {comp a b:ByteArray} (h:mText (L a)=mText (L b)):mPath E comp a=mPath E comp b:=by
 unfold mPath mDo;have h' : mText a.data.toList=mText b.data.toList:=h;rw[h']
theorem mLead_slash {l:List UInt8} (h:l.head?≠some 47):mLead (47::l)=mLead l:=by
 unfold mLead;rw[if_neg (by simp),if_pos (by rfl)]
 by_cases c:l=[]
 ·rw[if_pos c,c]
 ·rw[if_neg c,if_neg h]
theorem norm_head {s:ByteArray} (h:(L s).head?≠some 47):(L (norm s)).head?≠some 47:=by
 rw[L_norm]
 cases hl:L s with
 | nil=>simp
 | cons a r =>
  rw[hl] at h;simp only[List.map_cons,List.head?_cons,ne_eq,Option.some.injEq] at h ⊢;exact fun e=>h ((norm_47 a).1 e)
theorem slash_ahead {E:Env} {comp s:ByteArray} (h:(L s).head?≠some 47):mPath E comp (norm (⟨#[47]⟩++s))=mPath E comp (norm s):=by
 refine mPath_text ?_
 have e:L (norm (⟨#[47]⟩++s))=47::L (norm s):=by
  rw[L_norm,L_norm,leadL,List.map_cons,(norm_47 47).2 rfl]
 rw[e];unfold mText;rw[mLead_slash (norm_head h)]
theorem low_low (c:UInt8):lowB (lowB c)=lowB c:=by
 by_cases h:65≤c.toNat∧c.toNat≤90
 ·have e1:lowB c=c+32:=by unfold lowB;rw[if_pos h]
  have e2:(c+32).toNat=c.toNat+32:=by
   rw[UInt8.toNat_add,show (32:UInt8).toNat=32 from rfl];omega
  rw[e1];unfold lowB;rw[if_neg (by rw[e2];omega)]
 ·have e1:lowB c=c:=by unfold lowB;rw[if_neg h]
  rw[e1,e1]
theorem norm_low (s:ByteArray):norm (low s)=norm s:=by
 refine L_inj ?_;rw[L_norm,L_norm,L_low,List.map_map];refine List.map_congr_left (fun c _=>?_);show hypB (lowB (lowB c))=_;rw[low_low]
def PathV.as (c:ByteArray) (p:PathV):PathV:={ p with comp:=c }
section
variable {E:Env} {c k:ByteArray} (h1:isLay c=isLay k) (h2:isCon c=isCon k)
include h1 h2 in
include h1 h2 in
def DoV.as (c:ByteArray) (d:DoV):DoV:={ d with p:=d.p.as c }
include h1 h2 in
include h1 h2 in
include h1 in
include h1 h2 in
end
end Go.Proofs.YtjlaamcklhdhaaaGreatDoor.Path
namespace Go.Proofs.YtjlaamcklhdhaaaGreatDoor.Lower
open Go.RowKit Go.Proofs.YtjlaamcklhdhaaaGreatDoorW.PrintWords Go.Proofs.YtjlaamcklhdhaaaGreatDoor.Base
set_option maxHeartbeats 400000 in
theorem small_calls (s:ByteArray) (w:World) (hs:s.size≤140737488355328) :
 Calls Tryz.prog 22 #[.string s] w fun e w'=>e = .returned (.string (low s))∧Below w.heap.size w w':=by
 have hl:=L_length s;have hcv:=fun (W:World)=>Lib.run_convert_string_bytes (P:=Tryz.prog) W 9 42 5 s Tryz.underlying9 Tryz.underlying42 Tryz.underlying5;go_enter Tryz.func22,Tryz.ntmps22;go_wp2
 go_loopw [9] (fun i wr=>∃ k:Nat,k≤s.size∧i = .int .i64 k∧Aside0 (Bytes wr w.heap.size (mid lowB k (L s)))∧Aside0 (Below w.heap.size w wr)) (fun i _=>s.size - (intOf i).toNat)
 case atStart=>exact ⟨0,Nat.zero_le _,rfl,⟨by rw[mid_zero];exact bytesWorld_bytes w _ s⟩,⟨bytesWorld_below w _ s⟩⟩
 case round =>
  obtain ⟨k,hk,rfl,HB,HW⟩:=hrel
  by_cases hlt:k < s.size
  ·have hk1:k < (L s).length:=by omega
   have hk2:k < (mid lowB k (L s)).length:=by rw[mid_length _ _ _ (by omega)];exact hk1
   obtain ⟨c,hc⟩:∃ c,(L s)[k]=c:=⟨_,rfl⟩
   have hg:(mid lowB k (L s))[k]=c:=by rw[mid_get _ _ _ hk1,hc]
   have hcell:=(HB.out k hk2).1;have hfr:=(HB.out k hk2).2;rw[hg] at hcell;have HC:=Aside0.mk hc;clear hc hg;have hr:c.toNat < 256:=c.toNat_lt
   by_cases h1:65≤c.toNat
   ·by_cases h2:c.toNat≤90
    ·have b1:65≤(c.toNat:Int):=by omega
     have b2:(c.toNat:Int)≤90:=by omega
     go_wp2
     go_roundw
     case rel =>
      refine ⟨k+1,by omega,by go_num,⟨?_⟩,⟨HW.out.setCell (by simp) _⟩⟩;have hs2:=HB.out.set k (lowB c) hk2;rw[lowB_val c ⟨h1,h2⟩,mid_set lowB k (L s) hk1 (lowB c) (by rw[HC.out])] at hs2;exact hs2
     case measure=>simp[intOf];omega
    ·have b1:65≤(c.toNat:Int):=by omega
     have b2:¬ ((c.toNat:Int)≤90):=by omega
     have hst:lowB c=c:=lowB_stay c (by omega);have HS:=Aside0.mk (mid_stay lowB k (L s) hk1 (by rw[HC.out,hst]));clear hst;go_wp2
     go_roundw
     case rel=>exact ⟨k+1,by omega,by go_num,⟨by rw[HS.out];exact HB.out⟩,HW⟩
     case measure=>simp[intOf];omega
   ·have b1:¬ (65≤(c.toNat:Int)):=by omega
    have hst:lowB c=c:=lowB_stay c (by omega);have HS:=Aside0.mk (mid_stay lowB k (L s) hk1 (by rw[HC.out,hst]));clear hst;go_wp2
    go_roundw
    case rel=>exact ⟨k+1,by omega,by go_num,⟨by rw[HS.out];exact HB.out⟩,HW⟩
    case measure=>simp[intOf];omega
  ·obtain rfl:k=s.size:=by omega
   have HB2:Bytes wr w.heap.size ((L s).map lowB):=by have:=HB.out;rw[← hl,mid_all] at this;exact this
   have hstr:=fun c=>bytes_string (P:=Tryz.prog) (w:=wr) (src:=42) (dst:=9) (e:=5) (c:=c) (n:=s.size) Tryz.underlying42 Tryz.underlying5 Tryz.underlying9 HB2 (by simpa using hl) (by omega);clear HB;have HB3:=Aside0.mk HB2;clear HB2;go_wp2;go_ret;exact ⟨rfl,HW.out⟩
end Go.Proofs.YtjlaamcklhdhaaaGreatDoor.Lower
set_option linter.unusedSimpArgs false
set_option linter.unusedVariables false
namespace Go.Proofs.YtjlaamcklhdhaaaGreatDoor.Path
open Go.RowKit Go.WideMaps Go.Proofs.YtjlaamcklhdhaaaGreatDoorW.PrintWords Go.Proofs.YtjlaamcklhdhaaaGreatDoor.Base Go.Proofs.YtjlaamcklhdhaaaGreatDoor.Lower Go.Proofs.YtjlaamcklhdhaaaGreatDoor.Total Go.Proofs.YtjlaamcklhdhaaaGreatDoor.PCore
section
variable {w:World} {st:SiteV} {vl vd vf vc:Value}
theorem pathKnown_at (S:SiteArg w st vl vd vf vc) {c0 s0:ByteArray} (K:PathKS st c0 s0) (comp s:ByteArray) (hc:comp.size≤900000) (hs:s.size≤900000):∃ r:Bool,(r=true→asc s∧asc comp∧s.size≤400∧PathKS st comp s)∧∀ w',Below w.heap.size w w'→Calls Tryz.prog 21 #[.agg #[vl,vd,vf,vc],.string comp,.string s] w' fun e w''=>e = .returned (.bool r)∧Below w'.heap.size w' w'':=by
 have k:=K.site;have l1:=k.la;have l2:=k.lb;have l3:=k.lc;have l4:=k.ld;obtain ⟨r,hr,hp⟩:=st_PathKnown st.langs st.dis (st.fmts.map mkF) st.cont comp s (by omega) (by omega) (by omega) (by omega) (fun x hx=>Nat.le_trans (k.langs x hx).most (by omega)) (fun x hx=>Nat.le_trans (k.dis x hx).most (by omega)) (fun x hx=>⟨Nat.le_trans (k.fmts x hx).1.most (by omega),Nat.le_trans (k.fmts x hx).2.most (by omega)⟩) (fun x hx=>Nat.le_trans (k.cont x hx).most (by omega)) hc hs;obtain ⟨k,hk⟩:=hr.rounds;refine ⟨r,fun e=>⟨asc_of (hp e).ascY,asc_of (hp e).ascX,(hp e).most,hp e⟩,fun w' hb=>?_⟩;have S':=S.below hb;obtain ⟨A0,c0,rfl,g0,r0⟩:=S'.l.kd S.ll;obtain ⟨A1,c1,rfl,g1,r1⟩:=S'.d.kd S.dl;obtain ⟨A2,c2,rfl,g2,r2⟩:=S'.f.kd S.fl;obtain ⟨A3,c3,rfl,g3,r3⟩:=S'.c.kd S.cl
 exact spec_PathKnown.calls k A0 c0 _ A1 c1 _ A2 c2 _ A3 c3 _ comp s _ w' r0 g0 r1 g1 r2 g2 r3 g3 hk
theorem alike_told {p:PathV} (I:PathIn p) (hne:((nrm p.trim p.s).toList==[])=false) {v1 v2 v3 u1 u2 u3:Value} (T1:Told w 0 p v1 v2 v3) (T2:Told w 0 p u1 u2 u3) :
 Calls Tryz.prog 23 #[toldVal (mTold p) v1 v2 v3,toldVal (mTold p) u1 u2 u3] w fun e w'=>e = .returned (.bool true)∧Below w.heap.size w w':=by
 obtain ⟨S1,S2,S3⟩:=T1;obtain ⟨U1,U2,U3⟩:=T2;have l1:(mLangs p).length≤1000000:=by unfold mLangs;rw[List.length_map];exact I.ll
 have l2:(mIds p).length≤1000000:=by unfold mIds;rw[List.length_map];exact I.kl
 have l3:(mUnk p).length≤1000000:=by unfold mUnk;rw[List.length_map];exact I.ul
 obtain ⟨a1,c1,rfl,_⟩:=id S1;obtain ⟨a2,c2,rfl,_⟩:=id S2;obtain ⟨a3,c3,rfl,_⟩:=id S3;obtain ⟨b1,d1,rfl,_⟩:=id U1;obtain ⟨b2,d2,rfl,_⟩:=id U2;obtain ⟨b3,d3,rfl,_⟩:=id U3
 exact alike_calls (f0:=(mTold p).component) (f1:=(mTold p).container) (f2:=(mTold p).containerDir) (f3:=(mTold p).section_) (f4:=(mTold p).name) (f5:=(mTold p).nameNoExt) (f6:=(mTold p).baseName) (f7:=(mTold p).nameNoId) (f8:=(mTold p).dir) (f9:=(mTold p).path) (f10:=(mTold p).pathNoLang) (f11:=(mTold p).pathNoId) (f12:=(mTold p).pathBefore) (f13:=(mTold p).base) (f14:=(mTold p).idBase) (f15:=(mTold p).ext) (f16:=(mTold p).fmt) (f17:=(mTold p).kind) (f18:=(mTold p).layout) (f19:=(mTold p).lang) (f20:=(mTold p).custom) (f24:=(mTold p).disabled) (f25:=(mTold p).isContent) (f26:=(mTold p).isBundle) (f27:=(mTold p).isBranch) (f28:=(mTold p).isLeaf) (f29:=(mTold p).isData) (f30:=(mTold p).typ) hne l1 l2 l3 S1 S2 S3 U1 U2 U3
end
end Go.Proofs.YtjlaamcklhdhaaaGreatDoor.Path
set_option linter.unusedSimpArgs false
set_option linter.unusedVariables false
namespace Go.Proofs.YtjlaamcklhdhaaaGreatDoor.Path
open Go.RowKit Go.WideMaps Go.Proofs.YtjlaamcklhdhaaaGreatDoorW.PrintWords Go.Proofs.YtjlaamcklhdhaaaGreatDoor.Base Go.Proofs.YtjlaamcklhdhaaaGreatDoor.Lower
section
variable {P:Program} {md:Region.Mode} {ops:Array Oper} {Q:Exit→Act→World→Prop} {S:World→Prop} {fuel:Nat} {listed:Array Bool} {a:Act} {w:World}
theorem comeC {i:Nat} {o:Oper} {d:Option Tmp} {R:Value→World→Prop} {rs:List Nat} (ho:ops[i]? = some o) (hd:o.dst=d) (hw:Region.wanted o (yielded ops a.tmps)=true)
 (step:∀ K:Act→World→Prop,(∀ v w',R v w'→K (a.put o.dst v) w')→Oper.wp P o a w K Q) (hS:∀ v w',R v w'→S w')
 (h:∀ v w',R v w'→wpAnyH P md ops Q S fuel (listed.setIfInBounds i true) (a.put d v) w')
 (more:AllReadyH P md ops Q S fuel listed a w rs):AllReadyH P md ops Q S fuel listed a w (i::rs):=by
 subst hd;refine AllReadyH.cons ho (fun K hK=>?_) more;rw[if_pos hw];exact step K (fun v w' hr=>hK.out _ _ (hS v w' hr) (fun _=>h v w' hr))
theorem call_step {o:Oper} {K:Act→World→Prop} {f:FuncId} {args:Array Value} {R:Value→World→Prop} (hx:(execOp a.eval o).run P w = .ok (.enter f args) w)
 (hc:Calls P f args w fun e w'=>∃ v,e = .returned v∧R v w') (hK:∀ v w',R v w'→K (a.put o.dst v) w'):Oper.wp P o a w K Q:=by
 unfold Oper.wp;rw[hx];show Calls P f args w _;refine hc.mono ?_;rintro e w' ⟨v,rfl,hr⟩;exact hK v w' hr
end
end Go.Proofs.YtjlaamcklhdhaaaGreatDoor.Path
namespace Go.Proofs.YtjlaamcklhdhaaaGreatDoor.Path
open Go.RowKit Go.Proofs.YtjlaamcklhdhaaaGreatDoorW.PrintWords Go.Proofs.YtjlaamcklhdhaaaGreatDoor.Base Go.Proofs.YtjlaamcklhdhaaaGreatDoor.PCore
theorem begins_some (s t:ByteArray):laws_begins.f s t=some ((L t).isPrefixOf (L s)):=by
 unfold laws_begins.f
 have e:∀ r:Bool,(r=true↔(L t) <+: (L s))→(L t).isPrefixOf (L s)=r:=by
  intro r h;rw[Bool.eq_iff_iff,List.isPrefixOf_iff_prefix,h]
 by_cases c:(s.size:Int)≥(t.size:Int)
 ·rw[if_pos c,if_pos (by omega),if_pos (by omega)];refine congrArg some (e _ ?_).symm;rw[L_toList,L_toList,L_extract,beq_iff_eq,Int.toNat_natCast,List.drop_zero,Nat.sub_zero,← L_length];exact ⟨fun h=>h▸List.take_prefix _ _,fun h=>(List.prefix_iff_eq_take.1 h).symm⟩
 ·rw[if_neg c];refine congrArg some (e _ ?_).symm;refine ⟨(fun h=>by cases h),fun h=>?_⟩;have:=h.length_le;rw[L_length,L_length] at this;omega
theorem begins_calls (s t:ByteArray) (w:World):Calls Tryz.prog 18 #[.string s,.string t] w fun e w'=>e = .returned (.bool ((L t).isPrefixOf (L s)))∧Below w.heap.size w w' :=
 (laws_begins.calls s t _ w (begins_some s t)).mono fun _ _ ⟨h1,h2⟩=>⟨h1,h2.below⟩
end Go.Proofs.YtjlaamcklhdhaaaGreatDoor.Path
