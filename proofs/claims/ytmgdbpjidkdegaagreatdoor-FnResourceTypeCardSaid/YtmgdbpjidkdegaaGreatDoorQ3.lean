/- Texts that the law leans on: Acc2, WLast, Apply0. Condition: as told at each. -/
import Derived.OrdersHeld
import Derived.Deep.RegionHeld3
import Derived.Laws.BitsLemmas
import Derived.RowKit
import Derived.StillTailTactics
import Derived.Test.YtmgdbpjidkdegaaGreatDoorQa
import Derived.Test.YtmgdbpjidkdegaaGreatDoorQ2
set_option linter.unusedVariables false
set_option linter.unusedSimpArgs false
namespace Go.Proofs.YtmgdbpjidkdegaaGreatDoor.Path
open Go.RowKit Go.Proofs.YtmgdbpjidkdegaaGreatDoorW.PrintWords Go.Proofs.YtmgdbpjidkdegaaGreatDoor.Base
def frm (s:ByteArray) (a:Int):ByteArray:=s.extract a.toNat s.size
theorem extract_le (s:ByteArray) (a b:Nat):(s.extract a b).size≤s.size:=by
 rw[← L_length,L_extract,← L_length s];exact Nat.le_trans (List.length_take_le' _ _) bI
section
variable {w:World} {B b:Nat} {p:PathV} {vk vu vl u:Value}
def mSection (p:PathV):ByteArray:=if p.sec≤0 then ByteArray.empty else nrm p.trim (sub p.s 1 p.sec)
theorem Section_calls (H:PathAt w B b p vk vu vl u) (O:PathOk p):Calls Tryz.prog 77 #[.pointer (some ⟨b,0,none⟩)] w fun e w'=>e = .returned (.string (mSection p))∧Drawn0 w w':=by
 have h0:=H.row.at 0 _ rfl;have h3:=H.row.at 3 _ rfl;have o1:=O.sz;have o2:=O.se;have HH:=bR H;unfold mSection
 by_cases c:p.sec≤0
 ·rw[if_pos c];clear H O;go_enter Tryz.func77,Tryz.ntmps77;go_wp2_with fail
  go_ret;exact ⟨rfl,Drawn0.refl _⟩
 ·rw[if_neg c];obtain ⟨x,hx⟩:=Int.eq_ofNat_of_zero_le (show 0≤p.sec by omega);rw[hx] at h3 c o2 ⊢;rw[show (1:Int)=((1:Nat):Int) from rfl,sub_nat];have q1:1≤(x:Int):=by omega
  clear hx H O;go_enter Tryz.func77,Tryz.ntmps77;go_wp2_with fail
  go_quiet ((go_at_call 114;exact Calls.quiet_of_same (norm_calls (HH.out.drewN _) _)))
  go_wp2_with fail
  go_ret;exact ⟨rfl,⟨_,rfl⟩⟩
def mName (p:PathV):ByteArray:=frm p.s p.cHigh
theorem Name_calls (H:PathAt w B b p vk vu vl u) (O:PathOk p):Calls Tryz.prog 78 #[.pointer (some ⟨b,0,none⟩)] w fun e w'=>e = .returned (.string (mName p))∧Drawn0 w w':=by
 have h0:=H.row.at 0 _ rfl;have h2:=H.row.at 2 _ rfl;have o1:=O.sz;obtain ⟨o2,o3⟩:=O.ch;unfold mName frm;obtain ⟨y,hy⟩:=Int.eq_ofNat_of_zero_le (show 0≤p.cHigh by omega);rw[hy] at h2 o2 o3 ⊢;have q:decide (0 < (y:Int))=true:=decide_eq_true bA;clear hy H O;go_enter Tryz.func78,Tryz.ntmps78;go_wp2_with fail
 go_quiet (fail)
 go_wp2_with fail
 go_ret;exact ⟨rfl,⟨_,rfl⟩⟩
def mDir (p:PathV):ByteArray:=nrm p.trim (if p.cHigh=1 then ⟨#[47]⟩ else sub p.s 0 (p.cHigh - 1))
theorem Dir_calls (H:PathAt w B b p vk vu vl u) (O:PathOk p):Calls Tryz.prog 82 #[.pointer (some ⟨b,0,none⟩)] w fun e w'=>e = .returned (.string (mDir p))∧Drawn0 w w':=by
 have h0:=H.row.at 0 _ rfl;have h2:=H.row.at 2 _ rfl;have o1:=O.sz;obtain ⟨o2,o3⟩:=O.ch;have HH:=bR H;unfold mDir;obtain ⟨y,hy⟩:=Int.eq_ofNat_of_zero_le (show 0≤p.cHigh by omega);rw[hy] at h2 o2 o3 ⊢;have q:decide (0 < (y:Int))=true:=decide_eq_true bA;have q2:((y - 1:Nat):Int)≤p.s.size:=by omega
 have hyc:IntKind.i64.wrap ((y:Int) - 1)=((y - 1:Nat):Int):=by rw[IntWalk.i64_in _ bA];omega
 by_cases c:y=1
 ·subst c;rw[if_pos (show ((1:Nat):Int)=1 from rfl)];have h2' : w.cell? ⟨b,2,none⟩=some (.int .i64 1):=h2;clear h2 q q2 hyc;have hyc:IntKind.i64.wrap ((1:Int) - 1)=0:=by rfl
  have he:(p.s.extract 0 0).toList=[]:=by rw[L_toList,L_extract];simp
  clear hy H O;go_enter Tryz.func82,Tryz.ntmps82;go_wp2_with fail
  go_quiet (fail)
  go_wp2_with fail
  (with_reducible refine (norm_calls (HH.out.drewN _) _).mono ?_)
  rintro e w' ⟨rfl,rfl⟩;go_wp2_with fail
  go_ret;exact ⟨rfl,⟨_,rfl⟩⟩
 ·rw[if_neg bA,show ((y:Int) - 1)=((y - 1:Nat):Int) from by omega,show (0:Int)=((0:Nat):Int) from rfl,sub_nat]
  have he:(p.s.extract 0 (y - 1)).toList.isEmpty=false:=by
   have hl:=L_length p.s;rw[L_toList,L_extract,List.isEmpty_eq_false_iff,← List.length_pos_iff]
   simp;omega
  have he2:((p.s.extract 0 (y - 1)).toList==[])=false:=by
   rw[beq_eq_false_iff_ne];intro h;rw[h] at he;cases he
  clear hy H O;go_enter Tryz.func82,Tryz.ntmps82;go_wp2_with fail
  go_quiet (fail)
  go_wp2_with fail
  (with_reducible refine (norm_calls (HH.out.drewN _) _).mono ?_)
  rintro e w' ⟨rfl,rfl⟩;go_wp2_with fail
  go_ret;exact ⟨rfl,⟨_,rfl⟩⟩
def mContainerDir (p:PathV):ByteArray:=if p.cLow = -1∨¬ (3≤p.typ∧p.typ≤5) then mDir p else nrm p.trim (sub p.s 0 (p.cLow - 1))
theorem ContainerDir_calls (H:PathAt w B b p vk vu vl u) (O:PathOk p):Calls Tryz.prog 76 #[.pointer (some ⟨b,0,none⟩)] w fun e w'=>e = .returned (.string (mContainerDir p))∧Drawn0 w w':=by
 have h0:=H.row.at 0 _ rfl;have h1:=H.row.at 1 _ rfl;have o1:=O.sz;obtain ⟨o2,o3⟩:=O.ch;have HH:=bR H;have cb:=IsBundle_calls H;have cd:=Dir_calls H O;unfold mContainerDir;rcases O.cl with c | ⟨c1,c2⟩
 ·rw[if_pos (.inl c)];rw[c] at h1;clear c H O;go_enter Tryz.func76,Tryz.ntmps76;go_wp2_with fail
  (with_reducible refine cd.mono ?_)
  rintro e w' ⟨rfl,hd⟩;have HD:=bR hd;clear hd;go_wp2_with fail
  go_ret;exact ⟨rfl,HD.out⟩
 ·have hne:(p.cLow == -1)=false:=beq_eq_false_iff_ne.2 bA
  by_cases t:3≤p.typ∧p.typ≤5
  ·rw[if_neg (fun h=>h.elim (fun h=>by omega) (fun h=>h t))];rw[decide_eq_true t] at cb;obtain ⟨x,hx⟩:=Int.eq_ofNat_of_zero_le (show 0≤p.cLow by omega);rw[hx] at h1 hne c1 c2 ⊢;rw[show ((x:Int) - 1)=((x - 1:Nat):Int) from by omega,show (0:Int)=((0:Nat):Int) from rfl,sub_nat];have hyc:IntKind.i64.wrap ((x:Int) - 1)=((x - 1:Nat):Int):=by rw[IntWalk.i64_in _ bA];omega
   have q2:((x - 1:Nat):Int)≤p.s.size:=by omega
   clear hx t H O cd;go_enter Tryz.func76,Tryz.ntmps76;go_wp2_with fail
   (with_reducible refine cb.mono ?_)
   rintro e w' ⟨rfl,rfl⟩;go_wp2_with fail
   go_quiet ((go_at_call 114;exact Calls.quiet_of_same (norm_calls (HH.out.drewN _) _)))
   go_wp2_with fail
   go_ret;exact ⟨rfl,⟨_,rfl⟩⟩
  ·rw[if_pos (.inr t)];rw[decide_eq_false t] at cb;clear t H O;go_enter Tryz.func76,Tryz.ntmps76;go_wp2_with fail
   (with_reducible refine cb.mono ?_)
   rintro e w' ⟨rfl,rfl⟩;go_wp2_with fail
   (with_reducible refine cd.mono ?_)
   rintro e w' ⟨rfl,hd⟩;have HD:=bR hd;clear hd;go_wp2_with fail
   go_ret;exact ⟨rfl,HD.out⟩
def mNameNoId (p:PathV):ByteArray:=sub p.s p.nLow p.nHigh
theorem nameLowHigh_calls (H:PathAt w B b p vk vu vl u):Calls Tryz.prog 116 #[.pointer (some ⟨b,0,none⟩)] w fun e w'=>e = .returned (.agg #[.int .i64 p.nLow,.int .i64 p.nHigh])∧Below w.heap.size w w':=by
 have h20:=H.row.at 20 _ rfl;have h21:=H.row.at 21 _ rfl;have hb:=H.lt;clear H;go_enter Tryz.func116,Tryz.ntmps116;go_wp2_with fail
 exact bodyPost_ret (v:=.agg #[.int .i64 p.nLow,.int .i64 p.nHigh]) (by simp[results,Tryz.results116,go_sem]) rfl ⟨rfl,(Below.refl _ _).alloc (Nat.le_refl _) _⟩
theorem NameNoIdentifier_calls (H:PathAt w B b p vk vu vl u) (O:PathOk p):Calls Tryz.prog 81 #[.pointer (some ⟨b,0,none⟩)] w fun e w'=>e = .returned (.string (mNameNoId p))∧Below w.heap.size w w':=by
 have o1:=O.sz;obtain ⟨o2,o3,o4⟩:=O.na;have c:=nameLowHigh_calls H;unfold mNameNoId;obtain ⟨x,hx⟩:=Int.eq_ofNat_of_zero_le (show 0≤p.nLow by omega);obtain ⟨y,hy⟩:=Int.eq_ofNat_of_zero_le (show 0≤p.nHigh by omega);rw[hx] at c o2 o3 ⊢;rw[hy] at c o3 o4 ⊢;rw[sub_nat];have HH:=bR H;clear hx hy H O;go_enter Tryz.func81,Tryz.ntmps81;go_wp2_with fail
 (with_reducible refine c.mono ?_)
 rintro e w1 ⟨rfl,hd⟩;have h0:=(HH.out.below hd).row.at 0 _ rfl;have hb:=(HH.out.below hd).lt;have HD:=bR hd;clear hd;go_wp2_with fail
 go_quiet (fail)
 go_wp2_with fail
 go_ret;exact ⟨rfl,below_step (HD.out.alloc HD.out.size _) (Drawn0.below ⟨⟨_,rfl⟩⟩)⟩
theorem BaseNameNoIdentifier_calls (H:PathAt w B b p vk vu vl u) (O:PathOk p):Calls Tryz.prog 80 #[.pointer (some ⟨b,0,none⟩)] w fun e w'=>e = .returned (.string (if 3≤p.typ∧p.typ≤5 then mContainer p else mNameNoId p))∧Below w.heap.size w w':=by
 have cb:=IsBundle_calls H;have c1:=Container_calls H O;have c2:=NameNoIdentifier_calls H O
 by_cases t:3≤p.typ∧p.typ≤5
 ·rw[if_pos t];rw[decide_eq_true t] at cb;clear t H O c2;go_enter Tryz.func80,Tryz.ntmps80;go_wp2_with fail
  (with_reducible refine cb.mono ?_)
  rintro e w' ⟨rfl,rfl⟩;go_wp2_with fail
  (with_reducible refine c1.mono ?_)
  rintro e w' ⟨rfl,hd⟩;have HD:=bR hd;clear hd;go_wp2_with fail
  go_ret;exact ⟨rfl,HD.out.below⟩
 ·rw[if_neg t];rw[decide_eq_false t] at cb;clear t H O c1;go_enter Tryz.func80,Tryz.ntmps80;go_wp2_with fail
  (with_reducible refine cb.mono ?_)
  rintro e w' ⟨rfl,rfl⟩;go_wp2_with fail
  (with_reducible refine c2.mono ?_)
  rintro e w' ⟨rfl,hd⟩;have HD:=bR hd;clear hd;go_wp2_with fail
  go_ret;exact ⟨rfl,HD.out⟩
def mIdx (p:PathV) (i:Int):Int:=if i < 0∨(p.known.length:Int)≤i then -1 else i
theorem identifierIndex_calls (H:PathAt w B b p vk vu vl u) (i:Int):Calls Tryz.prog 115 #[.pointer (some ⟨b,0,none⟩),.int .i64 i] w fun e w'=>e = .returned (.int .i64 (mIdx p i))∧w'=w:=by
 have h6:=H.row.at 6 _ rfl;obtain ⟨A,c,hv⟩:=own_slice H.ok;rw[hv] at h6;clear hv H;unfold mIdx
 by_cases t:i < 0
 ·rw[if_pos (.inl t)];go_enter Tryz.func115,Tryz.ntmps115;go_wp2_with fail
  go_ret;exact ⟨rfl,rfl⟩
 ·by_cases t2:(p.known.length:Int)≤i
  ·rw[if_pos (.inr t2)];go_enter Tryz.func115,Tryz.ntmps115;go_wp2_with fail
   go_ret;exact ⟨rfl,rfl⟩
  ·rw[if_neg bA];go_enter Tryz.func115,Tryz.ntmps115;go_wp2_with fail
   go_ret;exact ⟨rfl,rfl⟩
def mIdStr (p:PathV) (i:Int):ByteArray:=if i < 0 then ByteArray.empty else match p.known[i.toNat]? with | some x=>sub p.s x.1 x.2 | none=>ByteArray.empty
theorem identifierAsString_calls (H:PathAt w B b p vk vu vl u) (O:PathIn p) (i:Int):Calls Tryz.prog 119 #[.pointer (some ⟨b,0,none⟩),.int .i64 i] w fun e w'=>e = .returned (.string (mIdStr p i))∧Below w.heap.size w w':=by
 have c:=identifierIndex_calls H i;have o1:=O.sz
 by_cases t:i < 0∨(p.known.length:Int)≤i
 ·have e1:mIdx p i = -1:=by unfold mIdx;rw[if_pos t]
  have e2:mIdStr p i=ByteArray.empty:=by
   unfold mIdStr
   by_cases t2:i < 0
   ·rw[if_pos t2]
   ·rw[if_neg t2,List.getElem?_eq_none bA]
  rw[e1] at c;rw[e2];clear e1 e2 t H O;go_enter Tryz.func119,Tryz.ntmps119;go_wp2_with fail
  (with_reducible refine c.mono ?_)
  rintro e w' ⟨rfl,rfl⟩;go_wp2_with fail
  go_ret;exact ⟨rfl,Below.refl _ _⟩
 ·obtain ⟨n,rfl⟩:=Int.eq_ofNat_of_zero_le (show 0≤i by omega);have hn:n < p.known.length:=by omega
  obtain ⟨x,hx⟩:∃ x,p.known[n]? = some x:=⟨_,List.getElem?_eq_getElem hn⟩
  obtain ⟨q1,q2,q3⟩:=O.kn x (List.mem_of_getElem? hx);have e1:mIdx p n=n:=by unfold mIdx;rw[if_neg t]
  have e2:mIdStr p n=sub p.s x.1 x.2:=by
   unfold mIdStr;rw[if_neg bA,Int.toNat_natCast,hx]
  rw[e1] at c;rw[e2];have h0:=H.row.at 0 _ rfl;have h6:=H.row.at 6 _ rfl;obtain ⟨g,cp,hv,k1,k2⟩:=H.knownAt n x hx;rw[hv] at h6;have hb:=H.lt;have hg:g < w.heap.size:=World.block_lt_of_cell? w ⟨g,n * 2,none⟩ k1;obtain ⟨lo,hlo⟩:=Int.eq_ofNat_of_zero_le (show 0≤x.1 by omega);obtain ⟨hi,hhi⟩:=Int.eq_ofNat_of_zero_le (show 0≤x.2 by omega);rw[hlo] at k1 q1 q2 ⊢;rw[hhi] at k2 q2 q3 ⊢;rw[sub_nat];have hnm:((n:Int) == -1)=false:=beq_eq_false_iff_ne.2 bA;have hn2:(n:Int) < p.known.length:=by omega
  clear e1 e2 t H O hx hlo hhi hv;go_enter Tryz.func119,Tryz.ntmps119;go_wp2_with fail
  (with_reducible refine c.mono ?_)
  rintro e w' ⟨rfl,rfl⟩;go_wp2_with fail
  go_quiet (fail)
  go_wp2_with fail
  go_ret;exact ⟨rfl,below_step ((Below.refl _ _).alloc (Nat.le_refl _) _) (Drawn0.below ⟨⟨_,rfl⟩⟩)⟩
end
end Go.Proofs.YtmgdbpjidkdegaaGreatDoor.Path
namespace Go.Proofs.YtmgdbpjidkdegaaGreatDoorW.PrintLast
section
variable {P:Program} {ops:Array Oper} {Q:Exit→Act→World→Prop} {md:Region.Mode} {S:World→Prop} {ds:List Nat}
def Region.reachB (md:Region.Mode) (ops:Array Oper) (i:Nat):Nat→Nat→Bool
 | 0,_=>false
 | fuel+1,d=>match ops[d]? with
  | some o=>o.after.any fun e=>Region.binds md e && (e.on==i || Region.reachB md ops i fuel e.on)
  | none=>false
def Region.closedB (md:Region.Mode) (ops:Array Oper) (listed:Array Bool):Bool :=
 (List.range ops.size).all fun j=>!listed.getD j false || match ops[j]? with
  | some o=>o.after.all fun e=>!Region.binds md e || listed.getD e.on false
  | none=>true
def Region.lastB (md:Region.Mode) (ops:Array Oper) (listed:Array Bool) (ds:List Nat) (i:Nat):Bool :=
 ds.all fun d=>listed.getD d true || Region.reachB md ops i ops.size d
def ListedClosed (md:Region.Mode) (ops:Array Oper) (listed:Array Bool):Prop :=
 ∀ j oj,ops[j]? = some oj→listed.getD j false=true→∀ e∈oj.after,Region.binds md e=true→listed.getD e.on false=true
theorem Region.closedB_spec {listed:Array Bool} (h:Region.closedB md ops listed=true):ListedClosed md ops listed:=by
 intro j oj hj hl e he hb;have hlt:j < ops.size:=(Array.getElem?_eq_some_iff.1 hj).1;have h1:=List.all_eq_true.1 h j (List.mem_range.2 hlt);simp only[hl,hj,Bool.not_true,Bool.false_or] at h1;have h2:=Array.all_eq_true_iff_forall_mem.1 h1 e he
 simpa [hb] using h2
theorem ListedClosed.set {listed:Array Bool} {i:Nat} (h:ListedClosed md ops listed) (hi:i∈Region.ready md ops listed):ListedClosed md ops (listed.setIfInBounds i true):=by
 obtain ⟨_,oi,hoi,hall⟩:=mem_ready.1 hi;intro j oj hj hl e he hb
 by_cases hij:i=j
 ·subst hij;have:oj=oi:=Option.some.inj (hj.symm.trans hoi);subst this;exact getD_set_true (hall e he hb)
 ·rw[getD_set_ne false hij] at hl;exact getD_set_true (h j oj hj hl e he hb)
theorem Region.reach_listed {listed:Array Bool} {i:Nat} (hc:ListedClosed md ops listed):∀ (fuel d:Nat),Region.reachB md ops i fuel d=true→listed.getD d false=true→listed.getD i false=true
 | 0,_,h,_=>by simp[Region.reachB] at h
 | fuel+1,d,h,hl=>by
  unfold Region.reachB at h
  cases ho:ops[d]? with
  | none=>rw[ho] at h;simp at h
  | some o =>
   rw[ho] at h;obtain ⟨e,he,h1⟩:=Array.any_eq_true'.1 h;simp only[Bool.and_eq_true,Bool.or_eq_true,beq_iff_eq] at h1;have hle:=hc d o ho hl e he h1.1;rcases h1.2 with h2 | h2
   ·rw[← h2];exact hle
   ·exact Region.reach_listed hc fuel e.on h2 hle
theorem Region.reach_not_ready {listed:Array Bool} {i d fuel:Nat} (hc:ListedClosed md ops listed) (hr:Region.reachB md ops i fuel d=true) (hun:listed.getD i true=false):d∉Region.ready md ops listed:=by
 intro hd;obtain ⟨_,o,ho,hall⟩:=mem_ready.1 hd
 have hi:listed.getD i false=true:=by
  cases fuel with
  | zero=>simp[Region.reachB] at hr
  | succ n =>
   unfold Region.reachB at hr;rw[ho] at hr;obtain ⟨e,he,h1⟩:=Array.any_eq_true'.1 hr;simp only[Bool.and_eq_true,Bool.or_eq_true,beq_iff_eq] at h1;have hle:=hall e he h1.1;rcases h1.2 with h2 | h2
   ·rw[← h2];exact hle
   ·exact Region.reach_listed hc n e.on h2 hle
 rcases Nat.lt_or_ge i listed.size with h' | h'
 ·simp[h'] at hun hi
  rw[hun] at hi;cases hi
 ·simp[Array.getElem?_eq_none h'] at hun
def wpAnyLast (P:Program) (md:Region.Mode) (ops:Array Oper) (Q:Exit→Act→World→Prop) (S:World→Prop) (ds:List Nat):Nat→Array Bool→Act→World→Prop
 | 0,listed,a,w=>Region.ready md ops listed=[]∧Q .normal a w
 | fuel+1,listed,a,w =>
  (Region.ready md ops listed=[]→Q .normal a w) ∧
  ∀ i∈Region.ready md ops listed,wpOp P ops Q i (fun a' w'=>(i∉ds→S w→S w')∧wpAnyLast P md ops Q S ds fuel (listed.setIfInBounds i true) a' w') a w
theorem wpAny_of_last:∀ (fuel:Nat) (listed:Array Bool) (a:Act) (w:World),wpAnyLast P md ops Q S ds fuel listed a w→wpAny P md ops Q fuel listed a w
 | 0,_,_,_,h=>h
 | fuel+1,_,_,_,h=>⟨h.1,fun i hi=>wpOp_mono (fun a' w' h'=>wpAny_of_last fuel _ a' w' h'.2) (h.2 i hi)⟩
theorem wpAnyLast_first {i:Nat} {oi:Oper} {v:Value} (hi:ops[i]? = some oi) (hsel:∀ (j:Nat) (o:Oper) cs b,ops[j]? = some o→o.op≠.select cs b)
 (hQ:∀ c a w,Q (.panic c) (a.put oi.dst v) w→Q (.panic c) a w) (n:Nat) :
 ∀ (fuel:Nat) (listed:Array Bool) (a:Act) (w:World),
  (∀ j oj,ops[j]? = some oj→j≠i→listed.getD j true=false→(∀ e∈oj.after,Region.binds md e=true→e.on≠i)→oi.apart ops oj=true) →
  ListedClosed md ops listed→(∀ d∈ds,listed.getD d true=false→Region.reachB md ops i n d=true) →
  i∈Region.ready md ops listed→YieldsIf P ops S oi v a→S w →
  wpAnyLast P md ops Q S ds fuel (listed.setIfInBounds i true) (a.put oi.dst v) w→wpAnyLast P md ops Q S ds (fuel+1) listed a w:=by
 intro fuel
 induction fuel with
 | zero =>
  intro listed a w _ _ _ hr hy hS H;refine ⟨fun h=>(by rw[h] at hr;cases hr),fun j hj=>?_⟩
  by_cases hji:j=i
  ·subst hji;exact hy.wpOp hi hS ⟨fun _ h=>h,H⟩
  ·have:=ready_mono hj hji;rw[H.1] at this;cases this
 | succ fuel ih =>
  intro listed a w hfree hc hd hr hy hS H;refine ⟨fun h=>(by rw[h] at hr;cases hr),fun j hj=>?_⟩
  by_cases hji:j=i
  ·subst hji;exact hy.wpOp hi hS ⟨fun _ h=>h,H⟩
  ·have h1:=H.2 j (ready_mono hj hji);obtain ⟨hjun,oj,hoj,hall⟩:=mem_ready.1 hj;have hiun:=(mem_ready.1 hr).1
   have hnot:∀ e∈oj.after,Region.binds md e=true→e.on≠i:=fun e he hb heq=>by
    have h1:=hall e he hb;rw[heq] at h1;rcases Nat.lt_or_ge i listed.size with h' | h'
    ·simp[h'] at hiun h1;rw[hiun] at h1;cases h1
    ·simp[Array.getElem?_eq_none h'] at h1
   have hjd:j∉ds:=fun hm=>Region.reach_not_ready hc (hd j hm hjun) hiun hj;have h2:=wpOp_putIf hoj (hfree j oj hoj hji hjun hnot) (fun cs b=>hsel i oi cs b hi) (fun cs b=>hsel j oj cs b hoj) hQ hy h1
   have hfree' : ∀ k ok,ops[k]? = some ok→k≠i→(listed.setIfInBounds j true).getD k true=false →
    (∀ e∈ok.after,Region.binds md e=true→e.on≠i)→oi.apart ops ok=true:=fun k ok hk hki hun hno=>by
    refine hfree k ok hk hki ?_ hno
    by_cases hjk:j=k
    ·subst hjk;exact hjun
    ·rw[getD_set_ne true hjk] at hun;exact hun
   have hd' : ∀ d∈ds,(listed.setIfInBounds j true).getD d true=false→Region.reachB md ops i n d=true:=fun d hm hun=>by
    refine hd d hm ?_
    by_cases hjk:j=d
    ·subst hjk;exact hjun
    ·rw[getD_set_ne true hjk] at hun;exact hun
   refine wpOp_mono (fun a' w' h3=>⟨h3.2.1,ih (listed.setIfInBounds j true) a' w' hfree' (hc.set hj) hd' (ready_mono hr (Ne.symm hji)) h3.1 (h3.2.1 hjd hS) ?_⟩) h2;rw[Array.setIfInBounds_comm _ _ hji];exact h3.2.2
theorem wpAnyLast_any {i:Nat} {oi:Oper} {v:Value} (hi:ops[i]? = some oi) (hsel:∀ (j:Nat) (o:Oper) cs b,ops[j]? = some o→o.op≠.select cs b)
 (hQ:∀ c a w,Q (.panic c) (a.put oi.dst v) w→Q (.panic c) a w) :
 ∀ (fuel:Nat) (listed:Array Bool) (a:Act) (w:World),
  (∀ j oj,ops[j]? = some oj→j≠i→listed.getD j true=false→(∀ e∈oj.after,Region.binds md e=true→e.on≠i)→oi.apart ops oj=true) →
  i∈Region.ready md ops listed→Yields P ops oi v a →
  wpAnyLast P md ops Q S ds fuel (listed.setIfInBounds i true) (a.put oi.dst v) w→wpAnyLast P md ops Q S ds (fuel+1) listed a w:=by
 intro fuel
 induction fuel with
 | zero =>
  intro listed a w _ hr hy H;refine ⟨fun h=>(by rw[h] at hr;cases hr),fun j hj=>?_⟩
  by_cases hji:j=i
  ·subst hji;exact (hy.yieldsIf (S:=fun _=>True)).wpOp hi trivial ⟨fun _ h=>h,H⟩
  ·have:=ready_mono hj hji;rw[H.1] at this;cases this
 | succ fuel ih =>
  intro listed a w hfree hr hy H;refine ⟨fun h=>(by rw[h] at hr;cases hr),fun j hj=>?_⟩
  by_cases hji:j=i
  ·subst hji;exact (hy.yieldsIf (S:=fun _=>True)).wpOp hi trivial ⟨fun _ h=>h,H⟩
  ·have h1:=H.2 j (ready_mono hj hji);obtain ⟨hjun,oj,hoj,hall⟩:=mem_ready.1 hj;have hiun:=(mem_ready.1 hr).1
   have hnot:∀ e∈oj.after,Region.binds md e=true→e.on≠i:=fun e he hb heq=>by
    have h1:=hall e he hb;rw[heq] at h1;rcases Nat.lt_or_ge i listed.size with h' | h'
    ·simp[h'] at hiun h1;rw[hiun] at h1;cases h1
    ·simp[Array.getElem?_eq_none h'] at h1
   have h2:=wpOp_put hoj (hfree j oj hoj hji hjun hnot) (fun cs b=>hsel i oi cs b hi) (fun cs b=>hsel j oj cs b hoj) hQ hy h1
   have hfree' : ∀ k ok,ops[k]? = some ok→k≠i→(listed.setIfInBounds j true).getD k true=false →
    (∀ e∈ok.after,Region.binds md e=true→e.on≠i)→oi.apart ops ok=true:=fun k ok hk hki hun hno=>by
    refine hfree k ok hk hki ?_ hno
    by_cases hjk:j=k
    ·subst hjk;exact hjun
    ·rw[getD_set_ne true hjk] at hun;exact hun
   refine wpOp_mono (fun a' w' h3=>⟨h3.2.1,ih (listed.setIfInBounds j true) a' w' hfree' (ready_mono hr (Ne.symm hji)) h3.1 ?_⟩) h2;rw[Array.setIfInBounds_comm _ _ hji];exact h3.2.2
theorem wpAnyLast_take {i:Nat} {oi:Oper} {v:Value} {fuel:Nat} {listed:Array Bool} {a:Act} {w:World} (hi:ops[i]? = some oi)
 (hs:Region.noSelect ops=true) (hf:Region.free md ops listed i=true) (hr:(Region.ready md ops listed).contains i=true)
 (hc:Region.closedB md ops listed=true) (hl:Region.lastB md ops listed ds i=true)
 (hQ:∀ c a w,Q (.panic c) (a.put oi.dst v) w→Q (.panic c) a w) (hy:YieldsIf P ops S oi v a) (hS:S w)
 (h:wpAnyLast P md ops Q S ds fuel (listed.setIfInBounds i true) (a.put oi.dst v) w):wpAnyLast P md ops Q S ds (fuel+1) listed a w :=
 wpAnyLast_first hi (Region.noSelect_spec hs) hQ ops.size fuel listed a w (Region.free_spec hi hf) (Region.closedB_spec hc)
  (fun d hm hun=>by have:=List.all_eq_true.1 hl d hm;rw[hun] at this;simpa using this) (by simpa using hr) hy hS h
theorem wpAnyLast_all {rs:List Nat} {fuel:Nat} {listed:Array Bool} {a:Act} {w:World} (hr:Region.ready md ops listed=rs) (hne:rs≠[])
 (h:∀ i∈rs,wpOp P ops Q i (fun a' w'=>(i∉ds→S w→S w')∧wpAnyLast P md ops Q S ds fuel (listed.setIfInBounds i true) a' w') a w):wpAnyLast P md ops Q S ds (fuel+1) listed a w :=
 ⟨fun h0=>absurd (hr▸h0) hne,hr▸h⟩
theorem wpAnyLast_done {listed:Array Bool} {a:Act} {w:World} (hr:Region.ready md ops listed=[]) (h:Q .normal a w) :
 ∀ fuel,wpAnyLast P md ops Q S ds fuel listed a w
 | 0=>⟨hr,h⟩
 | _+1=>⟨fun _=>h,by rw[hr];simp⟩
theorem wp_region_last {id:Nat} {a:Act} {w:World} (hm:P.follows .mixedOrders=true)
 (h:wpAnyLast P .any ops Q S ds ops.size (Array.replicate ops.size false) a { w with drawn:=w.drawn+1 }):(Code.region id ops true).wp P Q a w :=
 wp_region_any hm (wpAny_of_last _ _ _ _ h)
end
section
variable {P:Program} {ops:Array Oper} {Q:Exit→Act→World→Prop} {md:Region.Mode} {S:World→Prop} {ds:List Nat}
def AllReadyL (P:Program) (md:Region.Mode) (ops:Array Oper) (Q:Exit→Act→World→Prop) (S:World→Prop) (ds:List Nat) (fuel:Nat) (listed:Array Bool) (a:Act) (w:World) (rs:List Nat):Prop :=
 ∀ i∈rs,wpOp P ops Q i (fun a' w'=>(i∉ds→S w→S w')∧wpAnyLast P md ops Q S ds fuel (listed.setIfInBounds i true) a' w') a w
theorem AllReadyL.nil {fuel:Nat} {listed:Array Bool} {a:Act} {w:World}:AllReadyL P md ops Q S ds fuel listed a w []:=fun _ h=>by cases h
theorem AllReadyL.cons {fuel:Nat} {listed:Array Bool} {a:Act} {w:World} {i:Nat} {o:Oper} {rs:List Nat} (ho:ops[i]? = some o) (hd:i∉ds)
 (h:∀ K' : Act→World→Prop,Shut (∀ a w,S w→(S w→wpAnyLast P md ops Q S ds fuel (listed.setIfInBounds i true) a w)→K' a w)→if Region.wanted o (yielded ops a.tmps)=true then Oper.wp P o a w K' Q else K' (a.put o.dst undef) w)
 (hs:AllReadyL P md ops Q S ds fuel listed a w rs):AllReadyL P md ops Q S ds fuel listed a w (i::rs):=fun j hj=>by
 rcases List.mem_cons.1 hj with rfl | hj
 ·exact wpOp_step ho (fun K' hK=>h K' (fun a w hS hW=>hK a w ⟨fun _ _=>hS,hW hS⟩))
 ·exact hs j hj
theorem AllReadyL.cons_last {fuel:Nat} {listed:Array Bool} {a:Act} {w:World} {i:Nat} {o:Oper} {rs:List Nat} (ho:ops[i]? = some o) (hd:i∈ds)
 (h:∀ K' : Act→World→Prop,Shut (∀ a w,wpAnyLast P md ops Q S ds fuel (listed.setIfInBounds i true) a w→K' a w)→if Region.wanted o (yielded ops a.tmps)=true then Oper.wp P o a w K' Q else K' (a.put o.dst undef) w)
 (hs:AllReadyL P md ops Q S ds fuel listed a w rs):AllReadyL P md ops Q S ds fuel listed a w (i::rs):=fun j hj=>by
 rcases List.mem_cons.1 hj with rfl | hj
 ·exact wpOp_step ho (fun K' hK=>h K' (fun a w hW=>hK a w ⟨fun hn=>absurd hd hn,hW⟩))
 ·exact hs j hj
theorem wpAnyLast_ready {rs:List Nat} {fuel:Nat} {listed:Array Bool} {a:Act} {w:World} (hr:Region.ready md ops listed=rs) (hne:rs≠[])
 (h:AllReadyL P md ops Q S ds fuel listed a w rs):wpAnyLast P md ops Q S ds (fuel+1) listed a w:=wpAnyLast_all hr hne h
theorem start_ {id n:Nat} {a:Act} {w:World} (l:Array Bool) (hm:P.follows .mixedOrders=true) (hn:ops.size=n) (hl:Array.replicate n false=l) (hS:S w.drew)
 (h:S w.drew→wpAnyLast P .any ops Q S ds n l a w.drew):(Code.region id ops true).wp P Q a w:=by
 subst hn;subst hl;exact wp_region_last hm (h hS)
def takeB (md:Region.Mode) (ops:Array Oper) (ds:List Nat) (l l' : Array Bool) (i:Nat):Bool :=
 Region.noSelect ops && Region.free md ops l i && (Region.ready md ops l).contains i && Region.closedB md ops l && Region.lastB md ops l ds i && (l.setIfInBounds i true==l')
theorem take_ {i:Nat} {N:Option Tmp} {oi:Oper} {v:Value} {fuel:Nat} {l:Array Bool} {a:Act} {w:World} (l' : Array Bool) (hi:ops[i]? = some oi) (hN:oi.dst=N) (hc:takeB md ops ds l l' i=true)
 (hQ:∀ c a w,Q (.panic c) (a.put oi.dst v) w→Q (.panic c) a w) (hy:YieldsIf P ops S oi v a) (hS:S w) {a' : Act} (ha:a.put N v=a')
 (h:wpAnyLast P md ops Q S ds fuel l' a' w):wpAnyLast P md ops Q S ds (fuel+1) l a w:=by
 subst ha;subst hN;simp only[takeB,Bool.and_eq_true,beq_iff_eq] at hc;obtain ⟨⟨⟨⟨⟨h1,h2⟩,h3⟩,h4⟩,h5⟩,h6⟩:=hc;subst h6;exact wpAnyLast_take hi h1 h2 h3 h4 h5 hQ hy hS h
def anyB (md:Region.Mode) (ops:Array Oper) (l l' : Array Bool) (i:Nat):Bool :=
 Region.noSelect ops && Region.free md ops l i && (Region.ready md ops l).contains i && (l.setIfInBounds i true==l')
theorem pure_ {i:Nat} {N:Option Tmp} {oi:Oper} {v:Value} {fuel:Nat} {l:Array Bool} {a:Act} {w:World} (l' : Array Bool) (hi:ops[i]? = some oi) (hN:oi.dst=N) (hc:anyB md ops l l' i=true)
 (hQ:∀ c a w,Q (.panic c) (a.put oi.dst v) w→Q (.panic c) a w) (hy:Yields P ops oi v a) {a' : Act} (ha:a.put N v=a')
 (h:wpAnyLast P md ops Q S ds fuel l' a' w):wpAnyLast P md ops Q S ds (fuel+1) l a w:=by
 subst ha;subst hN;simp only[anyB,Bool.and_eq_true,beq_iff_eq] at hc;obtain ⟨⟨⟨h1,h2⟩,h3⟩,h6⟩:=hc;subst h6;exact wpAnyLast_any hi (Region.noSelect_spec h1) hQ fuel l a w (Region.free_spec hi h2) (by simpa using h3) hy h
def readyB (md:Region.Mode) (ops:Array Oper) (l l' : Array Bool) (i:Nat):Bool:=(Region.ready md ops l==[i]) && (l.setIfInBounds i true==l')
theorem one_ {i:Nat} {N:Option Tmp} {oi:Oper} {fuel:Nat} {l:Array Bool} {a:Act} {w:World} (l' : Array Bool) (hi:ops[i]? = some oi) (hN:oi.dst=N) (hc:readyB md ops l l' i=true) (hd:i∉ds)
 (h:∀ K:Act→World→Prop,Shut (∀ a' w',S w'→(S w'→wpAnyLast P md ops Q S ds fuel l' a' w')→K a' w')→if Region.wanted oi (yielded ops a.tmps)=true then Oper.wp P oi a w K Q else K (a.put N undef) w) :
 wpAnyLast P md ops Q S ds (fuel+1) l a w:=by
 subst hN;simp only[readyB,Bool.and_eq_true,beq_iff_eq] at hc;obtain ⟨h1,h2⟩:=hc;subst h2;exact wpAnyLast_ready h1 (by simp) (AllReadyL.cons hi hd (fun K hK=>h K hK) AllReadyL.nil)
theorem last_ {i:Nat} {N:Option Tmp} {oi:Oper} {fuel:Nat} {l:Array Bool} {a:Act} {w:World} (l' : Array Bool) (hi:ops[i]? = some oi) (hN:oi.dst=N) (hc:readyB md ops l l' i=true) (hd:i∈ds)
 (h:∀ K:Act→World→Prop,Shut (∀ a' w',wpAnyLast P md ops Q S ds fuel l' a' w'→K a' w')→if Region.wanted oi (yielded ops a.tmps)=true then Oper.wp P oi a w K Q else K (a.put N undef) w) :
 wpAnyLast P md ops Q S ds (fuel+1) l a w:=by
 subst hN;simp only[readyB,Bool.and_eq_true,beq_iff_eq] at hc;obtain ⟨h1,h2⟩:=hc;subst h2;exact wpAnyLast_ready h1 (by simp) (AllReadyL.cons_last hi hd (fun K hK=>h K hK) AllReadyL.nil)
theorem done_ {l:Array Bool} {a:Act} {w:World} {n:Nat} (hr:(Region.ready md ops l==[])=true) (h:Q .normal a w):wpAnyLast P md ops Q S ds n l a w:=wpAnyLast_done (by simpa using hr) h n
theorem norm_ {fuel:Nat} {l:Array Bool} {a a' : Act} {w:World} (ha:a=a') (h:wpAnyLast P md ops Q S ds fuel l a' w):wpAnyLast P md ops Q S ds fuel l a w:=by
 subst ha;exact h
theorem call_ {oi:Oper} {N:Option Tmp} {a:Act} {w:World} {K:Act→World→Prop} (f:FuncId) (args:Array Value) (hw:Region.wanted oi (yielded ops a.tmps)=true) (hN:oi.dst=N) (hrun:(execOp a.eval oi).run P w = .ok (.enter f args) w)
 (h:Calls P f args w fun e w'=>∃ v,e = .returned v∧K (a.put N v) w'):if Region.wanted oi (yielded ops a.tmps)=true then Oper.wp P oi a w K Q else K (a.put N undef) w:=by
 rw[if_pos hw];subst hN;unfold Oper.wp;rw[hrun,Oper.upon_enter];refine h.mono fun e w'' hh=>?_;obtain ⟨v,rfl,hk⟩:=hh;exact hk
theorem enters_ {f:FuncId} {fn:Func} (hf:P.funcs[f]? = some fn) (hname:(fn.name == "runtime.NumGoroutine")=false) (hb:fn.body.isSome=true) (args:Array Value) (w:World):(callFunc f args).run P w = .ok (.enter f args) w:=by
 have h1:fn.name ≠ "runtime.NumGoroutine" := by simpa using hname
 obtain ⟨c,hc⟩:=Option.isSome_iff_exists.1 hb
 simp[callFunc,hf,h1,hc]
theorem goes_ {oi:Oper} {N:Option Tmp} {a:Act} {w:World} {K:Act→World→Prop} {f:FuncId} {fn:Func} {asx:Array Operand} {ts:Array TypeId} (hf:P.funcs[f]? = some fn) (hname:(fn.name == "runtime.NumGoroutine")=false) (hb:fn.body.isSome=true) (args:Array Value)
 (hw:Region.wanted oi (yielded ops a.tmps)=true) (hN:oi.dst=N) (hop:oi.op = .call { callee:=.value (.func f),args:=asx,argTypes:=ts }) (hargs:asx.map a.eval=args)
 (h:Calls P f args w fun e w'=>∃ v,e = .returned v∧K (a.put N v) w'):if Region.wanted oi (yielded ops a.tmps)=true then Oper.wp P oi a w K Q else K (a.put N undef) w:=by
 refine call_ f args hw hN ?_ h;have he:=enters_ hf hname hb args w;unfold execOp
 simp[hop,resolve,Deferred.ofValue,invoke,Act.eval,hargs,he]
theorem goesL_ {rest:List Oper} {oi:Oper} {a:Act} {w:World} (N:Option Tmp) (hd:oi.dst=N) (hg:oi.guard=none) {f:FuncId} {fn:Func} {asx:Array Operand} {ts:Array TypeId} (hf:P.funcs[f]? = some fn) (hname:(fn.name == "runtime.NumGoroutine")=false) (hb:fn.body.isSome=true) (args:Array Value)
 (hop:oi.op = .call { callee:=.value (.func f),args:=asx,argTypes:=ts }) (hargs:asx.map a.eval=args)
 (h:Calls P f args w fun e w'=>∃ v,e = .returned v∧wpList P ops Q rest (a.put N v) w'):wpList P ops Q (oi::rest) a w:=by
 refine wpList_plain hg fun K hK=>?_;have he:=enters_ hf hname hb args w
 have hrun:(execOp a.eval oi).run P w = .ok (.enter f args) w:=by
  unfold execOp
  simp[hop,resolve,Deferred.ofValue,invoke,Act.eval,hargs,he]
 unfold Oper.wp;rw[hrun,Oper.upon_enter];refine h.mono fun e w'' hh=>?_;obtain ⟨v,rfl,hk⟩:=hh;subst hd;exact hK _ _ hk
theorem value_ {oi:Oper} {N:Option Tmp} {a:Act} {w w1:World} {v:Value} {K:Act→World→Prop} (hw:Region.wanted oi (yielded ops a.tmps)=true) (hN:oi.dst=N) (hrun:(execOp a.eval oi).run P w = .ok (.value v) w1)
 (h:K (a.put N v) w1):if Region.wanted oi (yielded ops a.tmps)=true then Oper.wp P oi a w K Q else K (a.put N undef) w:=by
 rw[if_pos hw];subst hN;unfold Oper.wp;rw[hrun];exact h
theorem skip_ {oi:Oper} {a:Act} {w w1:World} {K:Act→World→Prop} (hw:Region.wanted oi (yielded ops a.tmps)=true) (hN:oi.dst=none) (hrun:(execOp a.eval oi).run P w = .ok .skip w1)
 (h:K a w1):if Region.wanted oi (yielded ops a.tmps)=true then Oper.wp P oi a w K Q else K (a.put none undef) w:=by
 rw[if_pos hw];unfold Oper.wp;rw[hrun];show K (a.put oi.dst undef) w1;rw[hN];exact h
theorem i64_w (n:Int):IntKind.i64.wrap n=Go.RowKit.wrap64 n:=by unfold Go.RowKit.wrap64;exact IntKind.wrap_i64 n
theorem i32_w (n:Int):IntKind.i32.wrap n=Go.RowKit.wrap32 n:=by unfold Go.RowKit.wrap32;exact IntKind.wrap_i32 n
end
end Go.Proofs.YtmgdbpjidkdegaaGreatDoorW.PrintLast
set_option linter.unusedSimpArgs false
set_option linter.unusedVariables false
namespace Go.Proofs.YtmgdbpjidkdegaaGreatDoor.Path
open Go.RowKit Go.WideMaps Go.Proofs.YtmgdbpjidkdegaaGreatDoorW.PrintWords Go.Proofs.YtmgdbpjidkdegaaGreatDoorW.PrintLast Go.Proofs.YtmgdbpjidkdegaaGreatDoor.Base
theorem ParserAt.below {w w' : World} {b:Nat} {st:SiteV} {vl vd vf vc:Value} {mb sb fb:Nat} (H:ParserAt w b st vl vd vf vc mb sb fb) (hb:Below w.heap.size w w'):ParserAt w' b st vl vd vf vc mb sb fb:=by
 obtain ⟨n,D,hm,hd⟩:=H.map;refine ⟨H.row.step (hb.block b (H.row.lt bI)),H.site.below hb,?_,n,D,hm.kept (row:=none) ⟨hb.os,hb.tape,hb.output,hb.size,fun k hk _=>hb.block k hk⟩ bI,hd⟩;rw[hb.cell (p:=⟨fb,0,none⟩) (World.block_lt_of_cell? w ⟨fb,0,none⟩ H.has)];exact H.has
theorem info81:(Tryz.prog.info? 90).map (fun i=>(i.zero,i.size,i.bytes))=some (some (.agg #[.int .i64 0,.int .i64 0]),2,16):=by kernel_rfl
theorem info3:(Tryz.prog.info? 3).map (fun i=>(i.zero,i.size,i.bytes))=some (some (.int .i64 0),1,8):=by kernel_rfl
theorem map_ne (mb:Nat) (w:World):(binOp .neq 77 (.map (some mb)) (.map none)).run Tryz.prog w = .ok (.bool true) w:=by kernel_rfl
theorem func_ne37 (f:Fn) (x y:Array Value) (w:World):(binOp .neq 37 (.func f x y) .nilFunc).run Tryz.prog w = .ok (.bool true) w:=by kernel_rfl
theorem func_ne34 (f:Fn) (x y:Array Value) (w:World):(binOp .neq 46 (.func f x y) .nilFunc).run Tryz.prog w = .ok (.bool true) w:=by kernel_rfl
def lowS (s:ByteArray):ByteArray:=⟨(Lib.toLowerA s.data.toList).toArray⟩
theorem lowS_size (s:ByteArray):(lowS s).size=s.size:=by
 show (Lib.toLowerA s.data.toList).toArray.size=_;show (List.map _ _).toArray.size=_
 simp
def asc (s:ByteArray):Prop:=∀ (j:Nat) (b:UInt8),s.data.toList[j]? = some b→b.toNat < 128
theorem lowerB_small (c:UInt8) (h:c.toNat < 128):(Lib.lowerB c).toNat < 128:=by
 unfold Lib.lowerB;split
 ·rename_i h2
  simp[Lib.isUpperB,UInt8.le_iff_toNat_le] at h2
  rw[UInt8.toNat_add];have:(32:UInt8).toNat=32:=rfl;have e1:(65:UInt8).toNat=65:=rfl;have e2:(90:UInt8).toNat=90:=rfl;omega
 ·exact h
theorem lowS_asc (s:ByteArray) (h:asc s):asc (lowS s):=by
 intro j c hc;have:(Lib.toLowerA s.data.toList)[j]? = some c:=hc;unfold Lib.toLowerA at this;rw[List.getElem?_map] at this;obtain ⟨d,hd,rfl⟩:=Option.map_eq_some_iff.1 this;exact lowerB_small d (h j d hd)
end Go.Proofs.YtmgdbpjidkdegaaGreatDoor.Path
