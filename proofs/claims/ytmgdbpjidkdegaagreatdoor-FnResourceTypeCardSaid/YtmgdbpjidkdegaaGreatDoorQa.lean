/- Short words for what the texts of this claim say often: each is proved where it is used. No condition. -/
import Derived.IntWalk
import Derived.Lib.Strings
import Derived.Below
import Derived.OneCell
import Derived.Laws.AppendOwn
import Derived.Deep.OwnRows
import Derived.Maps.OwnSet
import Derived.Maps.StringElems
import Derived.Laws.EntriesVeiled
import Derived.StillTailTactics
import Derived.Laws.OwnMore
import Derived.ProofKit
import Derived.OpenShut
import Derived.LaidMore
import Derived.Lay
import Derived.SevenTiedAt
import Derived.Stop.Joined
import Derived.ShutString
import Derived.Lib.LastIndexByte
import Derived.Lib.ConvBytes
import Derived.Lib.Case
import Derived.Deep.QuietTactic
import Derived.Tactics
import Derived.WalkKit
import Derived.Deep.DeepCutAuto
import Derived.Deep.CutBlock
import Derived.Deep.Draws
import Derived.Deep.AppendLies
import Derived.Maps.AppendAt
import Derived.OwnWalk
import Derived.Laws.BytesArg
import Derived.Laws.MakeOwn
import Derived.Laws.Slices
import Derived.KernelRfl
import Derived.RowKit3
import Derived.Deep.LoopGhost
import Derived.BigQuiet
import Derived.WideLaws
import Derived.Deep.RegionHeld3
import Derived.Laws.Rows
import Derived.Lib.AppendStr
import Derived.ArgAppend
import Derived.Laws.IdiomCopy
import Derived.OrdersHeld
import Derived.Laws.BitsLemmas
import Derived.RowKit
import Derived.Deep.MidRow
import Derived.Lib.LazyBuf
import Derived.SliceStrings
import Derived.Deep.Slices
import Derived.Deep.Fields
import Derived.Lib.SmallJoins
import Derived.ChangeSame
import Derived.Carry
namespace Go.Proofs.YtmgdbpjidkdegaaGreatDoor
end Go.Proofs.YtmgdbpjidkdegaaGreatDoor
namespace Go.Proofs.YtmgdbpjidkdegaaGreatDoorW.PrintWords
structure Aside0 (p:Prop):Prop where mk::(out:p)
end Go.Proofs.YtmgdbpjidkdegaaGreatDoorW.PrintWords
namespace Go.Proofs.YtmgdbpjidkdegaaGreatDoor
open Go.Proofs.YtmgdbpjidkdegaaGreatDoorW.PrintWords
theorem bQ{p:Prop}[Decidable p](h:decide p=true:=by first | (with_reducible assumption) | assumption):p:=of_decide_eq_true h
theorem bR{p:Prop}(h:p):Aside0 p:=Aside0.mk h
theorem bS{α:Type}(l:List α)(i:Nat)(a:α):l.toArray.setIfInBounds i a=(l.set i a).toArray:=List.setIfInBounds_toArray l i a
theorem bT{α:Type}(a b:α)(l:List α):(a::l).set 0 b=b::l:=rfl
theorem bU{α:Type}(a b:α)(l:List α)(n:Nat):(a::l).set (n+1) b=a::l.set n b:=rfl
theorem bA{p:Prop}(h:p:=by omega):p:=h
theorem bB{p:Prop}(h:p:=by kernel_rfl):p:=h
theorem bC{p:Prop}(h:p:=by repeat (first | (with_reducible first | exact HB.out | apply below_alloc | apply pw_below_drewN | apply below_drew1) | exact HB.out)):p:=h
theorem bD{p:Prop}(h:p:=by (try simp only[List.map_toArray,List.map_cons,List.map_nil]);first | done | rfl | (simp only[List.length_drop,List.length_take];rfl)):p:=h
theorem bE{p:Prop}(h:p:=by first | rfl | (simp;done) | (simp[*];done)):p:=h
theorem bF{p:Prop}(h:p:=by simp[cells]):p:=h
theorem bG{p:Prop}(h:p:=by decide):p:=h
theorem bH{p:Prop}(h:p:=by rfl):p:=h
theorem bI{p:Prop}(h:p:=by simp):p:=h
theorem bJ{p:Prop}(h:p:=by (with_reducible repeat (first | apply Kd.R_alloc | apply Kd.R_drewN | apply Kd.R_drew));exact HO_8.out):p:=h
theorem bK{p:Prop}(h:p:=by simp[Value.oneCell']):p:=h
theorem bL{p:Prop}(h:p:=by (with_reducible repeat (first | apply Kd.R_alloc | apply Kd.R_drewN | apply Kd.R_drew));exact HO_3.out):p:=h
theorem bM{p:Prop}(h:p:=by (with_reducible repeat (first | apply Kd.R_alloc | apply Kd.R_drewN | apply Kd.R_drew));exact HO_5.out):p:=h
theorem bN{p:Prop}(h:p:=by repeat first | exact ⟨_,rfl⟩ | apply IsMap.put):p:=h
theorem bO{p:Prop}(h:p:=by unfold maxLen;omega):p:=h
theorem bP{p:Prop}(h:p:=by rw[← HP1V.out];rfl):p:=h
theorem bV{p:Prop}(h:p:=by first | (go_simp;done) | (go_simp;rfl)):p:=h
theorem bW{p:Prop}(h:p:=by repeat (first | exact (Kd.C_below HR0_0.out HB.out) | (with_reducible refine Kd.C_alloc ?_ _) | (with_reducible refine Kd.C_drewN ?_ _) | (with_reducible refine Kd.C_drew ?_))):p:=h
theorem bX{p:Prop}(h:p:=by repeat (first | exact (Kd.C_below HR0_1.out (by repeat (first | (with_reducible first | exact HB.out | apply below_alloc | apply pw_below_drewN | apply below_drew1 | refine below_set ?_ GE102.out) | exact HB.out))) | (with_reducible refine Kd.C_alloc ?_ _) | (with_reducible refine Kd.C_drewN ?_ _) | (with_reducible refine Kd.C_drew ?_))):p:=h
theorem bY{p:Prop}(h:p:=by repeat (first | exact HR111.out | (with_reducible refine Kd.C_alloc ?_ _) | (with_reducible refine Kd.C_drewN ?_ _) | (with_reducible refine Kd.C_drew ?_))):p:=h
theorem bZ{p:Prop}(h:p:=by repeat (first | exact (Kd.C_below HR0_1.out (by repeat (first | (with_reducible first | exact HB.out | apply below_alloc | apply pw_below_drewN | apply below_drew1 | refine below_set ?_ GE114.out) | exact HB.out))) | (with_reducible refine Kd.C_alloc ?_ _) | (with_reducible refine Kd.C_drewN ?_ _) | (with_reducible refine Kd.C_drew ?_))):p:=h
theorem cA{p:Prop}(h:p:=by repeat (first | exact (Kd.C_below HR0_3.out (by repeat (first | (with_reducible first | exact HB.out | apply below_alloc | apply pw_below_drewN | apply below_drew1 | refine below_set ?_ GE114.out) | exact HB.out))) | (with_reducible refine Kd.C_alloc ?_ _) | (with_reducible refine Kd.C_drewN ?_ _) | (with_reducible refine Kd.C_drew ?_))):p:=h
theorem cB{p:Prop}(h:p:=by exact (by repeat (first | (with_reducible first | exact HB.out | apply below_alloc | apply pw_below_drewN | apply below_drew1) | exact HB.out))):p:=h
theorem cC{p:Prop}(h:p:=by exact (by (with_reducible repeat (first | apply Kd.R_alloc | apply Kd.R_drewN | apply Kd.R_drew));exact HO_3.out)):p:=h
theorem cD{p:Prop}(h:p:=by exact (below_size (by repeat (first | (with_reducible first | exact HB.out | apply below_alloc | apply pw_below_drewN | apply below_drew1) | exact HB.out)))):p:=h
theorem cE{p:Prop}(h:p:=by repeat (first | exact (Kd.R_reads' HO_8.out).2.2 | (with_reducible refine Kd.C_alloc ?_ _) | (with_reducible refine Kd.C_drewN ?_ _) | (with_reducible refine Kd.C_drew ?_))):p:=h
theorem cG{p:Prop}(h:p:=by repeat (first | exact (Kd.C_below HR0_1.out HB.out) | (with_reducible refine Kd.C_alloc ?_ _) | (with_reducible refine Kd.C_drewN ?_ _) | (with_reducible refine Kd.C_drew ?_))):p:=h
theorem cH{p:Prop}(h:p:=by repeat (first | exact (Kd.C_below HR0_2.out HB.out) | (with_reducible refine Kd.C_alloc ?_ _) | (with_reducible refine Kd.C_drewN ?_ _) | (with_reducible refine Kd.C_drew ?_))):p:=h
theorem cI{p:Prop}(h:p:=by repeat (first | exact (Kd.C_below HR0_3.out HB.out) | (with_reducible refine Kd.C_alloc ?_ _) | (with_reducible refine Kd.C_drewN ?_ _) | (with_reducible refine Kd.C_drew ?_))):p:=h
theorem cJ{p:Prop}(h:p:=by repeat (first | exact (Kd.C_below HR0_1.out (by repeat (first | (with_reducible first | exact HB.out | apply below_alloc | apply pw_below_drewN | apply below_drew1 | refine below_set ?_ GE165.out) | exact HB.out))) | (with_reducible refine Kd.C_alloc ?_ _) | (with_reducible refine Kd.C_drewN ?_ _) | (with_reducible refine Kd.C_drew ?_))):p:=h
theorem cK{p:Prop}(h:p:=by repeat (first | exact (Kd.C_below HR0_2.out (by repeat (first | (with_reducible first | exact HB.out | apply below_alloc | apply pw_below_drewN | apply below_drew1 | refine below_set ?_ GE165.out) | exact HB.out))) | (with_reducible refine Kd.C_alloc ?_ _) | (with_reducible refine Kd.C_drewN ?_ _) | (with_reducible refine Kd.C_drew ?_))):p:=h
theorem cL{p:Prop}(h:p:=by
 repeat' first
  | (with_reducible exact ih0 _ _ _ _)
  | (with_reducible exact LeO.refl _)
  | (with_reducible exact LeO.none _)
  | (with_reducible refine LeO.ite ?_ ?_)
  | (with_reducible refine LeO.bind ?_ (fun _=>?_))
  | exact ih0 _ _ _ _
  | exact LeO.none _
  | refine LeO.ite ?_ ?_
  | refine LeO.bind ?_ (fun _=>?_)):p:=h
theorem cM{p:Prop}(h:p:=by
 repeat' first
  | (with_reducible exact ih0 _ _ _ _ _ _ _ _)
  | (with_reducible exact laws_few.mono _ _)
  | (with_reducible exact LeO.refl _)
  | (with_reducible exact LeO.none _)
  | (with_reducible refine LeO.ite ?_ ?_)
  | (with_reducible refine LeO.bind ?_ (fun _=>?_))
  | exact ih0 _ _ _ _ _ _ _ _
  | exact laws_few.mono _ _
  | exact LeO.none _
  | refine LeO.ite ?_ ?_
  | refine LeO.bind ?_ (fun _=>?_)):p:=h
theorem cN{p:Prop}(h:p:=by
 repeat' first
  | (with_reducible exact ih0 _ _ _)
  | (with_reducible exact LeO.refl _)
  | (with_reducible exact LeO.none _)
  | (with_reducible refine LeO.ite ?_ ?_)
  | (with_reducible refine LeO.bind ?_ (fun _=>?_))
  | exact ih0 _ _ _
  | exact LeO.none _
  | refine LeO.ite ?_ ?_
  | refine LeO.bind ?_ (fun _=>?_)):p:=h
theorem cO{p:Prop}(h:p:=by
 repeat' first
  | (with_reducible exact ih0 _ _)
  | (with_reducible exact LeO.refl _)
  | (with_reducible exact LeO.none _)
  | (with_reducible refine LeO.ite ?_ ?_)
  | (with_reducible refine LeO.bind ?_ (fun _=>?_))
  | exact ih0 _ _
  | exact LeO.none _
  | refine LeO.ite ?_ ?_
  | refine LeO.bind ?_ (fun _=>?_)):p:=h
theorem cQ{p:Prop}(h:p:=by
 repeat' first
  | (with_reducible exact ih0 _ _)
  | (with_reducible exact spec_among.mono _ _ _)
  | (with_reducible exact spec_siteWord.mono _ _)
  | (with_reducible exact LeO.refl _)
  | (with_reducible exact LeO.none _)
  | (with_reducible refine LeO.ite ?_ ?_)
  | (with_reducible refine LeO.bind ?_ (fun _=>?_))
  | exact ih0 _ _
  | exact spec_among.mono _ _ _
  | exact spec_siteWord.mono _ _
  | exact LeO.none _
  | refine LeO.ite ?_ ?_
  | refine LeO.bind ?_ (fun _=>?_)):p:=h
theorem cR{p:Prop}(h:p:=by
 repeat' first
  | (with_reducible exact ih0 _ _ _ _ _)
  | (with_reducible exact ih1 _ _ _ _ _)
  | (with_reducible exact ih2 _ _ _ _ _)
  | (with_reducible exact spec_among.mono _ _ _)
  | (with_reducible exact spec_siteWord.mono _ _)
  | (with_reducible exact spec_siteWords.mono _ _)
  | (with_reducible exact LeO.refl _)
  | (with_reducible exact LeO.none _)
  | (with_reducible refine LeO.ite ?_ ?_)
  | (with_reducible refine LeO.bind ?_ (fun _=>?_))
  | exact ih0 _ _ _ _ _
  | exact ih1 _ _ _ _ _
  | exact ih2 _ _ _ _ _
  | exact spec_among.mono _ _ _
  | exact spec_siteWord.mono _ _
  | exact spec_siteWords.mono _ _
  | exact LeO.none _
  | refine LeO.ite ?_ ?_
  | refine LeO.bind ?_ (fun _=>?_)):p:=h
theorem cS{p:Prop}(h:p:=by
 repeat' first
  | (with_reducible exact ih0 _ _ _)
  | (with_reducible exact ih1 _ _ _ _)
  | (with_reducible exact ih2 _ _ _ _)
  | (with_reducible exact LeO.refl _)
  | (with_reducible exact LeO.none _)
  | (with_reducible refine LeO.ite ?_ ?_)
  | (with_reducible refine LeO.bind ?_ (fun _=>?_))
  | exact ih0 _ _ _
  | exact ih1 _ _ _ _
  | exact ih2 _ _ _ _
  | exact LeO.none _
  | refine LeO.ite ?_ ?_
  | refine LeO.bind ?_ (fun _=>?_)):p:=h
theorem cT{p:Prop}(h:p:=by
 repeat' first
  | (with_reducible exact ih0 _ _ _ _)
  | (with_reducible exact ih1 _ _ _ _ _ _)
  | (with_reducible exact ih2 _ _ _ _ _ _ _)
  | (with_reducible exact ih3 _ _ _ _ _ _ _)
  | (with_reducible exact ih4 _ _ _ _ _ _ _ _ _ _ _)
  | (with_reducible exact ih5 _ _ _ _ _ _ _ _ _ _ _ _ _)
  | (with_reducible exact spec_among.mono _ _ _)
  | (with_reducible exact spec_cutPoints.mono _ _)
  | (with_reducible exact LeO.refl _)
  | (with_reducible exact LeO.none _)
  | (with_reducible refine LeO.ite ?_ ?_)
  | (with_reducible refine LeO.bind ?_ (fun _=>?_))
  | exact ih0 _ _ _ _
  | exact ih1 _ _ _ _ _ _
  | exact ih2 _ _ _ _ _ _ _
  | exact ih3 _ _ _ _ _ _ _
  | exact ih4 _ _ _ _ _ _ _ _ _ _ _
  | exact ih5 _ _ _ _ _ _ _ _ _ _ _ _ _
  | exact spec_among.mono _ _ _
  | exact spec_cutPoints.mono _ _
  | exact LeO.none _
  | refine LeO.ite ?_ ?_
  | refine LeO.bind ?_ (fun _=>?_)):p:=h
theorem cU{p:Prop}(h:p:=by
 repeat' first
  | (with_reducible exact spec_slashBefore.mono _ _ _)
  | (with_reducible exact LeO.refl _)
  | (with_reducible exact LeO.none _)
  | (with_reducible refine LeO.ite ?_ ?_)
  | (with_reducible refine LeO.bind ?_ (fun _=>?_))
  | exact spec_slashBefore.mono _ _ _
  | exact LeO.none _
  | refine LeO.ite ?_ ?_
  | refine LeO.bind ?_ (fun _=>?_)):p:=h
theorem cV{p:Prop}(h:p:=by
 repeat' first
  | (with_reducible exact ih0 _ _ _)
  | (with_reducible exact ih1 _ _ _ _)
  | (with_reducible exact ih2 _ _ _ _)
  | (with_reducible exact ih3 _ _ _ _)
  | (with_reducible exact ih4 _ _ _ _ _)
  | (with_reducible exact LeO.refl _)
  | (with_reducible exact LeO.none _)
  | (with_reducible refine LeO.ite ?_ ?_)
  | (with_reducible refine LeO.bind ?_ (fun _=>?_))
  | exact ih0 _ _ _
  | exact ih1 _ _ _ _
  | exact ih2 _ _ _ _
  | exact ih3 _ _ _ _
  | exact ih4 _ _ _ _ _
  | exact LeO.none _
  | refine LeO.ite ?_ ?_
  | refine LeO.bind ?_ (fun _=>?_)):p:=h
theorem cW{p:Prop}(h:p:=by
 repeat' first
  | (with_reducible exact ih0 _ _ _ _)
  | (with_reducible exact laws_few.mono _ _)
  | (with_reducible exact laws_plain.mono _ _)
  | (with_reducible exact LeO.refl _)
  | (with_reducible exact LeO.none _)
  | (with_reducible refine LeO.ite ?_ ?_)
  | (with_reducible refine LeO.bind ?_ (fun _=>?_))
  | exact ih0 _ _ _ _
  | exact laws_few.mono _ _
  | exact laws_plain.mono _ _
  | exact LeO.none _
  | refine LeO.ite ?_ ?_
  | refine LeO.bind ?_ (fun _=>?_)):p:=h
theorem cX{p:Prop}(h:p:=by
 repeat' first
  | (with_reducible exact laws_plain.mono _ _)
  | (with_reducible exact LeO.refl _)
  | (with_reducible exact LeO.none _)
  | (with_reducible refine LeO.ite ?_ ?_)
  | (with_reducible refine LeO.bind ?_ (fun _=>?_))
  | exact laws_plain.mono _ _
  | exact LeO.none _
  | refine LeO.ite ?_ ?_
  | refine LeO.bind ?_ (fun _=>?_)):p:=h
theorem cY{p:Prop}(h:p:=by
 repeat' first
  | (with_reducible exact ih0 _ _ _ _ _ _ _ _)
  | (with_reducible exact laws_listed.mono _ _ _)
  | (with_reducible exact LeO.refl _)
  | (with_reducible exact LeO.none _)
  | (with_reducible refine LeO.ite ?_ ?_)
  | (with_reducible refine LeO.bind ?_ (fun _=>?_))
  | exact ih0 _ _ _ _ _ _ _ _
  | exact laws_listed.mono _ _ _
  | exact LeO.none _
  | refine LeO.ite ?_ ?_
  | refine LeO.bind ?_ (fun _=>?_)):p:=h
theorem cZ{p:Prop}(h:p:=by first | rfl | (simp;done) | (simp[*];done)):p:=h
theorem dA{p:Prop}(h:p:=by repeat (first | exact Drawn0.refl _ | apply Drawn0.step)):p:=h
end Go.Proofs.YtmgdbpjidkdegaaGreatDoor
