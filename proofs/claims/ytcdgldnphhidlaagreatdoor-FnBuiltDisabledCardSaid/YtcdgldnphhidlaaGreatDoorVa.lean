/- Short words for what the texts of this claim say often: each is proved where it is used. No condition. -/
import Derived.IntWalk
import Derived.Lib.Strings
import Derived.Below
import Derived.OneCell
import Derived.Laws.AppendOwn
import Derived.Deep.OwnRows
import Derived.Maps.OwnSet
import Derived.Maps.StringElems
import Derived.Laws.EntriesVeiled
import Derived.OrdersHeld
import Derived.Deep.RegionHeld3
import Derived.Laws.BitsLemmas
import Derived.RowKit
import Derived.StillTailTactics
import Derived.Laws.OwnMore
import Derived.ProofKit
import Derived.OpenShut
import Derived.LaidMore
import Derived.Lay
import Derived.SevenTiedAt
import Derived.Stop.Joined
import Derived.ShutString
import Derived.Lib.LastIndexByte
import Derived.Lib.ConvBytes
import Derived.Lib.Case
import Derived.Deep.QuietTactic
import Derived.Tactics
import Derived.WalkKit
import Derived.Deep.DeepCutAuto
import Derived.Deep.CutBlock
import Derived.Deep.Draws
import Derived.Deep.AppendLies
import Derived.Maps.AppendAt
import Derived.OwnWalk
import Derived.Laws.BytesArg
import Derived.Laws.MakeOwn
import Derived.Laws.Slices
import Derived.KernelRfl
import Derived.RowKit3
import Derived.Deep.LoopGhost
import Derived.BigQuiet
import Derived.WideLaws
import Derived.Laws.Rows
import Derived.Lib.AppendStr
import Derived.ArgAppend
import Derived.Laws.IdiomCopy
import Derived.Deep.MidRow
import Derived.Lib.LazyBuf
import Derived.SliceStrings
import Derived.Deep.Slices
import Derived.Deep.Fields
import Derived.Lib.SmallJoins
import Derived.ChangeSame
import Derived.Carry
namespace Go.Proofs.YtcdgldnphhidlaaGreatDoor
end Go.Proofs.YtcdgldnphhidlaaGreatDoor
namespace Go.ZW.PrintWords
structure Aside0 (p:Prop):Prop where mk::(out:p)
end Go.ZW.PrintWords
namespace Go.Proofs.YtcdgldnphhidlaaGreatDoor
open Go.ZW.PrintWords
theorem cG{p:Prop}[Decidable p](h:decide p=true:=by first | (with_reducible assumption) | assumption):p:=of_decide_eq_true h
theorem cH{p:Prop}(h:p):Aside0 p:=Aside0.mk h
theorem cI{α:Type}(l:List α)(i:Nat)(a:α):l.toArray.setIfInBounds i a=(l.set i a).toArray:=List.setIfInBounds_toArray l i a
theorem cJ{α:Type}(a b:α)(l:List α):(a::l).set 0 b=b::l:=rfl
theorem cK{α:Type}(a b:α)(l:List α)(n:Nat):(a::l).set (n+1) b=a::l.set n b:=rfl
theorem bA{p:Prop}(h:p:=by omega):p:=h
theorem bB{p:Prop}(h:p:=by kernel_rfl):p:=h
theorem bC{p:Prop}(h:p:=by repeat (first | (with_reducible first | exact HB.out | apply fJ | apply fA | apply fM) | exact HB.out)):p:=h
theorem bD{p:Prop}(h:p:=by (try simp only[List.map_toArray,List.map_cons,List.map_nil]);first | done | rfl | (simp only[List.length_drop,List.length_take];rfl)):p:=h
theorem bE{p:Prop}(h:p:=by first | rfl | (simp;done) | (simp[*];done)):p:=h
theorem bF{p:Prop}(h:p:=by first | (simp only[lV,Act.put,List.setIfInBounds_toArray,List.set_cons_zero,List.set_cons_succ];done) | (simp only[lV,Act.put,List.setIfInBounds_toArray,List.set_cons_zero,List.set_cons_succ];rfl)):p:=h
theorem bG{p:Prop}(h:p:=by simp only[List.map_toArray,List.map_cons,List.map_nil];rfl):p:=h
theorem bH{p:Prop}(h:p:=by decide):p:=h
theorem bI{p:Prop}(h:p:=by simp[cells]):p:=h
theorem bJ{p:Prop}(h:p:=by simp):p:=h
theorem bK{p:Prop}(h:p:=by rfl):p:=h
theorem bL{p:Prop}(h:p:=by first | rfl | trivial):p:=h
theorem bM{p:Prop}(h:p:=by unfold Func.isWrapper;first | (rw[if_pos (by decide +kernel)];kernel_rfl) | (rw[if_neg (by decide +kernel)];exact ⟨rfl,rfl⟩)):p:=h
theorem bN{p:Prop}(h:p:=by rw[MakeChecks.laidMetH_plain _ _ _ (by kernel_rfl)];exact laidMet_laidAll _ (by kernel_rfl) (by kernel_rfl)):p:=h
theorem bO{p:Prop}(h:p:=by rw[← HC.out,← show lO p=fd from (by rw[HG5.out (fun h=>by have h9:=HN.out;rw[h] at h9;exact absurd h9 (by decide)),HFD2.out])];rfl):p:=h
theorem bP{p:Prop}(h:p:=by rw[← HC.out,← show qA p=true from (by unfold qA;rw[HTY.out];rfl)];rfl):p:=h
theorem bQ{p:Prop}(h:p:=by (with_reducible repeat (first | apply Kd.R_alloc | apply Kd.R_drewN | apply Kd.R_drew));exact HO_8.out):p:=h
theorem bR{p:Prop}(h:p:=by rw[← HC.out,← show qY p=true from (by unfold qY;rw[HTY.out];rfl)];rfl):p:=h
theorem bS{p:Prop}(h:p:=by have:=HFL.out;omega):p:=h
theorem bT{p:Prop}(h:p:=by rw[← HC.out,← show mA p=la from (by rw[HG3.out,HLA.out])];rfl):p:=h
theorem bU{p:Prop}(h:p:=by rw[← HC.out,← show nI p=la from (by rw[HG2.out,HLA.out])];rfl):p:=h
theorem bV{p:Prop}(h:p:=by rw[← HC.out,← show nH p=dir from (by rw[HG1.out,HDIR.out])];rfl):p:=h
theorem bW{p:Prop}(h:p:=by simp[Value.oneCell']):p:=h
theorem bX{p:Prop}(h:p:=by rw[HG5.out (fun h=>by have h9:=HN.out;rw[h] at h9;exact absurd h9 (by decide)),HFD2.out]):p:=h
theorem bY{p:Prop}(h:p:=by rw[← HC.out,← show fH p 0=ew from HQ2.out];rfl):p:=h
theorem bZ{p:Prop}(h:p:=by (with_reducible repeat (first | apply Kd.R_alloc | apply Kd.R_drewN | apply Kd.R_drew));exact HO_5.out):p:=h
theorem cA{p:Prop}(h:p:=by rw[← HC.out,← show pE p=lw from HQ1.out];rfl):p:=h
theorem cB{p:Prop}(h:p:=by rw[← HC.out,← show pK p=rd from HRD2.out];rfl):p:=h
theorem cC{p:Prop}(h:p:=by repeat first | exact ⟨_,rfl⟩ | apply IsMap.put):p:=h
theorem cD{p:Prop}(h:p:=by unfold maxLen;omega):p:=h
theorem cE{p:Prop}(h:p:=by rw[← HP1V.out];rfl):p:=h
theorem cL{p:Prop}(h:p:=by first | (go_simp;done) | (go_simp;rfl)):p:=h
theorem cM{p:Prop}(h:p:=by repeat (first | exact (Kd.C_below HR0_0.out HB.out) | (with_reducible refine Kd.C_alloc ?_ _) | (with_reducible refine Kd.C_drewN ?_ _) | (with_reducible refine Kd.C_drew ?_))):p:=h
theorem cN{p:Prop}(h:p:=by repeat (first | exact (Kd.C_below HR0_1.out (by repeat (first | (with_reducible first | exact HB.out | apply fJ | apply fA | apply fM | refine gA ?_ GE102.out) | exact HB.out))) | (with_reducible refine Kd.C_alloc ?_ _) | (with_reducible refine Kd.C_drewN ?_ _) | (with_reducible refine Kd.C_drew ?_))):p:=h
theorem cO{p:Prop}(h:p:=by repeat (first | exact HR111.out | (with_reducible refine Kd.C_alloc ?_ _) | (with_reducible refine Kd.C_drewN ?_ _) | (with_reducible refine Kd.C_drew ?_))):p:=h
theorem cQ{p:Prop}(h:p:=by repeat (first | exact (Kd.C_below HR0_1.out (by repeat (first | (with_reducible first | exact HB.out | apply fJ | apply fA | apply fM | refine gA ?_ GE114.out) | exact HB.out))) | (with_reducible refine Kd.C_alloc ?_ _) | (with_reducible refine Kd.C_drewN ?_ _) | (with_reducible refine Kd.C_drew ?_))):p:=h
theorem cR{p:Prop}(h:p:=by repeat (first | exact (Kd.C_below HR0_3.out (by repeat (first | (with_reducible first | exact HB.out | apply fJ | apply fA | apply fM | refine gA ?_ GE114.out) | exact HB.out))) | (with_reducible refine Kd.C_alloc ?_ _) | (with_reducible refine Kd.C_drewN ?_ _) | (with_reducible refine Kd.C_drew ?_))):p:=h
theorem cS{p:Prop}(h:p:=by exact (by repeat (first | (with_reducible first | exact HB.out | apply fJ | apply fA | apply fM) | exact HB.out))):p:=h
theorem cT{p:Prop}(h:p:=by exact (eP (by repeat (first | (with_reducible first | exact HB.out | apply fJ | apply fA | apply fM) | exact HB.out)))):p:=h
theorem cU{p:Prop}(h:p:=by repeat (first | exact (Kd.R_reads' HO_8.out).2.2 | (with_reducible refine Kd.C_alloc ?_ _) | (with_reducible refine Kd.C_drewN ?_ _) | (with_reducible refine Kd.C_drew ?_))):p:=h
theorem cV{p:Prop}(h:p:=by repeat (first | exact (Kd.C_below HR0_1.out HB.out) | (with_reducible refine Kd.C_alloc ?_ _) | (with_reducible refine Kd.C_drewN ?_ _) | (with_reducible refine Kd.C_drew ?_))):p:=h
theorem cW{p:Prop}(h:p:=by repeat (first | exact (Kd.C_below HR0_2.out HB.out) | (with_reducible refine Kd.C_alloc ?_ _) | (with_reducible refine Kd.C_drewN ?_ _) | (with_reducible refine Kd.C_drew ?_))):p:=h
theorem cX{p:Prop}(h:p:=by repeat (first | exact (Kd.C_below HR0_3.out HB.out) | (with_reducible refine Kd.C_alloc ?_ _) | (with_reducible refine Kd.C_drewN ?_ _) | (with_reducible refine Kd.C_drew ?_))):p:=h
theorem cY{p:Prop}(h:p:=by repeat (first | exact (Kd.C_below HR0_1.out (by repeat (first | (with_reducible first | exact HB.out | apply fJ | apply fA | apply fM | refine gA ?_ GE165.out) | exact HB.out))) | (with_reducible refine Kd.C_alloc ?_ _) | (with_reducible refine Kd.C_drewN ?_ _) | (with_reducible refine Kd.C_drew ?_))):p:=h
theorem cZ{p:Prop}(h:p:=by repeat (first | exact (Kd.C_below HR0_2.out (by repeat (first | (with_reducible first | exact HB.out | apply fJ | apply fA | apply fM | refine gA ?_ GE165.out) | exact HB.out))) | (with_reducible refine Kd.C_alloc ?_ _) | (with_reducible refine Kd.C_drewN ?_ _) | (with_reducible refine Kd.C_drew ?_))):p:=h
theorem dA{p:Prop}(h:p:=by
 repeat' first
  | (with_reducible exact ih0 _ _ _ _)
  | (with_reducible exact LeO.refl _)
  | (with_reducible exact LeO.none _)
  | (with_reducible refine LeO.ite ?_ ?_)
  | (with_reducible refine LeO.bind ?_ (fun _=>?_))
  | exact ih0 _ _ _ _
  | exact LeO.none _
  | refine LeO.ite ?_ ?_
  | refine LeO.bind ?_ (fun _=>?_)):p:=h
theorem dB{p:Prop}(h:p:=by
 repeat' first
  | (with_reducible exact ih0 _ _ _ _ _ _ _ _)
  | (with_reducible exact gF.mono _ _)
  | (with_reducible exact LeO.refl _)
  | (with_reducible exact LeO.none _)
  | (with_reducible refine LeO.ite ?_ ?_)
  | (with_reducible refine LeO.bind ?_ (fun _=>?_))
  | exact ih0 _ _ _ _ _ _ _ _
  | exact gF.mono _ _
  | exact LeO.none _
  | refine LeO.ite ?_ ?_
  | refine LeO.bind ?_ (fun _=>?_)):p:=h
theorem dC{p:Prop}(h:p:=by
 repeat' first
  | (with_reducible exact ih0 _ _ _)
  | (with_reducible exact LeO.refl _)
  | (with_reducible exact LeO.none _)
  | (with_reducible refine LeO.ite ?_ ?_)
  | (with_reducible refine LeO.bind ?_ (fun _=>?_))
  | exact ih0 _ _ _
  | exact LeO.none _
  | refine LeO.ite ?_ ?_
  | refine LeO.bind ?_ (fun _=>?_)):p:=h
theorem dD{p:Prop}(h:p:=by
 repeat' first
  | (with_reducible exact ih0 _ _)
  | (with_reducible exact LeO.refl _)
  | (with_reducible exact LeO.none _)
  | (with_reducible refine LeO.ite ?_ ?_)
  | (with_reducible refine LeO.bind ?_ (fun _=>?_))
  | exact ih0 _ _
  | exact LeO.none _
  | refine LeO.ite ?_ ?_
  | refine LeO.bind ?_ (fun _=>?_)):p:=h
theorem dE{p:Prop}(h:p:=by
 repeat' first
  | (with_reducible exact ih0 _ _)
  | (with_reducible exact fP.mono _ _ _)
  | (with_reducible exact eR.mono _ _)
  | (with_reducible exact LeO.refl _)
  | (with_reducible exact LeO.none _)
  | (with_reducible refine LeO.ite ?_ ?_)
  | (with_reducible refine LeO.bind ?_ (fun _=>?_))
  | exact ih0 _ _
  | exact fP.mono _ _ _
  | exact eR.mono _ _
  | exact LeO.none _
  | refine LeO.ite ?_ ?_
  | refine LeO.bind ?_ (fun _=>?_)):p:=h
theorem dF{p:Prop}(h:p:=by
 repeat' first
  | (with_reducible exact ih0 _ _ _ _ _)
  | (with_reducible exact ih1 _ _ _ _ _)
  | (with_reducible exact ih2 _ _ _ _ _)
  | (with_reducible exact fP.mono _ _ _)
  | (with_reducible exact eR.mono _ _)
  | (with_reducible exact eQ.mono _ _)
  | (with_reducible exact LeO.refl _)
  | (with_reducible exact LeO.none _)
  | (with_reducible refine LeO.ite ?_ ?_)
  | (with_reducible refine LeO.bind ?_ (fun _=>?_))
  | exact ih0 _ _ _ _ _
  | exact ih1 _ _ _ _ _
  | exact ih2 _ _ _ _ _
  | exact fP.mono _ _ _
  | exact eR.mono _ _
  | exact eQ.mono _ _
  | exact LeO.none _
  | refine LeO.ite ?_ ?_
  | refine LeO.bind ?_ (fun _=>?_)):p:=h
theorem dG{p:Prop}(h:p:=by
 repeat' first
  | (with_reducible exact ih0 _ _ _)
  | (with_reducible exact ih1 _ _ _ _)
  | (with_reducible exact ih2 _ _ _ _)
  | (with_reducible exact LeO.refl _)
  | (with_reducible exact LeO.none _)
  | (with_reducible refine LeO.ite ?_ ?_)
  | (with_reducible refine LeO.bind ?_ (fun _=>?_))
  | exact ih0 _ _ _
  | exact ih1 _ _ _ _
  | exact ih2 _ _ _ _
  | exact LeO.none _
  | refine LeO.ite ?_ ?_
  | refine LeO.bind ?_ (fun _=>?_)):p:=h
theorem dH{p:Prop}(h:p:=by
 repeat' first
  | (with_reducible exact ih0 _ _ _ _)
  | (with_reducible exact ih1 _ _ _ _ _ _)
  | (with_reducible exact ih2 _ _ _ _ _ _ _)
  | (with_reducible exact ih3 _ _ _ _ _ _ _)
  | (with_reducible exact ih4 _ _ _ _ _ _ _ _ _ _ _)
  | (with_reducible exact ih5 _ _ _ _ _ _ _ _ _ _ _ _ _)
  | (with_reducible exact fP.mono _ _ _)
  | (with_reducible exact eN.mono _ _)
  | (with_reducible exact LeO.refl _)
  | (with_reducible exact LeO.none _)
  | (with_reducible refine LeO.ite ?_ ?_)
  | (with_reducible refine LeO.bind ?_ (fun _=>?_))
  | exact ih0 _ _ _ _
  | exact ih1 _ _ _ _ _ _
  | exact ih2 _ _ _ _ _ _ _
  | exact ih3 _ _ _ _ _ _ _
  | exact ih4 _ _ _ _ _ _ _ _ _ _ _
  | exact ih5 _ _ _ _ _ _ _ _ _ _ _ _ _
  | exact fP.mono _ _ _
  | exact eN.mono _ _
  | exact LeO.none _
  | refine LeO.ite ?_ ?_
  | refine LeO.bind ?_ (fun _=>?_)):p:=h
theorem dI{p:Prop}(h:p:=by
 repeat' first
  | (with_reducible exact ih0 _ _ _)
  | (with_reducible exact ih1 _ _ _ _)
  | (with_reducible exact ih2 _ _ _ _)
  | (with_reducible exact ih3 _ _ _ _)
  | (with_reducible exact ih4 _ _ _ _ _)
  | (with_reducible exact LeO.refl _)
  | (with_reducible exact LeO.none _)
  | (with_reducible refine LeO.ite ?_ ?_)
  | (with_reducible refine LeO.bind ?_ (fun _=>?_))
  | exact ih0 _ _ _
  | exact ih1 _ _ _ _
  | exact ih2 _ _ _ _
  | exact ih3 _ _ _ _
  | exact ih4 _ _ _ _ _
  | exact LeO.none _
  | refine LeO.ite ?_ ?_
  | refine LeO.bind ?_ (fun _=>?_)):p:=h
theorem dJ{p:Prop}(h:p:=by
 repeat' first
  | (with_reducible exact ih0 _ _ _ _)
  | (with_reducible exact gF.mono _ _)
  | (with_reducible exact fF.mono _ _)
  | (with_reducible exact LeO.refl _)
  | (with_reducible exact LeO.none _)
  | (with_reducible refine LeO.ite ?_ ?_)
  | (with_reducible refine LeO.bind ?_ (fun _=>?_))
  | exact ih0 _ _ _ _
  | exact gF.mono _ _
  | exact fF.mono _ _
  | exact LeO.none _
  | refine LeO.ite ?_ ?_
  | refine LeO.bind ?_ (fun _=>?_)):p:=h
theorem dK{p:Prop}(h:p:=by
 repeat' first
  | (with_reducible exact fF.mono _ _)
  | (with_reducible exact LeO.refl _)
  | (with_reducible exact LeO.none _)
  | (with_reducible refine LeO.ite ?_ ?_)
  | (with_reducible refine LeO.bind ?_ (fun _=>?_))
  | exact fF.mono _ _
  | exact LeO.none _
  | refine LeO.ite ?_ ?_
  | refine LeO.bind ?_ (fun _=>?_)):p:=h
theorem dL{p:Prop}(h:p:=by
 repeat' first
  | (with_reducible exact ih0 _ _ _ _ _ _ _ _)
  | (with_reducible exact fU.mono _ _ _)
  | (with_reducible exact LeO.refl _)
  | (with_reducible exact LeO.none _)
  | (with_reducible refine LeO.ite ?_ ?_)
  | (with_reducible refine LeO.bind ?_ (fun _=>?_))
  | exact ih0 _ _ _ _ _ _ _ _
  | exact fU.mono _ _ _
  | exact LeO.none _
  | refine LeO.ite ?_ ?_
  | refine LeO.bind ?_ (fun _=>?_)):p:=h
theorem dM{p:Prop}(h:p:=by repeat (first | exact eW.refl _ | apply eW.step)):p:=h
theorem aA{p:Prop}(h:p:=by repeat (first | (with_reducible first | exact HB.out | apply fJ | apply fA | apply fM) | exact HB.out)):p:=h
theorem aC{p:Prop}(h:p:=by first | rfl | (simp[aFg,aFh] <;> rfl) | (simp[*,aFg,aFh] <;> rfl)):p:=h
theorem aD{p:Prop}(h:p:=by repeat (first | (with_reducible first | exact HB.out | apply fJ | apply fA | apply fM | refine gA ?_ GE114.out) | exact HB.out)):p:=h
theorem aE{p:Prop}(h:p:=by (with_reducible repeat (first | apply Kd.R_alloc | apply Kd.R_drewN | apply Kd.R_drew));exact HO_4.out):p:=h
theorem aG{p:Prop}(h:p:=by repeat (first | (with_reducible first | exact HB.out | apply fJ | apply fA | apply fM | refine gA ?_ GE149.out) | exact HB.out)):p:=h
theorem aH{p:Prop}(h:p:=by (with_reducible repeat (first | apply Kd.R_alloc | apply Kd.R_drewN | apply Kd.R_drew));exact HO_5.out):p:=h
theorem aI{p:Prop}(h:p:=by (with_reducible repeat (first | refine fO ?_ _ | refine fX ?_ | refine fN ?_ _));exact BK114.out):p:=h
theorem aJ{p:Prop}(h:p:=by (with_reducible repeat (first | apply Kd.R_alloc | apply Kd.R_drewN | apply Kd.R_drew));exact HO_3.out):p:=h
theorem aK{p:Prop}(h:p:=by first | rfl | (simp[aFg,aFh] <;> rfl) | (simp only[← hji7,← hji10];first | rfl | (simp[aFg,aFh] <;> rfl)) | (simp[*,aFg,aFh] <;> rfl)):p:=h
theorem aM{p:Prop}(h:p:=by repeat (first | (with_reducible first | exact HB.out | apply fJ | apply fA | apply fM | refine gA ?_ GE102.out) | exact HB.out)):p:=h
theorem aN{p:Prop}(h:p:=by repeat (first | (with_reducible first | exact HB.out | apply fJ | apply fA | apply fM | refine gA ?_ GE165.out) | exact HB.out)):p:=h
theorem aQ{p:Prop}(h:p:=by omega):p:=h
theorem aR{p:Prop}(h:p:=by (with_reducible repeat (first | apply Kd.R_alloc | apply Kd.R_drewN | apply Kd.R_drew));exact HO_8.out):p:=h
theorem aT{p:Prop}(h:p:=by have:=HK1.out;omega):p:=h
theorem aU{p:Prop}(h:p:=by repeat (first | (with_reducible first | exact HB.out | apply fJ | apply fA | apply fM | refine gA ?_ GE186.out) | exact HB.out)):p:=h
theorem aV{p:Prop}(h:p:=by repeat (first | (with_reducible first | exact HB.out | apply fJ | apply fA | apply fM | refine gA ?_ GE190.out) | exact HB.out)):p:=h
theorem aX{p:Prop}(h:p:=by repeat (first | (with_reducible first | exact HB.out | apply fJ | apply fA | apply fM | refine gA ?_ GE161.out) | exact HB.out)):p:=h
theorem aY{p:Prop}(h:p:=by repeat (first | (with_reducible first | exact HB.out | apply fJ | apply fA | apply fM | refine gA ?_ GE194.out) | exact HB.out)):p:=h
theorem aZ{p:Prop}(h:p:=by go_num):p:=h
theorem dN{p:Prop}(h:p:=by repeat (first | (with_reducible first | exact HB.out | apply fJ | apply fA | apply fM | refine gA ?_ GE194.out | refine gA ?_ GE196.out) | exact HB.out)):p:=h
theorem dO{p:Prop}(h:p:=by repeat (first | (with_reducible first | exact HB.out | apply fJ | apply fA | apply fM | refine gA ?_ GE163.out) | exact HB.out)):p:=h
theorem dP{p:Prop}(h:p:=by repeat (first | (with_reducible first | exact HB.out | apply fJ | apply fA | apply fM | refine gA ?_ GE199.out) | exact HB.out)):p:=h
theorem dQ{p:Prop}(h:p:=by first | exact h2 | exact h2.below):p:=h
theorem dR{p:Prop}(h:p:=by have:=HK1.out;have:=HJ4.out;have:=HK3.out;first | omega | exact Nat.le_refl _):p:=h
theorem dS{p:Prop}(h:p:=by (with_reducible repeat (first | apply Kd.R_alloc | apply Kd.R_drewN | apply Kd.R_drew));exact HO129.out):p:=h
theorem dT{p:Prop}(h:p:=by (with_reducible repeat (first | apply Kd.R_alloc | apply Kd.R_drewN | apply Kd.R_drew));exact HO_85.out):p:=h
theorem dU{p:Prop}(h:p:=by rw[← E.out];exact hpa):p:=h
theorem dV{p:Prop}(h:p:=by first | omega | exact Nat.le_refl _):p:=h
theorem dW{p:Prop}(h:p:=by have:=HK1.out;first | omega | exact Nat.le_refl _):p:=h
theorem dX{p:Prop}(h:p:=by have:=HK1.out;have:=HJ6.out;have:=HK3.out;omega):p:=h
theorem dY{p:Prop}(h:p:=by simp):p:=h
theorem dZ{p:Prop}(h:p:=by have:=HJ13.out;have:=HK2.out;have:=HJ20.out;have:=HJ23.out;have:=HK5.out;first | omega | exact Nat.le_refl _):p:=h
theorem eA{p:Prop}(h:p:=by have:=HK1.out;have:=HJ4.out;have:=HJ14.out;have:=HK4.out;omega):p:=h
end Go.Proofs.YtcdgldnphhidlaaGreatDoor
