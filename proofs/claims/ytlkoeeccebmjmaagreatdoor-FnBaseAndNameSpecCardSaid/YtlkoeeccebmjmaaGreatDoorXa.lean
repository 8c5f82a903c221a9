/- Short words for what the texts of this claim say often: each is proved where it is used. No condition. -/
import Derived.IntWalk
import Derived.Lib.Strings
import Derived.Below
import Derived.OneCell
import Derived.Laws.AppendOwn
import Derived.Deep.OwnRows
import Derived.Maps.OwnSet
import Derived.Maps.StringElems
import Derived.Laws.EntriesVeiled
import Derived.OrdersHeld
import Derived.Deep.RegionHeld3
import Derived.Laws.BitsLemmas
import Derived.RowKit
import Derived.StillTailTactics
import Derived.Laws.OwnMore
import Derived.ProofKit
import Derived.OpenShut
import Derived.LaidMore
import Derived.Lay
import Derived.SevenTiedAt
import Derived.Stop.Joined
import Derived.ShutString
import Derived.Lib.LastIndexByte
import Derived.Lib.ConvBytes
import Derived.Lib.Case
import Derived.Deep.QuietTactic
import Derived.Tactics
import Derived.WalkKit
import Derived.Deep.DeepCutAuto
import Derived.Deep.CutBlock
import Derived.Deep.Draws
import Derived.Deep.AppendLies
import Derived.Maps.AppendAt
import Derived.OwnWalk
import Derived.Laws.BytesArg
import Derived.Laws.MakeOwn
import Derived.Laws.Slices
import Derived.KernelRfl
import Derived.RowKit3
import Derived.Deep.LoopGhost
import Derived.BigQuiet
import Derived.WideLaws
import Derived.Laws.Rows
import Derived.Lib.AppendStr
import Derived.ArgAppend
import Derived.Laws.IdiomCopy
import Derived.Deep.MidRow
import Derived.Lib.LazyBuf
import Derived.SliceStrings
import Derived.Deep.Slices
import Derived.Deep.Fields
import Derived.Lib.SmallJoins
import Derived.ChangeSame
import Derived.Carry
import Derived.Defers
namespace Go.Proofs.YtlkoeeccebmjmaaGreatDoor
end Go.Proofs.YtlkoeeccebmjmaaGreatDoor
namespace Go.ZW.PrintWords
structure Aside0 (p:Prop):Prop where mk::(out:p)
end Go.ZW.PrintWords
namespace Go.Proofs.YtlkoeeccebmjmaaGreatDoor
open Go.ZW.PrintWords
theorem bV{p:Prop}[Decidable p](h:decide p=true:=by first | (with_reducible assumption) | assumption):p:=of_decide_eq_true h
theorem bW{p:Prop}(h:p):Aside0 p:=Aside0.mk h
theorem bX{α:Type}(l:List α)(i:Nat)(a:α):l.toArray.setIfInBounds i a=(l.set i a).toArray:=List.setIfInBounds_toArray l i a
theorem bY{α:Type}(a b:α)(l:List α):(a::l).set 0 b=b::l:=rfl
theorem bZ{α:Type}(a b:α)(l:List α)(n:Nat):(a::l).set (n+1) b=a::l.set n b:=rfl
theorem bA{p:Prop}(h:p:=by omega):p:=h
theorem bB{p:Prop}(h:p:=by kernel_rfl):p:=h
theorem bC{p:Prop}(h:p:=by repeat (first | (with_reducible first | exact HB.out | apply fC | apply eU | apply fG) | exact HB.out)):p:=h
theorem bD{p:Prop}(h:p:=by (try simp only[List.map_toArray,List.map_cons,List.map_nil]);first | done | rfl | (simp only[List.length_drop,List.length_take];rfl)):p:=h
theorem bE{p:Prop}(h:p:=by first | rfl | (simp;done) | (simp[*];done)):p:=h
theorem bF{p:Prop}(h:p:=by decide):p:=h
theorem bG{p:Prop}(h:p:=by simp[cells]):p:=h
theorem bH{p:Prop}(h:p:=by rfl):p:=h
theorem bI{p:Prop}(h:p:=by simp only[List.map_toArray,List.map_cons,List.map_nil];rfl):p:=h
theorem bJ{p:Prop}(h:p:=by simp):p:=h
theorem bK{p:Prop}(h:p:=by first | exact ht.trans HALL.out.symm | exact ht.trans (HALL.out.symm.trans (by rw[hnm]))):p:=h
theorem bL{p:Prop}(h:p:=by simp[Value.oneCell']):p:=h
theorem bM{p:Prop}(h:p:=by (with_reducible repeat (first | apply Kd.R_alloc | apply Kd.R_drewN | apply Kd.R_drew));exact HO_8.out):p:=h
theorem bN{p:Prop}(h:p:=by simp[pK]):p:=h
theorem bO{p:Prop}(h:p:=by (with_reducible repeat (first | apply Kd.R_alloc | apply Kd.R_drewN | apply Kd.R_drew));exact HO_3.out):p:=h
theorem bP{p:Prop}(h:p:=by (with_reducible repeat (first | apply Kd.R_alloc | apply Kd.R_drewN | apply Kd.R_drew));exact HO_5.out):p:=h
theorem bQ{p:Prop}(h:p:=by repeat first | exact ⟨_,rfl⟩ | apply IsMap.put):p:=h
theorem bR{p:Prop}(h:p:=by unfold maxLen;omega):p:=h
theorem bS{p:Prop}(h:p:=by have:=HR2.out.lt;have:=HR2.out.base;omega):p:=h
theorem bT{p:Prop}(h:p:=by rw[← HP1V.out];rfl):p:=h
theorem bU{p:Prop}(h:p:=by simp[results,Tryz.results114]):p:=h
theorem cA{p:Prop}(h:p:=by first | (go_simp;done) | (go_simp;rfl)):p:=h
theorem cB{p:Prop}(h:p:=by repeat (first | exact (Kd.C_below HR0_0.out HB.out) | (with_reducible refine Kd.C_alloc ?_ _) | (with_reducible refine Kd.C_drewN ?_ _) | (with_reducible refine Kd.C_drew ?_))):p:=h
theorem cC{p:Prop}(h:p:=by repeat (first | exact (Kd.C_below HR0_1.out (by repeat (first | (with_reducible first | exact HB.out | apply fC | apply eU | apply fG | refine fT ?_ GE102.out) | exact HB.out))) | (with_reducible refine Kd.C_alloc ?_ _) | (with_reducible refine Kd.C_drewN ?_ _) | (with_reducible refine Kd.C_drew ?_))):p:=h
theorem cD{p:Prop}(h:p:=by repeat (first | exact HR111.out | (with_reducible refine Kd.C_alloc ?_ _) | (with_reducible refine Kd.C_drewN ?_ _) | (with_reducible refine Kd.C_drew ?_))):p:=h
theorem cE{p:Prop}(h:p:=by repeat (first | exact (Kd.C_below HR0_1.out (by repeat (first | (with_reducible first | exact HB.out | apply fC | apply eU | apply fG | refine fT ?_ GE114.out) | exact HB.out))) | (with_reducible refine Kd.C_alloc ?_ _) | (with_reducible refine Kd.C_drewN ?_ _) | (with_reducible refine Kd.C_drew ?_))):p:=h
theorem cG{p:Prop}(h:p:=by repeat (first | exact (Kd.C_below HR0_3.out (by repeat (first | (with_reducible first | exact HB.out | apply fC | apply eU | apply fG | refine fT ?_ GE114.out) | exact HB.out))) | (with_reducible refine Kd.C_alloc ?_ _) | (with_reducible refine Kd.C_drewN ?_ _) | (with_reducible refine Kd.C_drew ?_))):p:=h
theorem cH{p:Prop}(h:p:=by exact (by repeat (first | (with_reducible first | exact HB.out | apply fC | apply eU | apply fG) | exact HB.out))):p:=h
theorem cI{p:Prop}(h:p:=by exact (by (with_reducible repeat (first | apply Kd.R_alloc | apply Kd.R_drewN | apply Kd.R_drew));exact HO_3.out)):p:=h
theorem cJ{p:Prop}(h:p:=by exact (eJ (by repeat (first | (with_reducible first | exact HB.out | apply fC | apply eU | apply fG) | exact HB.out)))):p:=h
theorem cK{p:Prop}(h:p:=by repeat (first | exact (Kd.R_reads' HO_8.out).2.2 | (with_reducible refine Kd.C_alloc ?_ _) | (with_reducible refine Kd.C_drewN ?_ _) | (with_reducible refine Kd.C_drew ?_))):p:=h
theorem cL{p:Prop}(h:p:=by repeat (first | exact (Kd.C_below HR0_1.out HB.out) | (with_reducible refine Kd.C_alloc ?_ _) | (with_reducible refine Kd.C_drewN ?_ _) | (with_reducible refine Kd.C_drew ?_))):p:=h
theorem cM{p:Prop}(h:p:=by repeat (first | exact (Kd.C_below HR0_2.out HB.out) | (with_reducible refine Kd.C_alloc ?_ _) | (with_reducible refine Kd.C_drewN ?_ _) | (with_reducible refine Kd.C_drew ?_))):p:=h
theorem cN{p:Prop}(h:p:=by repeat (first | exact (Kd.C_below HR0_3.out HB.out) | (with_reducible refine Kd.C_alloc ?_ _) | (with_reducible refine Kd.C_drewN ?_ _) | (with_reducible refine Kd.C_drew ?_))):p:=h
theorem cO{p:Prop}(h:p:=by repeat (first | exact (Kd.C_below HR0_1.out (by repeat (first | (with_reducible first | exact HB.out | apply fC | apply eU | apply fG | refine fT ?_ GE165.out) | exact HB.out))) | (with_reducible refine Kd.C_alloc ?_ _) | (with_reducible refine Kd.C_drewN ?_ _) | (with_reducible refine Kd.C_drew ?_))):p:=h
theorem cQ{p:Prop}(h:p:=by repeat (first | exact (Kd.C_below HR0_2.out (by repeat (first | (with_reducible first | exact HB.out | apply fC | apply eU | apply fG | refine fT ?_ GE165.out) | exact HB.out))) | (with_reducible refine Kd.C_alloc ?_ _) | (with_reducible refine Kd.C_drewN ?_ _) | (with_reducible refine Kd.C_drew ?_))):p:=h
theorem cT{p:Prop}(h:p:=by repeat (first | exact (Kd.C_below HR0_4.out HB.out) | (with_reducible refine Kd.C_alloc ?_ _) | (with_reducible refine Kd.C_drewN ?_ _) | (with_reducible refine Kd.C_drew ?_))):p:=h
theorem cU{p:Prop}(h:p:=by repeat (first | exact (Kd.C_below HR0_5.out HB.out) | (with_reducible refine Kd.C_alloc ?_ _) | (with_reducible refine Kd.C_drewN ?_ _) | (with_reducible refine Kd.C_drew ?_))):p:=h
theorem cV{p:Prop}(h:p:=by repeat (first | exact (Kd.C_below HR0_6.out HB.out) | (with_reducible refine Kd.C_alloc ?_ _) | (with_reducible refine Kd.C_drewN ?_ _) | (with_reducible refine Kd.C_drew ?_))):p:=h
theorem cW{p:Prop}(h:p:=by
 repeat' first
  | (with_reducible exact ih0 _ _ _ _)
  | (with_reducible exact LeO.refl _)
  | (with_reducible exact LeO.none _)
  | (with_reducible refine LeO.ite ?_ ?_)
  | (with_reducible refine LeO.bind ?_ (fun _=>?_))
  | exact ih0 _ _ _ _
  | exact LeO.none _
  | refine LeO.ite ?_ ?_
  | refine LeO.bind ?_ (fun _=>?_)):p:=h
theorem cX{p:Prop}(h:p:=by
 repeat' first
  | (with_reducible exact ih0 _ _ _ _ _ _ _ _)
  | (with_reducible exact gF.mono _ _)
  | (with_reducible exact LeO.refl _)
  | (with_reducible exact LeO.none _)
  | (with_reducible refine LeO.ite ?_ ?_)
  | (with_reducible refine LeO.bind ?_ (fun _=>?_))
  | exact ih0 _ _ _ _ _ _ _ _
  | exact gF.mono _ _
  | exact LeO.none _
  | refine LeO.ite ?_ ?_
  | refine LeO.bind ?_ (fun _=>?_)):p:=h
theorem cY{p:Prop}(h:p:=by
 repeat' first
  | (with_reducible exact ih0 _ _)
  | (with_reducible exact LeO.refl _)
  | (with_reducible exact LeO.none _)
  | (with_reducible refine LeO.ite ?_ ?_)
  | (with_reducible refine LeO.bind ?_ (fun _=>?_))
  | exact ih0 _ _
  | exact LeO.none _
  | refine LeO.ite ?_ ?_
  | refine LeO.bind ?_ (fun _=>?_)):p:=h
theorem cZ{p:Prop}(h:p:=by
 repeat' first
  | (with_reducible exact ih0 _ _ _)
  | (with_reducible exact LeO.refl _)
  | (with_reducible exact LeO.none _)
  | (with_reducible refine LeO.ite ?_ ?_)
  | (with_reducible refine LeO.bind ?_ (fun _=>?_))
  | exact ih0 _ _ _
  | exact LeO.none _
  | refine LeO.ite ?_ ?_
  | refine LeO.bind ?_ (fun _=>?_)):p:=h
theorem dA{p:Prop}(h:p:=by
 repeat' first
  | (with_reducible exact ih0 _ _)
  | (with_reducible exact fD.mono _ _ _)
  | (with_reducible exact eM.mono _ _)
  | (with_reducible exact LeO.refl _)
  | (with_reducible exact LeO.none _)
  | (with_reducible refine LeO.ite ?_ ?_)
  | (with_reducible refine LeO.bind ?_ (fun _=>?_))
  | exact ih0 _ _
  | exact fD.mono _ _ _
  | exact eM.mono _ _
  | exact LeO.none _
  | refine LeO.ite ?_ ?_
  | refine LeO.bind ?_ (fun _=>?_)):p:=h
theorem dB{p:Prop}(h:p:=by
 repeat' first
  | (with_reducible exact ih0 _ _ _ _ _)
  | (with_reducible exact ih1 _ _ _ _ _)
  | (with_reducible exact ih2 _ _ _ _ _)
  | (with_reducible exact fD.mono _ _ _)
  | (with_reducible exact eM.mono _ _)
  | (with_reducible exact eK.mono _ _)
  | (with_reducible exact LeO.refl _)
  | (with_reducible exact LeO.none _)
  | (with_reducible refine LeO.ite ?_ ?_)
  | (with_reducible refine LeO.bind ?_ (fun _=>?_))
  | exact ih0 _ _ _ _ _
  | exact ih1 _ _ _ _ _
  | exact ih2 _ _ _ _ _
  | exact fD.mono _ _ _
  | exact eM.mono _ _
  | exact eK.mono _ _
  | exact LeO.none _
  | refine LeO.ite ?_ ?_
  | refine LeO.bind ?_ (fun _=>?_)):p:=h
theorem dC{p:Prop}(h:p:=by
 repeat' first
  | (with_reducible exact ih0 _ _ _)
  | (with_reducible exact ih1 _ _ _ _)
  | (with_reducible exact ih2 _ _ _ _)
  | (with_reducible exact LeO.refl _)
  | (with_reducible exact LeO.none _)
  | (with_reducible refine LeO.ite ?_ ?_)
  | (with_reducible refine LeO.bind ?_ (fun _=>?_))
  | exact ih0 _ _ _
  | exact ih1 _ _ _ _
  | exact ih2 _ _ _ _
  | exact LeO.none _
  | refine LeO.ite ?_ ?_
  | refine LeO.bind ?_ (fun _=>?_)):p:=h
theorem dD{p:Prop}(h:p:=by
 repeat' first
  | (with_reducible exact ih0 _ _ _ _)
  | (with_reducible exact ih1 _ _ _ _ _ _)
  | (with_reducible exact ih2 _ _ _ _ _ _ _)
  | (with_reducible exact ih3 _ _ _ _ _ _ _)
  | (with_reducible exact ih4 _ _ _ _ _ _ _ _ _ _ _)
  | (with_reducible exact ih5 _ _ _ _ _ _ _ _ _ _ _ _ _)
  | (with_reducible exact fD.mono _ _ _)
  | (with_reducible exact eG.mono _ _)
  | (with_reducible exact LeO.refl _)
  | (with_reducible exact LeO.none _)
  | (with_reducible refine LeO.ite ?_ ?_)
  | (with_reducible refine LeO.bind ?_ (fun _=>?_))
  | exact ih0 _ _ _ _
  | exact ih1 _ _ _ _ _ _
  | exact ih2 _ _ _ _ _ _ _
  | exact ih3 _ _ _ _ _ _ _
  | exact ih4 _ _ _ _ _ _ _ _ _ _ _
  | exact ih5 _ _ _ _ _ _ _ _ _ _ _ _ _
  | exact fD.mono _ _ _
  | exact eG.mono _ _
  | exact LeO.none _
  | refine LeO.ite ?_ ?_
  | refine LeO.bind ?_ (fun _=>?_)):p:=h
theorem dE{p:Prop}(h:p:=by
 repeat' first
  | (with_reducible exact eR.mono _ _ _)
  | (with_reducible exact LeO.refl _)
  | (with_reducible exact LeO.none _)
  | (with_reducible refine LeO.ite ?_ ?_)
  | (with_reducible refine LeO.bind ?_ (fun _=>?_))
  | exact eR.mono _ _ _
  | exact LeO.none _
  | refine LeO.ite ?_ ?_
  | refine LeO.bind ?_ (fun _=>?_)):p:=h
theorem dF{p:Prop}(h:p:=by
 repeat' first
  | (with_reducible exact ih0 _ _ _)
  | (with_reducible exact ih1 _ _ _ _)
  | (with_reducible exact ih2 _ _ _ _)
  | (with_reducible exact ih3 _ _ _ _)
  | (with_reducible exact ih4 _ _ _ _ _)
  | (with_reducible exact LeO.refl _)
  | (with_reducible exact LeO.none _)
  | (with_reducible refine LeO.ite ?_ ?_)
  | (with_reducible refine LeO.bind ?_ (fun _=>?_))
  | exact ih0 _ _ _
  | exact ih1 _ _ _ _
  | exact ih2 _ _ _ _
  | exact ih3 _ _ _ _
  | exact ih4 _ _ _ _ _
  | exact LeO.none _
  | refine LeO.ite ?_ ?_
  | refine LeO.bind ?_ (fun _=>?_)):p:=h
theorem dG{p:Prop}(h:p:=by
 repeat' first
  | (with_reducible exact ih0 _ _ _ _ _ _ _ _ _ _ _ _ _ _ _ _)
  | (with_reducible exact kD.mono _ _)
  | (with_reducible exact LeO.refl _)
  | (with_reducible exact LeO.none _)
  | (with_reducible refine LeO.ite ?_ ?_)
  | (with_reducible refine LeO.bind ?_ (fun _=>?_))
  | exact ih0 _ _ _ _ _ _ _ _ _ _ _ _ _ _ _ _
  | exact kD.mono _ _
  | exact LeO.none _
  | refine LeO.ite ?_ ?_
  | refine LeO.bind ?_ (fun _=>?_)):p:=h
theorem dH{p:Prop}(h:p:=by repeat (first | exact eV.refl _ | apply eV.step)):p:=h
theorem aA{p:Prop}(h:p:=by repeat (first | (with_reducible first | exact HB.out | apply fC | apply eU | apply fG) | exact HB.out)):p:=h
theorem aC{p:Prop}(h:p:=by first | rfl | (simp[oZ,pA] <;> rfl) | (simp[*,oZ,pA] <;> rfl)):p:=h
theorem aD{p:Prop}(h:p:=by repeat (first | (with_reducible first | exact HB.out | apply fC | apply eU | apply fG | refine fT ?_ GE114.out) | exact HB.out)):p:=h
theorem aE{p:Prop}(h:p:=by repeat (first | (with_reducible first | exact HB.out | apply fC | apply eU | apply fG | refine fT ?_ GE201.out) | exact HB.out)):p:=h
theorem aG{p:Prop}(h:p:=by (with_reducible repeat (first | apply Kd.R_alloc | apply Kd.R_drewN | apply Kd.R_drew));exact HO_4.out):p:=h
theorem aH{p:Prop}(h:p:=by repeat (first | (with_reducible first | exact HB.out | apply fC | apply eU | apply fG | refine fT ?_ GE149.out) | exact HB.out)):p:=h
theorem aI{p:Prop}(h:p:=by (with_reducible repeat (first | apply Kd.R_alloc | apply Kd.R_drewN | apply Kd.R_drew));exact HO_3.out):p:=h
theorem aJ{p:Prop}(h:p:=by (with_reducible repeat (first | apply Kd.R_alloc | apply Kd.R_drewN | apply Kd.R_drew));exact HO_5.out):p:=h
theorem aK{p:Prop}(h:p:=by (with_reducible repeat (first | refine fZ ?_ _ | refine gC ?_ | refine fY ?_ _));exact BK114.out):p:=h
theorem aM{p:Prop}(h:p:=by omega):p:=h
theorem aN{p:Prop}(h:p:=by first | rfl | (simp[oZ,pA] <;> rfl) | (simp only[← hji7,← hji10];first | rfl | (simp[oZ,pA] <;> rfl)) | (simp[*,oZ,pA] <;> rfl)):p:=h
theorem aQ{p:Prop}(h:p:=by repeat (first | (with_reducible first | exact HB.out | apply fC | apply eU | apply fG | refine fT ?_ GE102.out) | exact HB.out)):p:=h
theorem aR{p:Prop}(h:p:=by repeat (first | (with_reducible first | exact HB.out | apply fC | apply eU | apply fG | refine fT ?_ GE165.out) | exact HB.out)):p:=h
theorem aT{p:Prop}(h:p:=by (with_reducible repeat (first | apply Kd.R_alloc | apply Kd.R_drewN | apply Kd.R_drew));exact HO_8.out):p:=h
theorem aV{p:Prop}(h:p:=by repeat (first | (with_reducible first | exact HB.out | apply fC | apply eU | apply fG | refine fT ?_ GE192.out) | exact HB.out)):p:=h
theorem aW{p:Prop}(h:p:=by have:=HK1.out;omega):p:=h
theorem aX{p:Prop}(h:p:=by repeat (first | (with_reducible first | exact HB.out | apply fC | apply eU | apply fG | refine fT ?_ GE161.out) | exact HB.out)):p:=h
theorem aY{p:Prop}(h:p:=by (with_reducible repeat (first | refine fZ ?_ _ | refine gC ?_ | refine fY ?_ _));exact BK201.out):p:=h
theorem aZ{p:Prop}(h:p:=by go_num):p:=h
theorem dI{p:Prop}(h:p:=by first | omega | exact Nat.le_refl _):p:=h
theorem dJ{p:Prop}(h:p:=by repeat (first | (with_reducible first | exact HB.out | apply fC | apply eU | apply fG | refine fT ?_ GE163.out) | exact HB.out)):p:=h
theorem dL{p:Prop}(h:p:=by repeat (first | (with_reducible first | exact HB.out | apply fC | apply eU | apply fG | refine fT ?_ GE199.out) | exact HB.out)):p:=h
theorem dM{p:Prop}(h:p:=by repeat (first | (with_reducible first | exact HB.out | apply fC | apply eU | apply fG | refine fT ?_ GE206.out) | exact HB.out)):p:=h
theorem dN{p:Prop}(h:p:=by repeat (first | (with_reducible first | exact HB.out | apply fC | apply eU | apply fG | refine fT ?_ GE208.out) | exact HB.out)):p:=h
theorem dO{p:Prop}(h:p:=by first | exact h2 | exact h2.below):p:=h
theorem dP{p:Prop}(h:p:=by have:=HK1.out;have:=HJ4.out;have:=HK3.out;first | omega | exact Nat.le_refl _):p:=h
theorem dQ{p:Prop}(h:p:=by (with_reducible repeat (first | apply Kd.R_alloc | apply Kd.R_drewN | apply Kd.R_drew));exact HO129.out):p:=h
theorem dR{p:Prop}(h:p:=by (with_reducible repeat (first | apply Kd.R_alloc | apply Kd.R_drewN | apply Kd.R_drew));exact HO_85.out):p:=h
theorem dS{p:Prop}(h:p:=by rw[← E.out];exact hpa):p:=h
theorem dT{p:Prop}(h:p:=by have:=HK1.out;first | omega | exact Nat.le_refl _):p:=h
theorem dU{p:Prop}(h:p:=by have:=HK1.out;have:=HJ6.out;have:=HK3.out;omega):p:=h
theorem dV{p:Prop}(h:p:=by simp):p:=h
theorem dW{p:Prop}(h:p:=by have:=HJ13.out;have:=HK2.out;have:=HJ20.out;have:=HJ23.out;have:=HK5.out;first | omega | exact Nat.le_refl _):p:=h
theorem dX{p:Prop}(h:p:=by have:=HK1.out;have:=HJ4.out;have:=HJ14.out;have:=HK4.out;omega):p:=h
end Go.Proofs.YtlkoeeccebmjmaaGreatDoor
