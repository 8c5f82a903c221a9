/- Texts that the law leans on: FnListed. Condition: as told at each. -/
import Derived.Test.YtjlaamcklhdhaaaGreatDoorQ1
import Derived.Test.YtjlaamcklhdhaaaGreatDoorQ10
import Derived.Test.YtjlaamcklhdhaaaGreatDoorQ11
import Derived.Test.YtjlaamcklhdhaaaGreatDoorQ12
import Derived.Test.YtjlaamcklhdhaaaGreatDoorQ13
import Derived.Test.YtjlaamcklhdhaaaGreatDoorQ14
import Derived.Test.YtjlaamcklhdhaaaGreatDoorQ15
import Derived.Test.YtjlaamcklhdhaaaGreatDoorQ16
import Derived.Test.YtjlaamcklhdhaaaGreatDoorQ17
import Derived.Test.YtjlaamcklhdhaaaGreatDoorQ18
import Derived.Test.YtjlaamcklhdhaaaGreatDoorQ19
import Derived.Test.YtjlaamcklhdhaaaGreatDoorQ2
import Derived.Test.YtjlaamcklhdhaaaGreatDoorQ20
import Derived.Test.YtjlaamcklhdhaaaGreatDoorQ21
import Derived.Test.YtjlaamcklhdhaaaGreatDoorQ22
import Derived.Test.YtjlaamcklhdhaaaGreatDoorQ3
import Derived.Test.YtjlaamcklhdhaaaGreatDoorQ4
import Derived.Test.YtjlaamcklhdhaaaGreatDoorQ5
import Derived.Test.YtjlaamcklhdhaaaGreatDoorQ6
import Derived.Test.YtjlaamcklhdhaaaGreatDoorQ7
import Derived.Test.YtjlaamcklhdhaaaGreatDoorQ8
import Derived.Test.YtjlaamcklhdhaaaGreatDoorQ9
set_option linter.unusedVariables false
set_option linter.unusedSimpArgs false
namespace Go.Proofs.YtjlaamcklhdhaaaGreatDoor.Path
open Go.RowKit Go.Proofs.YtjlaamcklhdhaaaGreatDoorW.PrintWords Go.Proofs.YtjlaamcklhdhaaaGreatDoor.Base Go.Proofs.YtjlaamcklhdhaaaGreatDoor.Total Go.Proofs.YtjlaamcklhdhaaaGreatDoor.Ext Go.Proofs.YtjlaamcklhdhaaaGreatDoor.PCore
theorem ev_listed_l0 (l:List ByteArray) (s:ByteArray) (hl:l.length≤9223372036854775807):∀ (n j:Nat),l.length - j=n→j≤l.length→Ev (fun k=>laws_listed.l0 k s l (l.length:Int) (j:Int)) (listed (l.drop j) s):=by
 intro n
 induction n with
 | zero =>
  intro j h1 h2;rw[List.drop_of_length_le (by omega)];refine Ev.step (f:=fun _=>some false) (fun k=>?_) (Ev.now _);simp only[laws_listed.l0];rw[if_neg (by omega)]
 | succ n ih =>
  intro j h1 h2;have hi:j < l.length:=by omega
  by_cases c:l[j].toList=s.toList
  ·have:listed (l.drop j) s=true:=by
    unfold listed;rw[List.drop_eq_getElem_cons hi,List.any_cons,beq_iff_eq.2 c,Bool.true_or]
   rw[this];refine Ev.step (f:=fun _=>some true) (fun k=>?_) (Ev.now _);simp only[laws_listed.l0];rw[if_pos (by omega),if_pos (by omega),if_pos (by omega),rdOf_nat _ _ _ hi,if_pos c]
  ·have:listed (l.drop j) s=listed (l.drop (j+1)) s:=by
    unfold listed;rw[List.drop_eq_getElem_cons hi,List.any_cons,beq_eq_false_iff_ne.2 c,Bool.false_or]
   rw[this];refine Ev.step (fun k=>?_) (ih (j+1) (by omega) (by omega));simp only[laws_listed.l0];rw[if_pos (by omega),if_pos (by omega),if_pos (by omega),rdOf_nat _ _ _ hi,if_neg c,w64 (by omega) (by omega)];rfl
theorem listed_calls {w:World} {v:Value} {l:List ByteArray} (H:StrRow w 0 v l) (hl:l.length≤9223372036854775807) (s:ByteArray):Calls Tryz.prog 25 #[v,.string s] w fun e w'=>e = .returned (.bool (listed l s))∧Below w.heap.size w w':=by
 obtain ⟨k,hk⟩:=(Ev.congr (g:=fun k=>laws_listed.f k l s) (fun k=>rfl) (ev_listed_l0 l s hl l.length 0 (by omega) (by omega))).rounds;obtain ⟨A0,c0,rfl,h0,r0⟩:=H.kd hl
 exact (laws_listed.calls k A0 c0 l s _ w r0 h0 hk).mono fun _ _ ⟨h1,h2⟩=>⟨h1,h2.below⟩
end Go.Proofs.YtjlaamcklhdhaaaGreatDoor.Path
