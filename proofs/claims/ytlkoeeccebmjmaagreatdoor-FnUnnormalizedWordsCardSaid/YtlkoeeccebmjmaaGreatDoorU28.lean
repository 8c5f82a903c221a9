/- Texts that the law leans on: KnownV. Condition: as told at each. -/
import Derived.Test.YtlkoeeccebmjmaaGreatDoorUa
import Derived.Test.YtlkoeeccebmjmaaGreatDoorU26
set_option linter.unusedVariables false
set_option linter.unusedSimpArgs false
set_option maxRecDepth 100000
set_option maxHeartbeats 16000000
namespace Go.Proofs.YtlkoeeccebmjmaaGreatDoor.Path
open Go.RowKit Go.WideMaps Go.ZW.PrintWords Go.Proofs.YtlkoeeccebmjmaaGreatDoor.Base Go.Proofs.YtlkoeeccebmjmaaGreatDoor.Lower Go.Proofs.YtlkoeeccebmjmaaGreatDoor.Total Go.Proofs.YtlkoeeccebmjmaaGreatDoor.PCore
section
variable {w:World} {st:fM} {vl vd vf vc:Value}
theorem zU (S:mQ w st vl vd vf vc) (comp s:ByteArray) (hb1:shortS st comp s=true) :
 ∃ r:Bool,(r=true→asc s∧asc comp∧s.size≤400∧oW st comp s)∧∀ w',Below w.heap.size w w'→Calls Tryz.prog 20 #[.agg #[vl,vd,vf,vc],.string comp,.string s] w' fun e w''=>e = .returned (.bool r)∧Below w'.heap.size w' w'':=by
 obtain ⟨r,h1,h2⟩:=sD S comp s hb1;refine ⟨r,fun h=>h1 (by first | exact h | (simp only[Bool.and_eq_true] at h;exact h.1)),fun w' hb=>?_⟩;have S':=S.below hb;obtain ⟨Al,cl,rfl,_,_⟩:=S'.l;obtain ⟨Ad,cd,rfl,_,_⟩:=S'.d;obtain ⟨Af,cf,rfl,_,_⟩:=S'.f;obtain ⟨Ac,cc,rfl,_,_⟩:=S'.c;have hB1:Below w'.heap.size w' (w'.alloc (.cells #[.slice Al st.langs.length cl,.slice Ad st.dis.length cd,.slice Af st.fmts.length cf,.slice Ac st.cont.length cc] 25)):=(Below.refl _ _).alloc (Nat.le_refl _) _;have hR1:=Row.new w' [.slice Al st.langs.length cl,.slice Ad st.dis.length cd,.slice Af st.fmts.length cf,.slice Ac st.cont.length cc] 25;have cp:=h2 (w'.alloc (.cells #[.slice Al st.langs.length cl,.slice Ad st.dis.length cd,.slice Af st.fmts.length cf,.slice Ac st.cont.length cc] 25)) (hb.trans (hB1.mono hb.size))
 have HB1:=bX hB1;clear S S' h1 h2 hb hB1;go_enter Tryz.func20,Tryz.ntmps20;go_upto_region 1 with fail
 obtain ⟨w1,hw1⟩:∃ w1,w'.alloc (.cells #[.slice Al st.langs.length cl,.slice Ad st.dis.length cd,.slice Af st.fmts.length cf,.slice Ac st.cont.length cc] 25)=w1:=⟨_,rfl⟩
 rw[hw1] at HB1 hR1 cp ⊢;clear hw1;have r0:=hR1.at 0 _ rfl;have r1:=hR1.at 1 _ rfl;have r2:=hR1.at 2 _ rfl;have r3:=hR1.at 3 _ rfl;clear hR1;go_wp2_with fail
 refine cp.mono ?_;rintro e w3 ⟨rfl,hb3⟩;have HB3:=bX (eB HB1.out hb3);clear cp hb3 HB1 r0 r1 r2 r3;go_wp2_with fail
 go_ret;exact ⟨rfl,HB3.out⟩
end
end Go.Proofs.YtlkoeeccebmjmaaGreatDoor.Path
