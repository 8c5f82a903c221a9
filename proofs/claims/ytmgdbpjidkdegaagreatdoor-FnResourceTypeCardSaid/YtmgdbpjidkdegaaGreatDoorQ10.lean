/- Texts that the law leans on: PCorex2. Condition: as told at each. -/
import Derived.Test.YtmgdbpjidkdegaaGreatDoorQa
import Derived.Test.YtmgdbpjidkdegaaGreatDoorQ9
set_option linter.unusedVariables false
set_option linter.unusedSimpArgs false
namespace Go.Proofs.YtmgdbpjidkdegaaGreatDoor.PCore
open Go.RowKit Go.Proofs.YtmgdbpjidkdegaaGreatDoorW.PrintWords Go.Proofs.YtmgdbpjidkdegaaGreatDoorW.PrintLast Go.Proofs.YtmgdbpjidkdegaaGreatDoorW.PrintMore
attribute [local go_sem] max2_int min2_int max_two min_two max_three min_three max_four min_four   -- for this text's walks alone
set_option linter.unusedVariables false
set_option linter.unusedSimpArgs false
theorem among_take (k:Nat) (A0:Option Addr) (c0:Nat) (l0:List ByteArray) (x:Int) (a1:ByteArray) (r:Bool) (w:World) (h0:0≤x) (h1:x < (l0.length:Int)) (hr0:Kd.C Kd.string w A0 (l0.take x.toNat).length (l0.take x.toNat)) (hc0:(l0.take x.toNat).length≤c0) (h:spec_among.f k (l0.take x.toNat) a1=some r) :
 Calls Tryz.prog 68 #[.slice A0 x.toNat c0,.string a1] w fun e w'=>e = .returned (.bool r)∧Drawn0 w w':=by
 have hl:(l0.take x.toNat).length=x.toNat:=by rw[List.length_take];omega
 have c:=spec_among.calls k A0 c0 (l0.take x.toNat) a1 r w hr0 hc0 h;rw[hl] at c;exact c
def spec_siteWords.l0:Nat→List ByteArray→Int→Option (Bool)
 | 0,_,_=>none
 | k+1,x0,x3=>if x3 < (x0.length:Int) then (if 0≤x3 then ((spec_siteWord.f k (rdOf ByteArray.empty x0 x3)).bind fun t110=>(if t110=true then (if x3≤(x0.length:Int) then ((spec_among.f k (x0.take (x3:Int).toNat) (rdOf ByteArray.empty x0 x3)).bind fun t113=>(if t113=true then (some false) else (spec_siteWords.l0 k x0 (wrap64 (x3+1))))) else (none)) else (some false))) else (none)) else (some (decide ((x0.length:Int)≤12)))
def spec_siteWords.f (k:Nat) (l0:List ByteArray):Option (Bool):=spec_siteWords.l0 k l0 0
theorem spec_siteWords.mono_l:∀ k,(∀ y0 y1,LeO (spec_siteWords.l0 k y0 y1) (spec_siteWords.l0 (k+1) y0 y1))
 | 0=>fun _ _ r h=>by simp[spec_siteWords.l0] at h
 | k+1=>by
  have ih0:=spec_siteWords.mono_l k
  ·intro y0 y1;unfold spec_siteWords.l0
   exact cQ
theorem spec_siteWords.mono:∀ a0 k,LeO (spec_siteWords.f k a0) (spec_siteWords.f (k+1) a0):=by
 intro a0 k;have ih0:=spec_siteWords.mono_l k;unfold spec_siteWords.f
 exact cQ
set_option maxHeartbeats 8000000 in
set_option maxRecDepth 100000 in
theorem spec_siteWords.calls (k:Nat) (A0:Option Addr) (c0:Nat) (l0:List ByteArray) (r:Bool) (w:World) (hr0:Kd.C Kd.string w A0 l0.length l0) (hc0:l0.length≤c0) (h:spec_siteWords.f k l0=some r) :
 Calls Tryz.prog 67 #[.slice A0 l0.length c0] w fun e w'=>e = .returned (.bool r)∧Drawn0 w w':=by
 have HR0:=bR hr0;have HC0:=bR hc0;clear hr0 hc0;have H:(spec_siteWords.l0 k l0 0)=some r:=h;clear h;have H':=bR H;clear H;go_enter Tryz.func67,Tryz.ntmps67;go_wp2
 repeat (go_quiet (fail);try go_wp2)
 go_loopg [3] k (fun kq v3 w'=>∃ (x3_1:Int),v3 = .int .i64 x3_1∧Aside0 (spec_siteWords.l0 kq l0 x3_1=some r)∧Aside0 (kq≤k)∧Drawn0 w w')
 case atStart=>exact ⟨(0),bE,H',⟨Nat.le_refl _⟩,dA⟩
 case round =>
  clear H';obtain ⟨x3_1,rfl,HA,HK1,⟨m1,rfl⟩⟩:=hrel
  cases gk with
  | zero=>exact absurd HA.out (by simp[spec_siteWords.l0])
  | succ k1 =>
   have H:=HA.out;clear HA;simp only[spec_siteWords.l0] at H
   by_cases c2:x3_1 < (l0.length:Int)
   ·rw[if_pos c2] at H;have c2b0:decide (x3_1 < (l0.length:Int))=true:=decide_eq_true c2;clear c2
    by_cases c3:0≤x3_1
    ·rw[if_pos c3] at H;have c3b0:decide (0≤x3_1)=true:=decide_eq_true c3;clear c3;replace H:=Option.bind_eq_some_iff.mp H;obtain ⟨t110,A40,H⟩:=H;replace H:(if t110=true then (if x3_1≤(l0.length:Int) then ((spec_among.f k1 (l0.take (x3_1:Int).toNat) (rdOf ByteArray.empty l0 x3_1)).bind fun t113=>(if t113=true then (some false) else (spec_siteWords.l0 k1 l0 (wrap64 (x3_1+1))))) else (none)) else (some false))=some r:=H;have A4:=bR A40;clear A40
     by_cases c5:t110=true
     ·subst c5;have H1:(if x3_1≤(l0.length:Int) then ((spec_among.f k1 (l0.take (x3_1:Int).toNat) (rdOf ByteArray.empty l0 x3_1)).bind fun t113=>(if t113=true then (some false) else (spec_siteWords.l0 k1 l0 (wrap64 (x3_1+1))))) else (none))=some r:=by rw[if_pos rfl] at H;exact H
      clear H;have H:=H1;clear H1;have c6b0:=eq_true (bQ:0≤x3_1)
      by_cases c7:x3_1≤(l0.length:Int)
      ·rw[if_pos c7] at H;have c7b0:=eq_true c7;have c7b1:decide (x3_1≤(l0.length:Int))=true:=decide_eq_true c7;clear c7;replace H:=Option.bind_eq_some_iff.mp H;obtain ⟨t113,A80,H⟩:=H;replace H:(if t113=true then (some false) else (spec_siteWords.l0 k1 l0 (wrap64 (x3_1+1))))=some r:=H;have A8:=bR A80;clear A80
       by_cases c9:t113=true
       ·subst c9;have H1:(some false)=some r:=by rw[if_pos rfl] at H;exact H
        clear H;have H:=H1;clear H1;obtain rfl:=Option.some.inj H;have p109:0≤(x3_1:Int):=bQ;have q109:x3_1 < (l0.length:Int):=bQ;obtain ⟨ad109,e109,hx109_0⟩:=Kd.at_string HR0.out x3_1 p109 q109;cases e109;replace p109:=eq_true p109;replace q109:=eq_true q109
        go_wp2_with (first | (go_at_call 69;(with_reducible refine (spec_siteWord.calls k1 (rdOf ByteArray.empty l0 x3_1) true _ A4.out).mono ?_);rintro e w' ⟨rfl,⟨nd,rfl⟩⟩;(try first | exact ⟨rfl,_,World.drewN_drewN _ _ _⟩ | exact ⟨rfl,_,Eq.trans (World.drewN_drewN _ _ _) (congrArg (World.drewN _) (Nat.add_assoc _ _ _))⟩);obtain ⟨i010,hi010,_,hsz10,_⟩:=info_parts info9;obtain ⟨hcut10,hA10,hC10⟩:=print_take_of (P:=Tryz.prog) Value.string (⟨#[]⟩:ByteArray) 22 9 .i64 Tryz.underlying22 hi010 hsz10 (some ad109) c0 l0 x3_1 (bQ) (bQ) HC0.out;have HR111:=bR (Kd.C_of_reads (h1:=fun _=>rfl) (hA10 _ (Kd.reads_of_C HR0.out)));have HC111:=bR hC10;clear hA10 hC10 hi010 hsz10;have p112:0≤(x3_1:Int):=bQ;have q112:x3_1 < (l0.length:Int):=bQ;obtain ⟨ad112,e112,hx112_0⟩:=Kd.at_string HR0.out x3_1 p112 q112;obtain rfl:ad109=ad112:=(by injection e112);replace p112:=eq_true p112;replace q112:=eq_true q112) | (go_at_call 68;(with_reducible refine (among_take k1 _ _ l0 x3_1 (rdOf ByteArray.empty l0 x3_1) true _ (bQ) (bQ) ?side1 ?side2 A8.out).mono ?_);(case side1=>exact bY);(case side2=>exact HC111.out);rintro e w' ⟨rfl,⟨nd,rfl⟩⟩;(try first | exact ⟨rfl,_,World.drewN_drewN _ _ _⟩ | exact ⟨rfl,_,Eq.trans (World.drewN_drewN _ _ _) (congrArg (World.drewN _) (Nat.add_assoc _ _ _))⟩)))
        repeat (go_quiet (first | (go_at_call 69;(with_reducible refine (spec_siteWord.calls k1 (rdOf ByteArray.empty l0 x3_1) true _ A4.out).mono ?_);rintro e w' ⟨rfl,⟨nd,rfl⟩⟩;(try first | exact ⟨rfl,_,World.drewN_drewN _ _ _⟩ | exact ⟨rfl,_,Eq.trans (World.drewN_drewN _ _ _) (congrArg (World.drewN _) (Nat.add_assoc _ _ _))⟩);obtain ⟨i010,hi010,_,hsz10,_⟩:=info_parts info9;obtain ⟨hcut10,hA10,hC10⟩:=print_take_of (P:=Tryz.prog) Value.string (⟨#[]⟩:ByteArray) 22 9 .i64 Tryz.underlying22 hi010 hsz10 (some ad109) c0 l0 x3_1 (bQ) (bQ) HC0.out;have HR111:=bR (Kd.C_of_reads (h1:=fun _=>rfl) (hA10 _ (Kd.reads_of_C HR0.out)));have HC111:=bR hC10;clear hA10 hC10 hi010 hsz10;have p112:0≤(x3_1:Int):=bQ;have q112:x3_1 < (l0.length:Int):=bQ;obtain ⟨ad112,e112,hx112_0⟩:=Kd.at_string HR0.out x3_1 p112 q112;obtain rfl:ad109=ad112:=(by injection e112);replace p112:=eq_true p112;replace q112:=eq_true q112) | (go_at_call 68;(with_reducible refine (among_take k1 _ _ l0 x3_1 (rdOf ByteArray.empty l0 x3_1) true _ (bQ) (bQ) ?side1 ?side2 A8.out).mono ?_);(case side1=>exact bY);(case side2=>exact HC111.out);rintro e w' ⟨rfl,⟨nd,rfl⟩⟩;(try first | exact ⟨rfl,_,World.drewN_drewN _ _ _⟩ | exact ⟨rfl,_,Eq.trans (World.drewN_drewN _ _ _) (congrArg (World.drewN _) (Nat.add_assoc _ _ _))⟩)));try go_wp2_with (first | (go_at_call 69;(with_reducible refine (spec_siteWord.calls k1 (rdOf ByteArray.empty l0 x3_1) true _ A4.out).mono ?_);rintro e w' ⟨rfl,⟨nd,rfl⟩⟩;(try first | exact ⟨rfl,_,World.drewN_drewN _ _ _⟩ | exact ⟨rfl,_,Eq.trans (World.drewN_drewN _ _ _) (congrArg (World.drewN _) (Nat.add_assoc _ _ _))⟩);obtain ⟨i010,hi010,_,hsz10,_⟩:=info_parts info9;obtain ⟨hcut10,hA10,hC10⟩:=print_take_of (P:=Tryz.prog) Value.string (⟨#[]⟩:ByteArray) 22 9 .i64 Tryz.underlying22 hi010 hsz10 (some ad109) c0 l0 x3_1 (bQ) (bQ) HC0.out;have HR111:=bR (Kd.C_of_reads (h1:=fun _=>rfl) (hA10 _ (Kd.reads_of_C HR0.out)));have HC111:=bR hC10;clear hA10 hC10 hi010 hsz10;have p112:0≤(x3_1:Int):=bQ;have q112:x3_1 < (l0.length:Int):=bQ;obtain ⟨ad112,e112,hx112_0⟩:=Kd.at_string HR0.out x3_1 p112 q112;obtain rfl:ad109=ad112:=(by injection e112);replace p112:=eq_true p112;replace q112:=eq_true q112) | (go_at_call 68;(with_reducible refine (among_take k1 _ _ l0 x3_1 (rdOf ByteArray.empty l0 x3_1) true _ (bQ) (bQ) ?side1 ?side2 A8.out).mono ?_);(case side1=>exact bY);(case side2=>exact HC111.out);rintro e w' ⟨rfl,⟨nd,rfl⟩⟩;(try first | exact ⟨rfl,_,World.drewN_drewN _ _ _⟩ | exact ⟨rfl,_,Eq.trans (World.drewN_drewN _ _ _) (congrArg (World.drewN _) (Nat.add_assoc _ _ _))⟩))))
        go_ret;exact ⟨cZ,dA⟩
       ·replace c9:=Bool.eq_false_iff.mpr c9;subst c9;have H1:(spec_siteWords.l0 k1 l0 (wrap64 (x3_1+1)))=some r:=by rw[if_neg (show ¬ (false=true) by decide)] at H;exact H
        clear H;have H:=H1;clear H1;have H':=bR H;clear H;have p109:0≤(x3_1:Int):=bQ;have q109:x3_1 < (l0.length:Int):=bQ;obtain ⟨ad109,e109,hx109_0⟩:=Kd.at_string HR0.out x3_1 p109 q109;cases e109;replace p109:=eq_true p109;replace q109:=eq_true q109
        go_wp2_with (first | (go_at_call 69;(with_reducible refine (spec_siteWord.calls k1 (rdOf ByteArray.empty l0 x3_1) true _ A4.out).mono ?_);rintro e w' ⟨rfl,⟨nd,rfl⟩⟩;(try first | exact ⟨rfl,_,World.drewN_drewN _ _ _⟩ | exact ⟨rfl,_,Eq.trans (World.drewN_drewN _ _ _) (congrArg (World.drewN _) (Nat.add_assoc _ _ _))⟩);obtain ⟨i011,hi011,_,hsz11,_⟩:=info_parts info9;obtain ⟨hcut11,hA11,hC11⟩:=print_take_of (P:=Tryz.prog) Value.string (⟨#[]⟩:ByteArray) 22 9 .i64 Tryz.underlying22 hi011 hsz11 (some ad109) c0 l0 x3_1 (bQ) (bQ) HC0.out;have HR111:=bR (Kd.C_of_reads (h1:=fun _=>rfl) (hA11 _ (Kd.reads_of_C HR0.out)));have HC111:=bR hC11;clear hA11 hC11 hi011 hsz11;have p112:0≤(x3_1:Int):=bQ;have q112:x3_1 < (l0.length:Int):=bQ;obtain ⟨ad112,e112,hx112_0⟩:=Kd.at_string HR0.out x3_1 p112 q112;obtain rfl:ad109=ad112:=(by injection e112);replace p112:=eq_true p112;replace q112:=eq_true q112) | (go_at_call 68;(with_reducible refine (among_take k1 _ _ l0 x3_1 (rdOf ByteArray.empty l0 x3_1) false _ (bQ) (bQ) ?side1 ?side2 A8.out).mono ?_);(case side1=>exact bY);(case side2=>exact HC111.out);rintro e w' ⟨rfl,⟨nd,rfl⟩⟩;(try first | exact ⟨rfl,_,World.drewN_drewN _ _ _⟩ | exact ⟨rfl,_,Eq.trans (World.drewN_drewN _ _ _) (congrArg (World.drewN _) (Nat.add_assoc _ _ _))⟩)))
        repeat (go_quiet (first | (go_at_call 69;(with_reducible refine (spec_siteWord.calls k1 (rdOf ByteArray.empty l0 x3_1) true _ A4.out).mono ?_);rintro e w' ⟨rfl,⟨nd,rfl⟩⟩;(try first | exact ⟨rfl,_,World.drewN_drewN _ _ _⟩ | exact ⟨rfl,_,Eq.trans (World.drewN_drewN _ _ _) (congrArg (World.drewN _) (Nat.add_assoc _ _ _))⟩);obtain ⟨i011,hi011,_,hsz11,_⟩:=info_parts info9;obtain ⟨hcut11,hA11,hC11⟩:=print_take_of (P:=Tryz.prog) Value.string (⟨#[]⟩:ByteArray) 22 9 .i64 Tryz.underlying22 hi011 hsz11 (some ad109) c0 l0 x3_1 (bQ) (bQ) HC0.out;have HR111:=bR (Kd.C_of_reads (h1:=fun _=>rfl) (hA11 _ (Kd.reads_of_C HR0.out)));have HC111:=bR hC11;clear hA11 hC11 hi011 hsz11;have p112:0≤(x3_1:Int):=bQ;have q112:x3_1 < (l0.length:Int):=bQ;obtain ⟨ad112,e112,hx112_0⟩:=Kd.at_string HR0.out x3_1 p112 q112;obtain rfl:ad109=ad112:=(by injection e112);replace p112:=eq_true p112;replace q112:=eq_true q112) | (go_at_call 68;(with_reducible refine (among_take k1 _ _ l0 x3_1 (rdOf ByteArray.empty l0 x3_1) false _ (bQ) (bQ) ?side1 ?side2 A8.out).mono ?_);(case side1=>exact bY);(case side2=>exact HC111.out);rintro e w' ⟨rfl,⟨nd,rfl⟩⟩;(try first | exact ⟨rfl,_,World.drewN_drewN _ _ _⟩ | exact ⟨rfl,_,Eq.trans (World.drewN_drewN _ _ _) (congrArg (World.drewN _) (Nat.add_assoc _ _ _))⟩)));try go_wp2_with (first | (go_at_call 69;(with_reducible refine (spec_siteWord.calls k1 (rdOf ByteArray.empty l0 x3_1) true _ A4.out).mono ?_);rintro e w' ⟨rfl,⟨nd,rfl⟩⟩;(try first | exact ⟨rfl,_,World.drewN_drewN _ _ _⟩ | exact ⟨rfl,_,Eq.trans (World.drewN_drewN _ _ _) (congrArg (World.drewN _) (Nat.add_assoc _ _ _))⟩);obtain ⟨i011,hi011,_,hsz11,_⟩:=info_parts info9;obtain ⟨hcut11,hA11,hC11⟩:=print_take_of (P:=Tryz.prog) Value.string (⟨#[]⟩:ByteArray) 22 9 .i64 Tryz.underlying22 hi011 hsz11 (some ad109) c0 l0 x3_1 (bQ) (bQ) HC0.out;have HR111:=bR (Kd.C_of_reads (h1:=fun _=>rfl) (hA11 _ (Kd.reads_of_C HR0.out)));have HC111:=bR hC11;clear hA11 hC11 hi011 hsz11;have p112:0≤(x3_1:Int):=bQ;have q112:x3_1 < (l0.length:Int):=bQ;obtain ⟨ad112,e112,hx112_0⟩:=Kd.at_string HR0.out x3_1 p112 q112;obtain rfl:ad109=ad112:=(by injection e112);replace p112:=eq_true p112;replace q112:=eq_true q112) | (go_at_call 68;(with_reducible refine (among_take k1 _ _ l0 x3_1 (rdOf ByteArray.empty l0 x3_1) false _ (bQ) (bQ) ?side1 ?side2 A8.out).mono ?_);(case side1=>exact bY);(case side2=>exact HC111.out);rintro e w' ⟨rfl,⟨nd,rfl⟩⟩;(try first | exact ⟨rfl,_,World.drewN_drewN _ _ _⟩ | exact ⟨rfl,_,Eq.trans (World.drewN_drewN _ _ _) (congrArg (World.drewN _) (Nat.add_assoc _ _ _))⟩))))
        go_roundg k1
        case measure=>have:=HK1.out;omega
        case rel=>exact ⟨(wrap64 (x3_1+1)),bE,H',⟨by have:=HK1.out;omega⟩,dA⟩
      ·rw[if_neg c7] at H;exact absurd H bI
     ·replace c5:=Bool.eq_false_iff.mpr c5;subst c5;have H1:(some false)=some r:=by rw[if_neg (show ¬ (false=true) by decide)] at H;exact H
      clear H;have H:=H1;clear H1;obtain rfl:=Option.some.inj H;have p109:0≤(x3_1:Int):=bQ;have q109:x3_1 < (l0.length:Int):=bQ;obtain ⟨ad109,e109,hx109_0⟩:=Kd.at_string HR0.out x3_1 p109 q109;cases e109;replace p109:=eq_true p109;replace q109:=eq_true q109
      go_wp2_with (first | (go_at_call 69;(with_reducible refine (spec_siteWord.calls k1 (rdOf ByteArray.empty l0 x3_1) false _ A4.out).mono ?_);rintro e w' ⟨rfl,⟨nd,rfl⟩⟩;(try first | exact ⟨rfl,_,World.drewN_drewN _ _ _⟩ | exact ⟨rfl,_,Eq.trans (World.drewN_drewN _ _ _) (congrArg (World.drewN _) (Nat.add_assoc _ _ _))⟩)))
      repeat (go_quiet (first | (go_at_call 69;(with_reducible refine (spec_siteWord.calls k1 (rdOf ByteArray.empty l0 x3_1) false _ A4.out).mono ?_);rintro e w' ⟨rfl,⟨nd,rfl⟩⟩;(try first | exact ⟨rfl,_,World.drewN_drewN _ _ _⟩ | exact ⟨rfl,_,Eq.trans (World.drewN_drewN _ _ _) (congrArg (World.drewN _) (Nat.add_assoc _ _ _))⟩)));try go_wp2_with (first | (go_at_call 69;(with_reducible refine (spec_siteWord.calls k1 (rdOf ByteArray.empty l0 x3_1) false _ A4.out).mono ?_);rintro e w' ⟨rfl,⟨nd,rfl⟩⟩;(try first | exact ⟨rfl,_,World.drewN_drewN _ _ _⟩ | exact ⟨rfl,_,Eq.trans (World.drewN_drewN _ _ _) (congrArg (World.drewN _) (Nat.add_assoc _ _ _))⟩))))
      go_ret;exact ⟨cZ,dA⟩
    ·rw[if_neg c3] at H;exact absurd H bI
   ·rw[if_neg c2] at H;have c2b0:decide (x3_1 < (l0.length:Int))=false:=decide_eq_false c2;clear c2;obtain rfl:=Option.some.inj H;go_wp2
    repeat (go_quiet (fail);try go_wp2)
    go_ret;exact ⟨cZ,dA⟩
mutual
def spec_SiteKnown.j0:Nat→Bool→List ByteArray→List ByteArray→List (S43)→List ByteArray→Option (Bool)
 | 0,_,_,_,_,_=>none
 | k+1,x26,x115000,x115001,x115002,x115003=>if x26=true then (some false) else (spec_SiteKnown.l0 k 0 x115000 x115001 x115002 x115003)
def spec_SiteKnown.l0:Nat→Int→List ByteArray→List ByteArray→List (S43)→List ByteArray→Option (Bool)
 | 0,_,_,_,_,_=>none
 | k+1,x3,x115000,x115001,x115002,x115003=>if x3 < (x115001.length:Int) then (if 0≤x3 then ((spec_among.f k x115000 (rdOf ByteArray.empty x115001 x3)).bind fun t119=>(if t119=true then (some false) else (spec_SiteKnown.l0 k (wrap64 (x3+1)) x115000 x115001 x115002 x115003))) else (none)) else (spec_SiteKnown.l1 k 0 x115000 x115001 x115002 x115003)
def spec_SiteKnown.l1:Nat→Int→List ByteArray→List ByteArray→List (S43)→List ByteArray→Option (Bool)
 | 0,_,_,_,_,_=>none
 | k+1,x4,x115000,x115001,x115002,x115003=>if x4 < (x115002.length:Int) then (if 0≤x4 then ((spec_siteWord.f k ((rd_T43 x115002 x4).f0)).bind fun t121=>(if t121=true then ((spec_siteWord.f k ((rd_T43 x115002 x4).f1)).bind fun t123=>(if t123=true then (spec_SiteKnown.l1 k (wrap64 (x4+1)) x115000 x115001 x115002 x115003) else (some false))) else (some false))) else (none)) else (some true)
end
def spec_SiteKnown.f (k:Nat) (l0_0:List ByteArray) (l0_1:List ByteArray) (l0_2:List (S43)) (l0_3:List ByteArray):Option (Bool):=(spec_siteWords.f k l0_0).bind fun t115=>(if t115=true then ((spec_siteWords.f k l0_1).bind fun t116=>(if t116=true then ((spec_siteWords.f k l0_3).bind fun t117=>(if t117=true then (spec_SiteKnown.j0 k (decide ((l0_2.length:Int) > 12)) l0_0 l0_1 l0_2 l0_3) else (spec_SiteKnown.j0 k true l0_0 l0_1 l0_2 l0_3))) else (spec_SiteKnown.j0 k true l0_0 l0_1 l0_2 l0_3))) else (spec_SiteKnown.j0 k true l0_0 l0_1 l0_2 l0_3))
theorem spec_SiteKnown.mono_l:∀ k,(∀ y0 y1 y2 y3 y4,LeO (spec_SiteKnown.j0 k y0 y1 y2 y3 y4) (spec_SiteKnown.j0 (k+1) y0 y1 y2 y3 y4))∧(∀ y0 y1 y2 y3 y4,LeO (spec_SiteKnown.l0 k y0 y1 y2 y3 y4) (spec_SiteKnown.l0 (k+1) y0 y1 y2 y3 y4))∧(∀ y0 y1 y2 y3 y4,LeO (spec_SiteKnown.l1 k y0 y1 y2 y3 y4) (spec_SiteKnown.l1 (k+1) y0 y1 y2 y3 y4))
 | 0=>⟨fun _ _ _ _ _ r h=>by simp[spec_SiteKnown.j0] at h,fun _ _ _ _ _ r h=>by simp[spec_SiteKnown.l0] at h,fun _ _ _ _ _ r h=>by simp[spec_SiteKnown.l1] at h⟩
 | k+1=>by
  obtain ⟨ih0,ih1,ih2⟩:=spec_SiteKnown.mono_l k;refine ⟨?_,?_,?_⟩
  ·intro y0 y1 y2 y3 y4;unfold spec_SiteKnown.j0
   exact cR
  ·intro y0 y1 y2 y3 y4;unfold spec_SiteKnown.l0
   exact cR
  ·intro y0 y1 y2 y3 y4;unfold spec_SiteKnown.l1
   exact cR
theorem spec_SiteKnown.mono:∀ a0 a1 a2 a3 k,LeO (spec_SiteKnown.f k a0 a1 a2 a3) (spec_SiteKnown.f (k+1) a0 a1 a2 a3):=by
 intro a0 a1 a2 a3 k;obtain ⟨ih0,ih1,ih2⟩:=spec_SiteKnown.mono_l k;unfold spec_SiteKnown.f
 exact cR
set_option maxHeartbeats 8000000 in
set_option maxRecDepth 100000 in
theorem spec_SiteKnown.calls (k:Nat) (A0_0:Option Addr) (c0_0:Nat) (l0_0:List ByteArray) (A0_1:Option Addr) (c0_1:Nat) (l0_1:List ByteArray) (A0_2:Option Addr) (c0_2:Nat) (l0_2:List (S43)) (A0_3:Option Addr) (c0_3:Nat) (l0_3:List ByteArray) (r:Bool) (w:World) (hr0_0:Kd.C Kd.string w A0_0 l0_0.length l0_0) (hc0_0:l0_0.length≤c0_0) (hr0_1:Kd.C Kd.string w A0_1 l0_1.length l0_1) (hc0_1:l0_1.length≤c0_1) (hr0_2:Kd.C k43 w A0_2 l0_2.length l0_2) (hc0_2:l0_2.length≤c0_2) (hr0_3:Kd.C Kd.string w A0_3 l0_3.length l0_3) (hc0_3:l0_3.length≤c0_3) (h:spec_SiteKnown.f k l0_0 l0_1 l0_2 l0_3=some r) :
 Calls Tryz.prog 48 #[.agg #[.slice A0_0 l0_0.length c0_0,.slice A0_1 l0_1.length c0_1,.slice A0_2 l0_2.length c0_2,.slice A0_3 l0_3.length c0_3]] w fun e w'=>e = .returned (.bool r)∧Below w.heap.size w w':=by
 have hu25:=Tryz.underlying25;have HR0_0:=bR hr0_0;have HC0_0:=bR hc0_0;clear hr0_0 hc0_0;have HR0_1:=bR hr0_1;have HC0_1:=bR hc0_1;clear hr0_1 hc0_1;have HR0_2:=bR hr0_2;have HC0_2:=bR hc0_2;clear hr0_2 hc0_2;have HR0_3:=bR hr0_3;have HC0_3:=bR hc0_3;clear hr0_3 hc0_3;have HB:=bR (Below.refl w.heap.size w);have H:((spec_siteWords.f k l0_0).bind fun t115=>(if t115=true then ((spec_siteWords.f k l0_1).bind fun t116=>(if t116=true then ((spec_siteWords.f k l0_3).bind fun t117=>(if t117=true then (spec_SiteKnown.j0 k (decide ((l0_2.length:Int) > 12)) l0_0 l0_1 l0_2 l0_3) else (spec_SiteKnown.j0 k true l0_0 l0_1 l0_2 l0_3))) else (spec_SiteKnown.j0 k true l0_0 l0_1 l0_2 l0_3))) else (spec_SiteKnown.j0 k true l0_0 l0_1 l0_2 l0_3)))=some r:=h;clear h;have HC2:=bR H;clear H
 go_enter Tryz.func48,Tryz.ntmps48
 go_upto_region 1 with (first | ((with_reducible refine gate_dst (N:=1) rfl ?_);(try (refine gate_guard bH ?_;dsimp only));refine box_event ?hg (N:=1) ?hd (cs:=#[.slice A0_0 l0_0.length c0_0,.slice A0_1 l0_1.length c0_1,.slice A0_2 l0_2.length c0_2,.slice A0_3 l0_3.length c0_3]) (t:=25) ?hr ?_;(case hd=>rfl);(case hg=>rfl);(case hr=>exact bV);intro gb114 hg w3 hbox hb;have n0_:=bR (below_step bC hb);have n1_:=bR (hbox);have n2_:=bR ((by rw[hg];exact (below_size bC):w.heap.size≤gb114));have n3_:=bR ((by rw[hg];exact (below_size bC):w.heap.size≤gb114));clear HB;have HB:=n0_;have BK114:=n1_;have GW114:=n2_;have GE114:=n3_;clear n0_ n1_ n2_ n3_;clear hb hbox hg))
 repeat (go_quiet (first | ((with_reducible refine gate_dst (N:=1) rfl ?_);(try (refine gate_guard bH ?_;dsimp only));refine box_event ?hg (N:=1) ?hd (cs:=#[.slice A0_0 l0_0.length c0_0,.slice A0_1 l0_1.length c0_1,.slice A0_2 l0_2.length c0_2,.slice A0_3 l0_3.length c0_3]) (t:=25) ?hr ?_;(case hd=>rfl);(case hg=>rfl);(case hr=>exact bV);intro gb114 hg w3 hbox hb;have n0_:=bR (below_step bC hb);have n1_:=bR (hbox);have n2_:=bR ((by rw[hg];exact (below_size bC):w.heap.size≤gb114));have n3_:=bR ((by rw[hg];exact (below_size bC):w.heap.size≤gb114));clear HB;have HB:=n0_;have BK114:=n1_;have GW114:=n2_;have GE114:=n3_;clear n0_ n1_ n2_ n3_;clear hb hbox hg));go_upto_region 1 with (first | ((with_reducible refine gate_dst (N:=1) rfl ?_);(try (refine gate_guard bH ?_;dsimp only));refine box_event ?hg (N:=1) ?hd (cs:=#[.slice A0_0 l0_0.length c0_0,.slice A0_1 l0_1.length c0_1,.slice A0_2 l0_2.length c0_2,.slice A0_3 l0_3.length c0_3]) (t:=25) ?hr ?_;(case hd=>rfl);(case hg=>rfl);(case hr=>exact bV);intro gb114 hg w3 hbox hb;have n0_:=bR (below_step bC hb);have n1_:=bR (hbox);have n2_:=bR ((by rw[hg];exact (below_size bC):w.heap.size≤gb114));have n3_:=bR ((by rw[hg];exact (below_size bC):w.heap.size≤gb114));clear HB;have HB:=n0_;have BK114:=n1_;have GW114:=n2_;have GE114:=n3_;clear n0_ n1_ n2_ n3_;clear hb hbox hg)))
 (try simp only[Act.put,List.setIfInBounds_toArray,List.set_cons_zero,List.set_cons_succ])
 go_cut [26] (fun v26 wc=>∃ (kq:Nat) (x26_1:Bool),v26 = .bool x26_1∧Aside0 (spec_SiteKnown.j0 kq x26_1 l0_0 l0_1 l0_2 l0_3=some r)∧Aside0 (kq≤k)∧Aside0 (wc.heap[gb114]? = some (.cells #[(.slice A0_0 l0_0.length c0_0),(.slice A0_1 l0_1.length c0_1),(.slice A0_2 l0_2.length c0_2),(.slice A0_3 l0_3.length c0_3)] 25 (0,0)))∧Aside0 (Below w.heap.size w wc))
 case first =>
  have H:=HC2.out;clear HC2;replace H:=Option.bind_eq_some_iff.mp H;obtain ⟨t115,A40,H⟩:=H;replace H:(if t115=true then ((spec_siteWords.f k l0_1).bind fun t116=>(if t116=true then ((spec_siteWords.f k l0_3).bind fun t117=>(if t117=true then (spec_SiteKnown.j0 k (decide ((l0_2.length:Int) > 12)) l0_0 l0_1 l0_2 l0_3) else (spec_SiteKnown.j0 k true l0_0 l0_1 l0_2 l0_3))) else (spec_SiteKnown.j0 k true l0_0 l0_1 l0_2 l0_3))) else (spec_SiteKnown.j0 k true l0_0 l0_1 l0_2 l0_3))=some r:=H;have A4:=bR A40;clear A40
  by_cases c5:t115=true
  ·subst c5;have H1:((spec_siteWords.f k l0_1).bind fun t116=>(if t116=true then ((spec_siteWords.f k l0_3).bind fun t117=>(if t117=true then (spec_SiteKnown.j0 k (decide ((l0_2.length:Int) > 12)) l0_0 l0_1 l0_2 l0_3) else (spec_SiteKnown.j0 k true l0_0 l0_1 l0_2 l0_3))) else (spec_SiteKnown.j0 k true l0_0 l0_1 l0_2 l0_3)))=some r:=by rw[if_pos rfl] at H;exact H
   clear H;have H:=H1;clear H1;replace H:=Option.bind_eq_some_iff.mp H;obtain ⟨t116,A60,H⟩:=H;replace H:(if t116=true then ((spec_siteWords.f k l0_3).bind fun t117=>(if t117=true then (spec_SiteKnown.j0 k (decide ((l0_2.length:Int) > 12)) l0_0 l0_1 l0_2 l0_3) else (spec_SiteKnown.j0 k true l0_0 l0_1 l0_2 l0_3))) else (spec_SiteKnown.j0 k true l0_0 l0_1 l0_2 l0_3))=some r:=H;have A6:=bR A60;clear A60
   by_cases c7:t116=true
   ·subst c7;have H1:((spec_siteWords.f k l0_3).bind fun t117=>(if t117=true then (spec_SiteKnown.j0 k (decide ((l0_2.length:Int) > 12)) l0_0 l0_1 l0_2 l0_3) else (spec_SiteKnown.j0 k true l0_0 l0_1 l0_2 l0_3)))=some r:=by rw[if_pos rfl] at H;exact H
    clear H;have H:=H1;clear H1;replace H:=Option.bind_eq_some_iff.mp H;obtain ⟨t117,A80,H⟩:=H;replace H:(if t117=true then (spec_SiteKnown.j0 k (decide ((l0_2.length:Int) > 12)) l0_0 l0_1 l0_2 l0_3) else (spec_SiteKnown.j0 k true l0_0 l0_1 l0_2 l0_3))=some r:=H;have A8:=bR A80;clear A80
    by_cases c9:t117=true
    ·subst c9;have H1:(spec_SiteKnown.j0 k (decide ((l0_2.length:Int) > 12)) l0_0 l0_1 l0_2 l0_3)=some r:=by rw[if_pos rfl] at H;exact H
     clear H;have H:=H1;clear H1;have H':=bR H;clear H;have hcz10_0:w3.cell? ⟨gb114,0,none⟩=some (.slice A0_0 l0_0.length c0_0):=(blk_cell BK114.out 0).trans rfl;have hcz10_1:w3.cell? ⟨gb114,1,none⟩=some (.slice A0_1 l0_1.length c0_1):=(blk_cell BK114.out 1).trans rfl;have hcz10_2:w3.cell? ⟨gb114,2,none⟩=some (.slice A0_2 l0_2.length c0_2):=(blk_cell BK114.out 2).trans rfl;have hcz10_3:w3.cell? ⟨gb114,3,none⟩=some (.slice A0_3 l0_3.length c0_3):=(blk_cell BK114.out 3).trans rfl;have hfz10_0:=blk_frozen BK114.out 0;have hfz10_1:=blk_frozen BK114.out 1;have hfz10_2:=blk_frozen BK114.out 2;have hfz10_3:=blk_frozen BK114.out 3
     go_wp2_with (first | (go_at_call 67;(with_reducible refine (spec_siteWords.calls k _ _ l0_0 true _ ?side1 ?side2 A4.out).mono ?_);(case side1=>exact bW);(case side2=>exact HC0_0.out);rintro e w' ⟨rfl,⟨nd,rfl⟩⟩;(try first | exact ⟨rfl,_,World.drewN_drewN _ _ _⟩ | exact ⟨rfl,_,Eq.trans (World.drewN_drewN _ _ _) (congrArg (World.drewN _) (Nat.add_assoc _ _ _))⟩)) | (go_at_call 67;(with_reducible refine (spec_siteWords.calls k _ _ l0_1 true _ ?side1 ?side2 A6.out).mono ?_);(case side1=>exact bZ);(case side2=>exact HC0_1.out);rintro e w' ⟨rfl,⟨nd,rfl⟩⟩;(try first | exact ⟨rfl,_,World.drewN_drewN _ _ _⟩ | exact ⟨rfl,_,Eq.trans (World.drewN_drewN _ _ _) (congrArg (World.drewN _) (Nat.add_assoc _ _ _))⟩)) | (go_at_call 67;(with_reducible refine (spec_siteWords.calls k _ _ l0_3 true _ ?side1 ?side2 A8.out).mono ?_);(case side1=>exact cA);(case side2=>exact HC0_3.out);rintro e w' ⟨rfl,⟨nd,rfl⟩⟩;(try first | exact ⟨rfl,_,World.drewN_drewN _ _ _⟩ | exact ⟨rfl,_,Eq.trans (World.drewN_drewN _ _ _) (congrArg (World.drewN _) (Nat.add_assoc _ _ _))⟩)))
     repeat (go_quiet (first | (go_at_call 67;(with_reducible refine (spec_siteWords.calls k _ _ l0_0 true _ ?side1 ?side2 A4.out).mono ?_);(case side1=>exact bW);(case side2=>exact HC0_0.out);rintro e w' ⟨rfl,⟨nd,rfl⟩⟩;(try first | exact ⟨rfl,_,World.drewN_drewN _ _ _⟩ | exact ⟨rfl,_,Eq.trans (World.drewN_drewN _ _ _) (congrArg (World.drewN _) (Nat.add_assoc _ _ _))⟩)) | (go_at_call 67;(with_reducible refine (spec_siteWords.calls k _ _ l0_1 true _ ?side1 ?side2 A6.out).mono ?_);(case side1=>exact bZ);(case side2=>exact HC0_1.out);rintro e w' ⟨rfl,⟨nd,rfl⟩⟩;(try first | exact ⟨rfl,_,World.drewN_drewN _ _ _⟩ | exact ⟨rfl,_,Eq.trans (World.drewN_drewN _ _ _) (congrArg (World.drewN _) (Nat.add_assoc _ _ _))⟩)) | (go_at_call 67;(with_reducible refine (spec_siteWords.calls k _ _ l0_3 true _ ?side1 ?side2 A8.out).mono ?_);(case side1=>exact cA);(case side2=>exact HC0_3.out);rintro e w' ⟨rfl,⟨nd,rfl⟩⟩;(try first | exact ⟨rfl,_,World.drewN_drewN _ _ _⟩ | exact ⟨rfl,_,Eq.trans (World.drewN_drewN _ _ _) (congrArg (World.drewN _) (Nat.add_assoc _ _ _))⟩)));try go_wp2_with (first | (go_at_call 67;(with_reducible refine (spec_siteWords.calls k _ _ l0_0 true _ ?side1 ?side2 A4.out).mono ?_);(case side1=>exact bW);(case side2=>exact HC0_0.out);rintro e w' ⟨rfl,⟨nd,rfl⟩⟩;(try first | exact ⟨rfl,_,World.drewN_drewN _ _ _⟩ | exact ⟨rfl,_,Eq.trans (World.drewN_drewN _ _ _) (congrArg (World.drewN _) (Nat.add_assoc _ _ _))⟩)) | (go_at_call 67;(with_reducible refine (spec_siteWords.calls k _ _ l0_1 true _ ?side1 ?side2 A6.out).mono ?_);(case side1=>exact bZ);(case side2=>exact HC0_1.out);rintro e w' ⟨rfl,⟨nd,rfl⟩⟩;(try first | exact ⟨rfl,_,World.drewN_drewN _ _ _⟩ | exact ⟨rfl,_,Eq.trans (World.drewN_drewN _ _ _) (congrArg (World.drewN _) (Nat.add_assoc _ _ _))⟩)) | (go_at_call 67;(with_reducible refine (spec_siteWords.calls k _ _ l0_3 true _ ?side1 ?side2 A8.out).mono ?_);(case side1=>exact cA);(case side2=>exact HC0_3.out);rintro e w' ⟨rfl,⟨nd,rfl⟩⟩;(try first | exact ⟨rfl,_,World.drewN_drewN _ _ _⟩ | exact ⟨rfl,_,Eq.trans (World.drewN_drewN _ _ _) (congrArg (World.drewN _) (Nat.add_assoc _ _ _))⟩))))
     go_meet
     case rel=>exact ⟨_,(decide ((l0_2.length:Int) > 12)),bE,H',⟨by first | omega | exact Nat.le_refl _⟩,⟨by (with_reducible repeat (first | refine blk_drewN ?_ _ | refine blk_drew ?_ | refine blk_alloc ?_ _));exact BK114.out⟩,⟨by repeat (first | (with_reducible first | exact HB.out | apply below_alloc | apply pw_below_drewN | apply below_drew1 | refine below_set ?_ GE114.out) | exact HB.out)⟩⟩
    ·replace c9:=Bool.eq_false_iff.mpr c9;subst c9;have H1:(spec_SiteKnown.j0 k true l0_0 l0_1 l0_2 l0_3)=some r:=by rw[if_neg (show ¬ (false=true) by decide)] at H;exact H
     clear H;have H:=H1;clear H1;have H':=bR H;clear H;have hcz11_0:w3.cell? ⟨gb114,0,none⟩=some (.slice A0_0 l0_0.length c0_0):=(blk_cell BK114.out 0).trans rfl;have hcz11_1:w3.cell? ⟨gb114,1,none⟩=some (.slice A0_1 l0_1.length c0_1):=(blk_cell BK114.out 1).trans rfl;have hcz11_2:w3.cell? ⟨gb114,2,none⟩=some (.slice A0_2 l0_2.length c0_2):=(blk_cell BK114.out 2).trans rfl;have hcz11_3:w3.cell? ⟨gb114,3,none⟩=some (.slice A0_3 l0_3.length c0_3):=(blk_cell BK114.out 3).trans rfl;have hfz11_0:=blk_frozen BK114.out 0;have hfz11_1:=blk_frozen BK114.out 1;have hfz11_2:=blk_frozen BK114.out 2;have hfz11_3:=blk_frozen BK114.out 3
     go_wp2_with (first | (go_at_call 67;(with_reducible refine (spec_siteWords.calls k _ _ l0_0 true _ ?side1 ?side2 A4.out).mono ?_);(case side1=>exact bW);(case side2=>exact HC0_0.out);rintro e w' ⟨rfl,⟨nd,rfl⟩⟩;(try first | exact ⟨rfl,_,World.drewN_drewN _ _ _⟩ | exact ⟨rfl,_,Eq.trans (World.drewN_drewN _ _ _) (congrArg (World.drewN _) (Nat.add_assoc _ _ _))⟩)) | (go_at_call 67;(with_reducible refine (spec_siteWords.calls k _ _ l0_1 true _ ?side1 ?side2 A6.out).mono ?_);(case side1=>exact bZ);(case side2=>exact HC0_1.out);rintro e w' ⟨rfl,⟨nd,rfl⟩⟩;(try first | exact ⟨rfl,_,World.drewN_drewN _ _ _⟩ | exact ⟨rfl,_,Eq.trans (World.drewN_drewN _ _ _) (congrArg (World.drewN _) (Nat.add_assoc _ _ _))⟩)) | (go_at_call 67;(with_reducible refine (spec_siteWords.calls k _ _ l0_3 false _ ?side1 ?side2 A8.out).mono ?_);(case side1=>exact cA);(case side2=>exact HC0_3.out);rintro e w' ⟨rfl,⟨nd,rfl⟩⟩;(try first | exact ⟨rfl,_,World.drewN_drewN _ _ _⟩ | exact ⟨rfl,_,Eq.trans (World.drewN_drewN _ _ _) (congrArg (World.drewN _) (Nat.add_assoc _ _ _))⟩)))
     repeat (go_quiet (first | (go_at_call 67;(with_reducible refine (spec_siteWords.calls k _ _ l0_0 true _ ?side1 ?side2 A4.out).mono ?_);(case side1=>exact bW);(case side2=>exact HC0_0.out);rintro e w' ⟨rfl,⟨nd,rfl⟩⟩;(try first | exact ⟨rfl,_,World.drewN_drewN _ _ _⟩ | exact ⟨rfl,_,Eq.trans (World.drewN_drewN _ _ _) (congrArg (World.drewN _) (Nat.add_assoc _ _ _))⟩)) | (go_at_call 67;(with_reducible refine (spec_siteWords.calls k _ _ l0_1 true _ ?side1 ?side2 A6.out).mono ?_);(case side1=>exact bZ);(case side2=>exact HC0_1.out);rintro e w' ⟨rfl,⟨nd,rfl⟩⟩;(try first | exact ⟨rfl,_,World.drewN_drewN _ _ _⟩ | exact ⟨rfl,_,Eq.trans (World.drewN_drewN _ _ _) (congrArg (World.drewN _) (Nat.add_assoc _ _ _))⟩)) | (go_at_call 67;(with_reducible refine (spec_siteWords.calls k _ _ l0_3 false _ ?side1 ?side2 A8.out).mono ?_);(case side1=>exact cA);(case side2=>exact HC0_3.out);rintro e w' ⟨rfl,⟨nd,rfl⟩⟩;(try first | exact ⟨rfl,_,World.drewN_drewN _ _ _⟩ | exact ⟨rfl,_,Eq.trans (World.drewN_drewN _ _ _) (congrArg (World.drewN _) (Nat.add_assoc _ _ _))⟩)));try go_wp2_with (first | (go_at_call 67;(with_reducible refine (spec_siteWords.calls k _ _ l0_0 true _ ?side1 ?side2 A4.out).mono ?_);(case side1=>exact bW);(case side2=>exact HC0_0.out);rintro e w' ⟨rfl,⟨nd,rfl⟩⟩;(try first | exact ⟨rfl,_,World.drewN_drewN _ _ _⟩ | exact ⟨rfl,_,Eq.trans (World.drewN_drewN _ _ _) (congrArg (World.drewN _) (Nat.add_assoc _ _ _))⟩)) | (go_at_call 67;(with_reducible refine (spec_siteWords.calls k _ _ l0_1 true _ ?side1 ?side2 A6.out).mono ?_);(case side1=>exact bZ);(case side2=>exact HC0_1.out);rintro e w' ⟨rfl,⟨nd,rfl⟩⟩;(try first | exact ⟨rfl,_,World.drewN_drewN _ _ _⟩ | exact ⟨rfl,_,Eq.trans (World.drewN_drewN _ _ _) (congrArg (World.drewN _) (Nat.add_assoc _ _ _))⟩)) | (go_at_call 67;(with_reducible refine (spec_siteWords.calls k _ _ l0_3 false _ ?side1 ?side2 A8.out).mono ?_);(case side1=>exact cA);(case side2=>exact HC0_3.out);rintro e w' ⟨rfl,⟨nd,rfl⟩⟩;(try first | exact ⟨rfl,_,World.drewN_drewN _ _ _⟩ | exact ⟨rfl,_,Eq.trans (World.drewN_drewN _ _ _) (congrArg (World.drewN _) (Nat.add_assoc _ _ _))⟩))))
     go_meet
     case rel=>exact ⟨_,(true),bE,H',⟨by first | omega | exact Nat.le_refl _⟩,⟨by (with_reducible repeat (first | refine blk_drewN ?_ _ | refine blk_drew ?_ | refine blk_alloc ?_ _));exact BK114.out⟩,⟨by repeat (first | (with_reducible first | exact HB.out | apply below_alloc | apply pw_below_drewN | apply below_drew1 | refine below_set ?_ GE114.out) | exact HB.out)⟩⟩
   ·replace c7:=Bool.eq_false_iff.mpr c7;subst c7;have H1:(spec_SiteKnown.j0 k true l0_0 l0_1 l0_2 l0_3)=some r:=by rw[if_neg (show ¬ (false=true) by decide)] at H;exact H
    clear H;have H:=H1;clear H1;have H':=bR H;clear H;have hcz12_0:w3.cell? ⟨gb114,0,none⟩=some (.slice A0_0 l0_0.length c0_0):=(blk_cell BK114.out 0).trans rfl;have hcz12_1:w3.cell? ⟨gb114,1,none⟩=some (.slice A0_1 l0_1.length c0_1):=(blk_cell BK114.out 1).trans rfl;have hcz12_2:w3.cell? ⟨gb114,2,none⟩=some (.slice A0_2 l0_2.length c0_2):=(blk_cell BK114.out 2).trans rfl;have hcz12_3:w3.cell? ⟨gb114,3,none⟩=some (.slice A0_3 l0_3.length c0_3):=(blk_cell BK114.out 3).trans rfl;have hfz12_0:=blk_frozen BK114.out 0;have hfz12_1:=blk_frozen BK114.out 1;have hfz12_2:=blk_frozen BK114.out 2;have hfz12_3:=blk_frozen BK114.out 3
    go_wp2_with (first | (go_at_call 67;(with_reducible refine (spec_siteWords.calls k _ _ l0_0 true _ ?side1 ?side2 A4.out).mono ?_);(case side1=>exact bW);(case side2=>exact HC0_0.out);rintro e w' ⟨rfl,⟨nd,rfl⟩⟩;(try first | exact ⟨rfl,_,World.drewN_drewN _ _ _⟩ | exact ⟨rfl,_,Eq.trans (World.drewN_drewN _ _ _) (congrArg (World.drewN _) (Nat.add_assoc _ _ _))⟩)) | (go_at_call 67;(with_reducible refine (spec_siteWords.calls k _ _ l0_1 false _ ?side1 ?side2 A6.out).mono ?_);(case side1=>exact bZ);(case side2=>exact HC0_1.out);rintro e w' ⟨rfl,⟨nd,rfl⟩⟩;(try first | exact ⟨rfl,_,World.drewN_drewN _ _ _⟩ | exact ⟨rfl,_,Eq.trans (World.drewN_drewN _ _ _) (congrArg (World.drewN _) (Nat.add_assoc _ _ _))⟩)))
    repeat (go_quiet (first | (go_at_call 67;(with_reducible refine (spec_siteWords.calls k _ _ l0_0 true _ ?side1 ?side2 A4.out).mono ?_);(case side1=>exact bW);(case side2=>exact HC0_0.out);rintro e w' ⟨rfl,⟨nd,rfl⟩⟩;(try first | exact ⟨rfl,_,World.drewN_drewN _ _ _⟩ | exact ⟨rfl,_,Eq.trans (World.drewN_drewN _ _ _) (congrArg (World.drewN _) (Nat.add_assoc _ _ _))⟩)) | (go_at_call 67;(with_reducible refine (spec_siteWords.calls k _ _ l0_1 false _ ?side1 ?side2 A6.out).mono ?_);(case side1=>exact bZ);(case side2=>exact HC0_1.out);rintro e w' ⟨rfl,⟨nd,rfl⟩⟩;(try first | exact ⟨rfl,_,World.drewN_drewN _ _ _⟩ | exact ⟨rfl,_,Eq.trans (World.drewN_drewN _ _ _) (congrArg (World.drewN _) (Nat.add_assoc _ _ _))⟩)));try go_wp2_with (first | (go_at_call 67;(with_reducible refine (spec_siteWords.calls k _ _ l0_0 true _ ?side1 ?side2 A4.out).mono ?_);(case side1=>exact bW);(case side2=>exact HC0_0.out);rintro e w' ⟨rfl,⟨nd,rfl⟩⟩;(try first | exact ⟨rfl,_,World.drewN_drewN _ _ _⟩ | exact ⟨rfl,_,Eq.trans (World.drewN_drewN _ _ _) (congrArg (World.drewN _) (Nat.add_assoc _ _ _))⟩)) | (go_at_call 67;(with_reducible refine (spec_siteWords.calls k _ _ l0_1 false _ ?side1 ?side2 A6.out).mono ?_);(case side1=>exact bZ);(case side2=>exact HC0_1.out);rintro e w' ⟨rfl,⟨nd,rfl⟩⟩;(try first | exact ⟨rfl,_,World.drewN_drewN _ _ _⟩ | exact ⟨rfl,_,Eq.trans (World.drewN_drewN _ _ _) (congrArg (World.drewN _) (Nat.add_assoc _ _ _))⟩))))
    go_meet
    case rel=>exact ⟨_,(true),bE,H',⟨by first | omega | exact Nat.le_refl _⟩,⟨by (with_reducible repeat (first | refine blk_drewN ?_ _ | refine blk_drew ?_ | refine blk_alloc ?_ _));exact BK114.out⟩,⟨by repeat (first | (with_reducible first | exact HB.out | apply below_alloc | apply pw_below_drewN | apply below_drew1 | refine below_set ?_ GE114.out) | exact HB.out)⟩⟩
  ·replace c5:=Bool.eq_false_iff.mpr c5;subst c5;have H1:(spec_SiteKnown.j0 k true l0_0 l0_1 l0_2 l0_3)=some r:=by rw[if_neg (show ¬ (false=true) by decide)] at H;exact H
   clear H;have H:=H1;clear H1;have H':=bR H;clear H;have hcz13_0:w3.cell? ⟨gb114,0,none⟩=some (.slice A0_0 l0_0.length c0_0):=(blk_cell BK114.out 0).trans rfl;have hcz13_1:w3.cell? ⟨gb114,1,none⟩=some (.slice A0_1 l0_1.length c0_1):=(blk_cell BK114.out 1).trans rfl;have hcz13_2:w3.cell? ⟨gb114,2,none⟩=some (.slice A0_2 l0_2.length c0_2):=(blk_cell BK114.out 2).trans rfl;have hcz13_3:w3.cell? ⟨gb114,3,none⟩=some (.slice A0_3 l0_3.length c0_3):=(blk_cell BK114.out 3).trans rfl;have hfz13_0:=blk_frozen BK114.out 0;have hfz13_1:=blk_frozen BK114.out 1;have hfz13_2:=blk_frozen BK114.out 2;have hfz13_3:=blk_frozen BK114.out 3
   go_wp2_with (first | (go_at_call 67;(with_reducible refine (spec_siteWords.calls k _ _ l0_0 false _ ?side1 ?side2 A4.out).mono ?_);(case side1=>exact bW);(case side2=>exact HC0_0.out);rintro e w' ⟨rfl,⟨nd,rfl⟩⟩;(try first | exact ⟨rfl,_,World.drewN_drewN _ _ _⟩ | exact ⟨rfl,_,Eq.trans (World.drewN_drewN _ _ _) (congrArg (World.drewN _) (Nat.add_assoc _ _ _))⟩)))
   repeat (go_quiet (first | (go_at_call 67;(with_reducible refine (spec_siteWords.calls k _ _ l0_0 false _ ?side1 ?side2 A4.out).mono ?_);(case side1=>exact bW);(case side2=>exact HC0_0.out);rintro e w' ⟨rfl,⟨nd,rfl⟩⟩;(try first | exact ⟨rfl,_,World.drewN_drewN _ _ _⟩ | exact ⟨rfl,_,Eq.trans (World.drewN_drewN _ _ _) (congrArg (World.drewN _) (Nat.add_assoc _ _ _))⟩)));try go_wp2_with (first | (go_at_call 67;(with_reducible refine (spec_siteWords.calls k _ _ l0_0 false _ ?side1 ?side2 A4.out).mono ?_);(case side1=>exact bW);(case side2=>exact HC0_0.out);rintro e w' ⟨rfl,⟨nd,rfl⟩⟩;(try first | exact ⟨rfl,_,World.drewN_drewN _ _ _⟩ | exact ⟨rfl,_,Eq.trans (World.drewN_drewN _ _ _) (congrArg (World.drewN _) (Nat.add_assoc _ _ _))⟩))))
   go_meet
   case rel=>exact ⟨_,(true),bE,H',⟨by first | omega | exact Nat.le_refl _⟩,⟨by (with_reducible repeat (first | refine blk_drewN ?_ _ | refine blk_drew ?_ | refine blk_alloc ?_ _));exact BK114.out⟩,⟨by repeat (first | (with_reducible first | exact HB.out | apply below_alloc | apply pw_below_drewN | apply below_drew1 | refine below_set ?_ GE114.out) | exact HB.out)⟩⟩
 case rest =>
  clear HC2
  try clear p2
  try clear c4
  try clear c5
  try clear c7
  try clear c9
  try clear hcz10_0
  try clear hcz10_1
  try clear hcz10_2
  try clear hcz10_3
  try clear hcz11_0
  try clear hcz11_1
  try clear hcz11_2
  try clear hcz11_3
  try clear hcz12_0
  try clear hcz12_1
  try clear hcz12_2
  try clear hcz12_3
  try clear hcz13_0
  try clear hcz13_1
  try clear hcz13_2
  try clear hcz13_3
  try clear hfz10_0
  try clear hfz10_1
  try clear hfz10_2
  try clear hfz10_3
  try clear hfz11_0
  try clear hfz11_1
  try clear hfz11_2
  try clear hfz11_3
  try clear hfz12_0
  try clear hfz12_1
  try clear hfz12_2
  try clear hfz12_3
  try clear hfz13_0
  try clear hfz13_1
  try clear hfz13_2
  try clear hfz13_3
  obtain ⟨kq,x26_1,rfl,HA,HJ1,BK114,HB⟩:=hcut
  cases kq with
  | zero=>exact absurd HA.out (by simp[spec_SiteKnown.j0])
  | succ kj1 =>
   have H:=HA.out;clear HA;simp only[spec_SiteKnown.j0] at H
   by_cases c14:x26_1=true
   ·subst c14;have H1:(some false)=some r:=by rw[if_pos rfl] at H;exact H
    clear H;have H:=H1;clear H1;obtain rfl:=Option.some.inj H;go_wp2
    repeat (go_quiet (fail);try go_wp2)
    go_ret;exact ⟨by first | rfl | (simp[errW_none,errW_some] <;> rfl) | (simp[*,errW_none,errW_some] <;> rfl),by repeat (first | (with_reducible first | exact HB.out | apply below_alloc | apply pw_below_drewN | apply below_drew1 | refine below_set ?_ GE114.out) | exact HB.out)⟩
   ·replace c14:=Bool.eq_false_iff.mpr c14;subst c14;have H1:(spec_SiteKnown.l0 kj1 0 l0_0 l0_1 l0_2 l0_3)=some r:=by rw[if_neg (show ¬ (false=true) by decide)] at H;exact H
    clear H;have H:=H1;clear H1;have H':=bR H;clear H;go_wp2
    repeat (go_quiet (fail);try go_wp2)
    go_loopg [3] kj1 (fun kq v3 w'=>∃ (x3_2:Int),v3 = .int .i64 x3_2∧Aside0 (spec_SiteKnown.l0 kq x3_2 l0_0 l0_1 l0_2 l0_3=some r)∧Aside0 (kq≤kj1)∧Aside0 (w'.heap[gb114]? = some (.cells #[(.slice A0_0 l0_0.length c0_0),(.slice A0_1 l0_1.length c0_1),(.slice A0_2 l0_2.length c0_2),(.slice A0_3 l0_3.length c0_3)] 25 (0,0)))∧Aside0 (Below w.heap.size w w'))
    case atStart=>exact ⟨(0),bE,H',⟨Nat.le_refl _⟩,⟨by (with_reducible repeat (first | refine blk_drewN ?_ _ | refine blk_drew ?_ | refine blk_alloc ?_ _));exact BK114.out⟩,⟨by repeat (first | (with_reducible first | exact HB.out | apply below_alloc | apply pw_below_drewN | apply below_drew1 | refine below_set ?_ GE114.out) | exact HB.out)⟩⟩
    case round =>
     clear H'
     try clear c1
     try clear p2
     try clear c4
     try clear c5
     try clear c7
     try clear c9
     try clear c14
     try clear hcz10_0
     try clear hcz10_1
     try clear hcz10_2
     try clear hcz10_3
     try clear hcz11_0
     try clear hcz11_1
     try clear hcz11_2
     try clear hcz11_3
     try clear hcz12_0
     try clear hcz12_1
     try clear hcz12_2
     try clear hcz12_3
     try clear hcz13_0
     try clear hcz13_1
     try clear hcz13_2
     try clear hcz13_3
     try clear hfz10_0
     try clear hfz10_1
     try clear hfz10_2
     try clear hfz10_3
     try clear hfz11_0
     try clear hfz11_1
     try clear hfz11_2
     try clear hfz11_3
     try clear hfz12_0
     try clear hfz12_1
     try clear hfz12_2
     try clear hfz12_3
     try clear hfz13_0
     try clear hfz13_1
     try clear hfz13_2
     try clear hfz13_3
     try clear p2
     obtain ⟨x3_2,rfl,HA,HK2,BK114,HB⟩:=hrel
     cases gk with
     | zero=>exact absurd HA.out (by simp[spec_SiteKnown.l0])
     | succ k2 =>
      have H:=HA.out;clear HA;simp only[spec_SiteKnown.l0] at H
      by_cases c15:x3_2 < (l0_1.length:Int)
      ·rw[if_pos c15] at H;have c15b0:decide (x3_2 < (l0_1.length:Int))=true:=decide_eq_true c15;clear c15
       by_cases c16:0≤x3_2
       ·rw[if_pos c16] at H;have c16b0:decide (0≤x3_2)=true:=decide_eq_true c16;clear c16;replace H:=Option.bind_eq_some_iff.mp H;obtain ⟨t119,A170,H⟩:=H;replace H:(if t119=true then (some false) else (spec_SiteKnown.l0 k2 (wrap64 (x3_2+1)) l0_0 l0_1 l0_2 l0_3))=some r:=H;have A17:=bR A170;clear A170
        by_cases c18:t119=true
        ·subst c18;have H1:(some false)=some r:=by rw[if_pos rfl] at H;exact H
         clear H;have H:=H1;clear H1;obtain rfl:=Option.some.inj H;have hcz19_0:wr.cell? ⟨gb114,0,none⟩=some (.slice A0_0 l0_0.length c0_0):=(blk_cell BK114.out 0).trans rfl;have hcz19_1:wr.cell? ⟨gb114,1,none⟩=some (.slice A0_1 l0_1.length c0_1):=(blk_cell BK114.out 1).trans rfl;have hcz19_2:wr.cell? ⟨gb114,2,none⟩=some (.slice A0_2 l0_2.length c0_2):=(blk_cell BK114.out 2).trans rfl;have hcz19_3:wr.cell? ⟨gb114,3,none⟩=some (.slice A0_3 l0_3.length c0_3):=(blk_cell BK114.out 3).trans rfl;have hfz19_0:=blk_frozen BK114.out 0;have hfz19_1:=blk_frozen BK114.out 1;have hfz19_2:=blk_frozen BK114.out 2;have hfz19_3:=blk_frozen BK114.out 3;have p118:0≤(x3_2:Int):=bQ
         have q118:x3_2 < (l0_1.length:Int):=bQ;obtain ⟨ad118,e118,hx118_0⟩:=Kd.at_string HR0_1.out x3_2 p118 q118;cases e118;replace hx118_0:=(HB.out.cell (World.block_lt_of_cell? w _ hx118_0)).trans hx118_0;replace p118:=eq_true p118;replace q118:=eq_true q118
         go_wp2_with (first | (go_at_call 68;(with_reducible refine (spec_among.calls k2 _ _ l0_0 (rdOf ByteArray.empty l0_1 x3_2) true _ ?side1 ?side2 A17.out).mono ?_);(case side1=>exact bW);(case side2=>exact HC0_0.out);rintro e w' ⟨rfl,⟨nd,rfl⟩⟩;(try first | exact ⟨rfl,_,World.drewN_drewN _ _ _⟩ | exact ⟨rfl,_,Eq.trans (World.drewN_drewN _ _ _) (congrArg (World.drewN _) (Nat.add_assoc _ _ _))⟩)))
         repeat (go_quiet (first | (go_at_call 68;(with_reducible refine (spec_among.calls k2 _ _ l0_0 (rdOf ByteArray.empty l0_1 x3_2) true _ ?side1 ?side2 A17.out).mono ?_);(case side1=>exact bW);(case side2=>exact HC0_0.out);rintro e w' ⟨rfl,⟨nd,rfl⟩⟩;(try first | exact ⟨rfl,_,World.drewN_drewN _ _ _⟩ | exact ⟨rfl,_,Eq.trans (World.drewN_drewN _ _ _) (congrArg (World.drewN _) (Nat.add_assoc _ _ _))⟩)));try go_wp2_with (first | (go_at_call 68;(with_reducible refine (spec_among.calls k2 _ _ l0_0 (rdOf ByteArray.empty l0_1 x3_2) true _ ?side1 ?side2 A17.out).mono ?_);(case side1=>exact bW);(case side2=>exact HC0_0.out);rintro e w' ⟨rfl,⟨nd,rfl⟩⟩;(try first | exact ⟨rfl,_,World.drewN_drewN _ _ _⟩ | exact ⟨rfl,_,Eq.trans (World.drewN_drewN _ _ _) (congrArg (World.drewN _) (Nat.add_assoc _ _ _))⟩))))
         go_ret;exact ⟨by first | rfl | (simp[errW_none,errW_some] <;> rfl) | (simp[*,errW_none,errW_some] <;> rfl),by repeat (first | (with_reducible first | exact HB.out | apply below_alloc | apply pw_below_drewN | apply below_drew1 | refine below_set ?_ GE114.out) | exact HB.out)⟩
        ·replace c18:=Bool.eq_false_iff.mpr c18;subst c18;have H1:(spec_SiteKnown.l0 k2 (wrap64 (x3_2+1)) l0_0 l0_1 l0_2 l0_3)=some r:=by rw[if_neg (show ¬ (false=true) by decide)] at H;exact H
         clear H;have H:=H1;clear H1;have H':=bR H;clear H;have hcz20_0:wr.cell? ⟨gb114,0,none⟩=some (.slice A0_0 l0_0.length c0_0):=(blk_cell BK114.out 0).trans rfl;have hcz20_1:wr.cell? ⟨gb114,1,none⟩=some (.slice A0_1 l0_1.length c0_1):=(blk_cell BK114.out 1).trans rfl;have hcz20_2:wr.cell? ⟨gb114,2,none⟩=some (.slice A0_2 l0_2.length c0_2):=(blk_cell BK114.out 2).trans rfl;have hcz20_3:wr.cell? ⟨gb114,3,none⟩=some (.slice A0_3 l0_3.length c0_3):=(blk_cell BK114.out 3).trans rfl;have hfz20_0:=blk_frozen BK114.out 0;have hfz20_1:=blk_frozen BK114.out 1;have hfz20_2:=blk_frozen BK114.out 2;have hfz20_3:=blk_frozen BK114.out 3;have p118:0≤(x3_2:Int):=bQ
         have q118:x3_2 < (l0_1.length:Int):=bQ;obtain ⟨ad118,e118,hx118_0⟩:=Kd.at_string HR0_1.out x3_2 p118 q118;cases e118;replace hx118_0:=(HB.out.cell (World.block_lt_of_cell? w _ hx118_0)).trans hx118_0;replace p118:=eq_true p118;replace q118:=eq_true q118
         go_wp2_with (first | (go_at_call 68;(with_reducible refine (spec_among.calls k2 _ _ l0_0 (rdOf ByteArray.empty l0_1 x3_2) false _ ?side1 ?side2 A17.out).mono ?_);(case side1=>exact bW);(case side2=>exact HC0_0.out);rintro e w' ⟨rfl,⟨nd,rfl⟩⟩;(try first | exact ⟨rfl,_,World.drewN_drewN _ _ _⟩ | exact ⟨rfl,_,Eq.trans (World.drewN_drewN _ _ _) (congrArg (World.drewN _) (Nat.add_assoc _ _ _))⟩)))
         repeat (go_quiet (first | (go_at_call 68;(with_reducible refine (spec_among.calls k2 _ _ l0_0 (rdOf ByteArray.empty l0_1 x3_2) false _ ?side1 ?side2 A17.out).mono ?_);(case side1=>exact bW);(case side2=>exact HC0_0.out);rintro e w' ⟨rfl,⟨nd,rfl⟩⟩;(try first | exact ⟨rfl,_,World.drewN_drewN _ _ _⟩ | exact ⟨rfl,_,Eq.trans (World.drewN_drewN _ _ _) (congrArg (World.drewN _) (Nat.add_assoc _ _ _))⟩)));try go_wp2_with (first | (go_at_call 68;(with_reducible refine (spec_among.calls k2 _ _ l0_0 (rdOf ByteArray.empty l0_1 x3_2) false _ ?side1 ?side2 A17.out).mono ?_);(case side1=>exact bW);(case side2=>exact HC0_0.out);rintro e w' ⟨rfl,⟨nd,rfl⟩⟩;(try first | exact ⟨rfl,_,World.drewN_drewN _ _ _⟩ | exact ⟨rfl,_,Eq.trans (World.drewN_drewN _ _ _) (congrArg (World.drewN _) (Nat.add_assoc _ _ _))⟩))))
         go_roundg k2
         case measure=>have:=HJ1.out;have:=HK2.out;omega
         case rel=>exact ⟨(wrap64 (x3_2+1)),bE,H',⟨by have:=HJ1.out;have:=HK2.out;omega⟩,⟨by (with_reducible repeat (first | refine blk_drewN ?_ _ | refine blk_drew ?_ | refine blk_alloc ?_ _));exact BK114.out⟩,⟨by repeat (first | (with_reducible first | exact HB.out | apply below_alloc | apply pw_below_drewN | apply below_drew1 | refine below_set ?_ GE114.out) | exact HB.out)⟩⟩
       ·rw[if_neg c16] at H;exact absurd H bI
      ·rw[if_neg c15] at H;have c15b0:decide (x3_2 < (l0_1.length:Int))=false:=decide_eq_false c15;clear c15;have H':=bR H;clear H;have hcz21_0:wr.cell? ⟨gb114,0,none⟩=some (.slice A0_0 l0_0.length c0_0):=(blk_cell BK114.out 0).trans rfl;have hcz21_1:wr.cell? ⟨gb114,1,none⟩=some (.slice A0_1 l0_1.length c0_1):=(blk_cell BK114.out 1).trans rfl;have hcz21_2:wr.cell? ⟨gb114,2,none⟩=some (.slice A0_2 l0_2.length c0_2):=(blk_cell BK114.out 2).trans rfl;have hcz21_3:wr.cell? ⟨gb114,3,none⟩=some (.slice A0_3 l0_3.length c0_3):=(blk_cell BK114.out 3).trans rfl;have hfz21_0:=blk_frozen BK114.out 0;have hfz21_1:=blk_frozen BK114.out 1;have hfz21_2:=blk_frozen BK114.out 2;have hfz21_3:=blk_frozen BK114.out 3;go_wp2
       repeat (go_quiet (fail);try go_wp2)
       go_loopg [4] k2 (fun kq v4 w'=>∃ (x4_3:Int),v4 = .int .i64 x4_3∧Aside0 (spec_SiteKnown.l1 kq x4_3 l0_0 l0_1 l0_2 l0_3=some r)∧Aside0 (kq≤k2)∧Aside0 (w'.heap[gb114]? = some (.cells #[(.slice A0_0 l0_0.length c0_0),(.slice A0_1 l0_1.length c0_1),(.slice A0_2 l0_2.length c0_2),(.slice A0_3 l0_3.length c0_3)] 25 (0,0)))∧Aside0 (Below w.heap.size w w'))
       case atStart=>exact ⟨(0),bE,H',⟨Nat.le_refl _⟩,⟨by (with_reducible repeat (first | refine blk_drewN ?_ _ | refine blk_drew ?_ | refine blk_alloc ?_ _));exact BK114.out⟩,⟨by repeat (first | (with_reducible first | exact HB.out | apply below_alloc | apply pw_below_drewN | apply below_drew1 | refine below_set ?_ GE114.out) | exact HB.out)⟩⟩
       case round =>
        clear H'
        try clear c1
        try clear p1
        try clear q1
        try clear hx1
        try clear p2
        try clear c4
        try clear c5
        try clear p6
        try clear c7
        try clear c9
        try clear p11
        try clear q11
        try clear hx11
        try clear c14
        try clear c15
        try clear c15b0
        try clear c16
        try clear c16b0
        try clear c18
        try clear hcz10_0
        try clear hcz10_1
        try clear hcz10_2
        try clear hcz10_3
        try clear hcz11_0
        try clear hcz11_1
        try clear hcz11_2
        try clear hcz11_3
        try clear hcz12_0
        try clear hcz12_1
        try clear hcz12_2
        try clear hcz12_3
        try clear hcz13_0
        try clear hcz13_1
        try clear hcz13_2
        try clear hcz13_3
        try clear hcz19_0
        try clear hcz19_1
        try clear hcz19_2
        try clear hcz19_3
        try clear hcz20_0
        try clear hcz20_1
        try clear hcz20_2
        try clear hcz20_3
        try clear hcz21_0
        try clear hcz21_1
        try clear hcz21_2
        try clear hcz21_3
        try clear hfz10_0
        try clear hfz10_1
        try clear hfz10_2
        try clear hfz10_3
        try clear hfz11_0
        try clear hfz11_1
        try clear hfz11_2
        try clear hfz11_3
        try clear hfz12_0
        try clear hfz12_1
        try clear hfz12_2
        try clear hfz12_3
        try clear hfz13_0
        try clear hfz13_1
        try clear hfz13_2
        try clear hfz13_3
        try clear hfz19_0
        try clear hfz19_1
        try clear hfz19_2
        try clear hfz19_3
        try clear hfz20_0
        try clear hfz20_1
        try clear hfz20_2
        try clear hfz20_3
        try clear hfz21_0
        try clear hfz21_1
        try clear hfz21_2
        try clear hfz21_3
        try clear hx118_0
        try clear p118
        try clear p2
        try clear q118
        obtain ⟨x4_3,rfl,HA,HK3,BK114,HB⟩:=hrel
        cases gk with
        | zero=>exact absurd HA.out (by simp[spec_SiteKnown.l1])
        | succ k3 =>
         have H:=HA.out;clear HA;simp only[spec_SiteKnown.l1] at H
         by_cases c22:x4_3 < (l0_2.length:Int)
         ·rw[if_pos c22] at H;have c22b0:decide (x4_3 < (l0_2.length:Int))=true:=decide_eq_true c22;clear c22
          by_cases c23:0≤x4_3
          ·rw[if_pos c23] at H;have c23b0:decide (0≤x4_3)=true:=decide_eq_true c23;clear c23;replace H:=Option.bind_eq_some_iff.mp H;obtain ⟨t121,A240,H⟩:=H;replace H:(if t121=true then ((spec_siteWord.f k3 ((rd_T43 l0_2 x4_3).f1)).bind fun t123=>(if t123=true then (spec_SiteKnown.l1 k3 (wrap64 (x4_3+1)) l0_0 l0_1 l0_2 l0_3) else (some false))) else (some false))=some r:=H;have A24:=bR A240;clear A240
           by_cases c25:t121=true
           ·subst c25;have H1:((spec_siteWord.f k3 ((rd_T43 l0_2 x4_3).f1)).bind fun t123=>(if t123=true then (spec_SiteKnown.l1 k3 (wrap64 (x4_3+1)) l0_0 l0_1 l0_2 l0_3) else (some false)))=some r:=by rw[if_pos rfl] at H;exact H
            clear H;have H:=H1;clear H1;replace H:=Option.bind_eq_some_iff.mp H;obtain ⟨t123,A260,H⟩:=H;replace H:(if t123=true then (spec_SiteKnown.l1 k3 (wrap64 (x4_3+1)) l0_0 l0_1 l0_2 l0_3) else (some false))=some r:=H;have A26:=bR A260;clear A260
            by_cases c27:t123=true
            ·subst c27;have H1:(spec_SiteKnown.l1 k3 (wrap64 (x4_3+1)) l0_0 l0_1 l0_2 l0_3)=some r:=by rw[if_pos rfl] at H;exact H
             clear H;have H:=H1;clear H1;have H':=bR H;clear H;have hcz28_0:wr.cell? ⟨gb114,0,none⟩=some (.slice A0_0 l0_0.length c0_0):=(blk_cell BK114.out 0).trans rfl;have hcz28_1:wr.cell? ⟨gb114,1,none⟩=some (.slice A0_1 l0_1.length c0_1):=(blk_cell BK114.out 1).trans rfl;have hcz28_2:wr.cell? ⟨gb114,2,none⟩=some (.slice A0_2 l0_2.length c0_2):=(blk_cell BK114.out 2).trans rfl;have hcz28_3:wr.cell? ⟨gb114,3,none⟩=some (.slice A0_3 l0_3.length c0_3):=(blk_cell BK114.out 3).trans rfl;have hfz28_0:=blk_frozen BK114.out 0;have hfz28_1:=blk_frozen BK114.out 1;have hfz28_2:=blk_frozen BK114.out 2;have hfz28_3:=blk_frozen BK114.out 3;have p120:0≤(x4_3:Int):=bQ
             have q120:x4_3 < (l0_2.length:Int):=bQ;obtain ⟨ad120,e120,hx120_0,hx120_1⟩:=at_T43 HR0_2.out x4_3 p120 q120;cases e120;replace hx120_0:=(HB.out.cell (World.block_lt_of_cell? w _ hx120_0)).trans hx120_0;replace hx120_1:=(HB.out.cell (World.block_lt_of_cell? w _ hx120_1)).trans hx120_1;replace p120:=eq_true p120;replace q120:=eq_true q120
             go_wp2_with (first | (go_at_call 69;(with_reducible refine (spec_siteWord.calls k3 ((rd_T43 l0_2 x4_3).f0) true _ A24.out).mono ?_);rintro e w' ⟨rfl,⟨nd,rfl⟩⟩;(try first | exact ⟨rfl,_,World.drewN_drewN _ _ _⟩ | exact ⟨rfl,_,Eq.trans (World.drewN_drewN _ _ _) (congrArg (World.drewN _) (Nat.add_assoc _ _ _))⟩);have p122:0≤(x4_3:Int):=bQ;have q122:x4_3 < (l0_2.length:Int):=bQ;obtain ⟨ad122,e122,hx122_0,hx122_1⟩:=at_T43 HR0_2.out x4_3 p122 q122;obtain rfl:ad120=ad122:=(by injection e122);replace hx122_0:=(HB.out.cell (World.block_lt_of_cell? w _ hx122_0)).trans hx122_0;replace hx122_1:=(HB.out.cell (World.block_lt_of_cell? w _ hx122_1)).trans hx122_1;replace p122:=eq_true p122;replace q122:=eq_true q122) | (go_at_call 69;(with_reducible refine (spec_siteWord.calls k3 ((rd_T43 l0_2 x4_3).f1) true _ A26.out).mono ?_);rintro e w' ⟨rfl,⟨nd,rfl⟩⟩;(try first | exact ⟨rfl,_,World.drewN_drewN _ _ _⟩ | exact ⟨rfl,_,Eq.trans (World.drewN_drewN _ _ _) (congrArg (World.drewN _) (Nat.add_assoc _ _ _))⟩)))
             repeat (go_quiet (first | (go_at_call 69;(with_reducible refine (spec_siteWord.calls k3 ((rd_T43 l0_2 x4_3).f0) true _ A24.out).mono ?_);rintro e w' ⟨rfl,⟨nd,rfl⟩⟩;(try first | exact ⟨rfl,_,World.drewN_drewN _ _ _⟩ | exact ⟨rfl,_,Eq.trans (World.drewN_drewN _ _ _) (congrArg (World.drewN _) (Nat.add_assoc _ _ _))⟩);have p122:0≤(x4_3:Int):=bQ;have q122:x4_3 < (l0_2.length:Int):=bQ;obtain ⟨ad122,e122,hx122_0,hx122_1⟩:=at_T43 HR0_2.out x4_3 p122 q122;obtain rfl:ad120=ad122:=(by injection e122);replace hx122_0:=(HB.out.cell (World.block_lt_of_cell? w _ hx122_0)).trans hx122_0;replace hx122_1:=(HB.out.cell (World.block_lt_of_cell? w _ hx122_1)).trans hx122_1;replace p122:=eq_true p122;replace q122:=eq_true q122) | (go_at_call 69;(with_reducible refine (spec_siteWord.calls k3 ((rd_T43 l0_2 x4_3).f1) true _ A26.out).mono ?_);rintro e w' ⟨rfl,⟨nd,rfl⟩⟩;(try first | exact ⟨rfl,_,World.drewN_drewN _ _ _⟩ | exact ⟨rfl,_,Eq.trans (World.drewN_drewN _ _ _) (congrArg (World.drewN _) (Nat.add_assoc _ _ _))⟩)));try go_wp2_with (first | (go_at_call 69;(with_reducible refine (spec_siteWord.calls k3 ((rd_T43 l0_2 x4_3).f0) true _ A24.out).mono ?_);rintro e w' ⟨rfl,⟨nd,rfl⟩⟩;(try first | exact ⟨rfl,_,World.drewN_drewN _ _ _⟩ | exact ⟨rfl,_,Eq.trans (World.drewN_drewN _ _ _) (congrArg (World.drewN _) (Nat.add_assoc _ _ _))⟩);have p122:0≤(x4_3:Int):=bQ;have q122:x4_3 < (l0_2.length:Int):=bQ;obtain ⟨ad122,e122,hx122_0,hx122_1⟩:=at_T43 HR0_2.out x4_3 p122 q122;obtain rfl:ad120=ad122:=(by injection e122);replace hx122_0:=(HB.out.cell (World.block_lt_of_cell? w _ hx122_0)).trans hx122_0;replace hx122_1:=(HB.out.cell (World.block_lt_of_cell? w _ hx122_1)).trans hx122_1;replace p122:=eq_true p122;replace q122:=eq_true q122) | (go_at_call 69;(with_reducible refine (spec_siteWord.calls k3 ((rd_T43 l0_2 x4_3).f1) true _ A26.out).mono ?_);rintro e w' ⟨rfl,⟨nd,rfl⟩⟩;(try first | exact ⟨rfl,_,World.drewN_drewN _ _ _⟩ | exact ⟨rfl,_,Eq.trans (World.drewN_drewN _ _ _) (congrArg (World.drewN _) (Nat.add_assoc _ _ _))⟩))))
             go_roundg k3
             case measure=>have:=HJ1.out;have:=HK2.out;have:=HK3.out;omega
             case rel=>exact ⟨(wrap64 (x4_3+1)),bE,H',⟨by have:=HJ1.out;have:=HK2.out;have:=HK3.out;omega⟩,⟨by (with_reducible repeat (first | refine blk_drewN ?_ _ | refine blk_drew ?_ | refine blk_alloc ?_ _));exact BK114.out⟩,⟨by repeat (first | (with_reducible first | exact HB.out | apply below_alloc | apply pw_below_drewN | apply below_drew1 | refine below_set ?_ GE114.out) | exact HB.out)⟩⟩
            ·replace c27:=Bool.eq_false_iff.mpr c27;subst c27;have H1:(some false)=some r:=by rw[if_neg (show ¬ (false=true) by decide)] at H;exact H
             clear H;have H:=H1;clear H1;obtain rfl:=Option.some.inj H;have hcz29_0:wr.cell? ⟨gb114,0,none⟩=some (.slice A0_0 l0_0.length c0_0):=(blk_cell BK114.out 0).trans rfl;have hcz29_1:wr.cell? ⟨gb114,1,none⟩=some (.slice A0_1 l0_1.length c0_1):=(blk_cell BK114.out 1).trans rfl;have hcz29_2:wr.cell? ⟨gb114,2,none⟩=some (.slice A0_2 l0_2.length c0_2):=(blk_cell BK114.out 2).trans rfl;have hcz29_3:wr.cell? ⟨gb114,3,none⟩=some (.slice A0_3 l0_3.length c0_3):=(blk_cell BK114.out 3).trans rfl;have hfz29_0:=blk_frozen BK114.out 0;have hfz29_1:=blk_frozen BK114.out 1;have hfz29_2:=blk_frozen BK114.out 2;have hfz29_3:=blk_frozen BK114.out 3;have p120:0≤(x4_3:Int):=bQ
             have q120:x4_3 < (l0_2.length:Int):=bQ;obtain ⟨ad120,e120,hx120_0,hx120_1⟩:=at_T43 HR0_2.out x4_3 p120 q120;cases e120;replace hx120_0:=(HB.out.cell (World.block_lt_of_cell? w _ hx120_0)).trans hx120_0;replace hx120_1:=(HB.out.cell (World.block_lt_of_cell? w _ hx120_1)).trans hx120_1;replace p120:=eq_true p120;replace q120:=eq_true q120
             go_wp2_with (first | (go_at_call 69;(with_reducible refine (spec_siteWord.calls k3 ((rd_T43 l0_2 x4_3).f0) true _ A24.out).mono ?_);rintro e w' ⟨rfl,⟨nd,rfl⟩⟩;(try first | exact ⟨rfl,_,World.drewN_drewN _ _ _⟩ | exact ⟨rfl,_,Eq.trans (World.drewN_drewN _ _ _) (congrArg (World.drewN _) (Nat.add_assoc _ _ _))⟩);have p122:0≤(x4_3:Int):=bQ;have q122:x4_3 < (l0_2.length:Int):=bQ;obtain ⟨ad122,e122,hx122_0,hx122_1⟩:=at_T43 HR0_2.out x4_3 p122 q122;obtain rfl:ad120=ad122:=(by injection e122);replace hx122_0:=(HB.out.cell (World.block_lt_of_cell? w _ hx122_0)).trans hx122_0;replace hx122_1:=(HB.out.cell (World.block_lt_of_cell? w _ hx122_1)).trans hx122_1;replace p122:=eq_true p122;replace q122:=eq_true q122) | (go_at_call 69;(with_reducible refine (spec_siteWord.calls k3 ((rd_T43 l0_2 x4_3).f1) false _ A26.out).mono ?_);rintro e w' ⟨rfl,⟨nd,rfl⟩⟩;(try first | exact ⟨rfl,_,World.drewN_drewN _ _ _⟩ | exact ⟨rfl,_,Eq.trans (World.drewN_drewN _ _ _) (congrArg (World.drewN _) (Nat.add_assoc _ _ _))⟩)))
             repeat (go_quiet (first | (go_at_call 69;(with_reducible refine (spec_siteWord.calls k3 ((rd_T43 l0_2 x4_3).f0) true _ A24.out).mono ?_);rintro e w' ⟨rfl,⟨nd,rfl⟩⟩;(try first | exact ⟨rfl,_,World.drewN_drewN _ _ _⟩ | exact ⟨rfl,_,Eq.trans (World.drewN_drewN _ _ _) (congrArg (World.drewN _) (Nat.add_assoc _ _ _))⟩);have p122:0≤(x4_3:Int):=bQ;have q122:x4_3 < (l0_2.length:Int):=bQ;obtain ⟨ad122,e122,hx122_0,hx122_1⟩:=at_T43 HR0_2.out x4_3 p122 q122;obtain rfl:ad120=ad122:=(by injection e122);replace hx122_0:=(HB.out.cell (World.block_lt_of_cell? w _ hx122_0)).trans hx122_0;replace hx122_1:=(HB.out.cell (World.block_lt_of_cell? w _ hx122_1)).trans hx122_1;replace p122:=eq_true p122;replace q122:=eq_true q122) | (go_at_call 69;(with_reducible refine (spec_siteWord.calls k3 ((rd_T43 l0_2 x4_3).f1) false _ A26.out).mono ?_);rintro e w' ⟨rfl,⟨nd,rfl⟩⟩;(try first | exact ⟨rfl,_,World.drewN_drewN _ _ _⟩ | exact ⟨rfl,_,Eq.trans (World.drewN_drewN _ _ _) (congrArg (World.drewN _) (Nat.add_assoc _ _ _))⟩)));try go_wp2_with (first | (go_at_call 69;(with_reducible refine (spec_siteWord.calls k3 ((rd_T43 l0_2 x4_3).f0) true _ A24.out).mono ?_);rintro e w' ⟨rfl,⟨nd,rfl⟩⟩;(try first | exact ⟨rfl,_,World.drewN_drewN _ _ _⟩ | exact ⟨rfl,_,Eq.trans (World.drewN_drewN _ _ _) (congrArg (World.drewN _) (Nat.add_assoc _ _ _))⟩);have p122:0≤(x4_3:Int):=bQ;have q122:x4_3 < (l0_2.length:Int):=bQ;obtain ⟨ad122,e122,hx122_0,hx122_1⟩:=at_T43 HR0_2.out x4_3 p122 q122;obtain rfl:ad120=ad122:=(by injection e122);replace hx122_0:=(HB.out.cell (World.block_lt_of_cell? w _ hx122_0)).trans hx122_0;replace hx122_1:=(HB.out.cell (World.block_lt_of_cell? w _ hx122_1)).trans hx122_1;replace p122:=eq_true p122;replace q122:=eq_true q122) | (go_at_call 69;(with_reducible refine (spec_siteWord.calls k3 ((rd_T43 l0_2 x4_3).f1) false _ A26.out).mono ?_);rintro e w' ⟨rfl,⟨nd,rfl⟩⟩;(try first | exact ⟨rfl,_,World.drewN_drewN _ _ _⟩ | exact ⟨rfl,_,Eq.trans (World.drewN_drewN _ _ _) (congrArg (World.drewN _) (Nat.add_assoc _ _ _))⟩))))
             go_ret;exact ⟨by first | rfl | (simp[errW_none,errW_some] <;> rfl) | (simp[*,errW_none,errW_some] <;> rfl),by repeat (first | (with_reducible first | exact HB.out | apply below_alloc | apply pw_below_drewN | apply below_drew1 | refine below_set ?_ GE114.out) | exact HB.out)⟩
           ·replace c25:=Bool.eq_false_iff.mpr c25;subst c25;have H1:(some false)=some r:=by rw[if_neg (show ¬ (false=true) by decide)] at H;exact H
            clear H;have H:=H1;clear H1;obtain rfl:=Option.some.inj H;have hcz30_0:wr.cell? ⟨gb114,0,none⟩=some (.slice A0_0 l0_0.length c0_0):=(blk_cell BK114.out 0).trans rfl;have hcz30_1:wr.cell? ⟨gb114,1,none⟩=some (.slice A0_1 l0_1.length c0_1):=(blk_cell BK114.out 1).trans rfl;have hcz30_2:wr.cell? ⟨gb114,2,none⟩=some (.slice A0_2 l0_2.length c0_2):=(blk_cell BK114.out 2).trans rfl;have hcz30_3:wr.cell? ⟨gb114,3,none⟩=some (.slice A0_3 l0_3.length c0_3):=(blk_cell BK114.out 3).trans rfl;have hfz30_0:=blk_frozen BK114.out 0;have hfz30_1:=blk_frozen BK114.out 1;have hfz30_2:=blk_frozen BK114.out 2;have hfz30_3:=blk_frozen BK114.out 3;have p120:0≤(x4_3:Int):=bQ
            have q120:x4_3 < (l0_2.length:Int):=bQ;obtain ⟨ad120,e120,hx120_0,hx120_1⟩:=at_T43 HR0_2.out x4_3 p120 q120;cases e120;replace hx120_0:=(HB.out.cell (World.block_lt_of_cell? w _ hx120_0)).trans hx120_0;replace hx120_1:=(HB.out.cell (World.block_lt_of_cell? w _ hx120_1)).trans hx120_1;replace p120:=eq_true p120;replace q120:=eq_true q120
            go_wp2_with (first | (go_at_call 69;(with_reducible refine (spec_siteWord.calls k3 ((rd_T43 l0_2 x4_3).f0) false _ A24.out).mono ?_);rintro e w' ⟨rfl,⟨nd,rfl⟩⟩;(try first | exact ⟨rfl,_,World.drewN_drewN _ _ _⟩ | exact ⟨rfl,_,Eq.trans (World.drewN_drewN _ _ _) (congrArg (World.drewN _) (Nat.add_assoc _ _ _))⟩)))
            repeat (go_quiet (first | (go_at_call 69;(with_reducible refine (spec_siteWord.calls k3 ((rd_T43 l0_2 x4_3).f0) false _ A24.out).mono ?_);rintro e w' ⟨rfl,⟨nd,rfl⟩⟩;(try first | exact ⟨rfl,_,World.drewN_drewN _ _ _⟩ | exact ⟨rfl,_,Eq.trans (World.drewN_drewN _ _ _) (congrArg (World.drewN _) (Nat.add_assoc _ _ _))⟩)));try go_wp2_with (first | (go_at_call 69;(with_reducible refine (spec_siteWord.calls k3 ((rd_T43 l0_2 x4_3).f0) false _ A24.out).mono ?_);rintro e w' ⟨rfl,⟨nd,rfl⟩⟩;(try first | exact ⟨rfl,_,World.drewN_drewN _ _ _⟩ | exact ⟨rfl,_,Eq.trans (World.drewN_drewN _ _ _) (congrArg (World.drewN _) (Nat.add_assoc _ _ _))⟩))))
            go_ret;exact ⟨by first | rfl | (simp[errW_none,errW_some] <;> rfl) | (simp[*,errW_none,errW_some] <;> rfl),by repeat (first | (with_reducible first | exact HB.out | apply below_alloc | apply pw_below_drewN | apply below_drew1 | refine below_set ?_ GE114.out) | exact HB.out)⟩
          ·rw[if_neg c23] at H;exact absurd H bI
         ·rw[if_neg c22] at H;have c22b0:decide (x4_3 < (l0_2.length:Int))=false:=decide_eq_false c22;clear c22;obtain rfl:=Option.some.inj H;have hcz31_0:wr.cell? ⟨gb114,0,none⟩=some (.slice A0_0 l0_0.length c0_0):=(blk_cell BK114.out 0).trans rfl;have hcz31_1:wr.cell? ⟨gb114,1,none⟩=some (.slice A0_1 l0_1.length c0_1):=(blk_cell BK114.out 1).trans rfl;have hcz31_2:wr.cell? ⟨gb114,2,none⟩=some (.slice A0_2 l0_2.length c0_2):=(blk_cell BK114.out 2).trans rfl;have hcz31_3:wr.cell? ⟨gb114,3,none⟩=some (.slice A0_3 l0_3.length c0_3):=(blk_cell BK114.out 3).trans rfl;have hfz31_0:=blk_frozen BK114.out 0;have hfz31_1:=blk_frozen BK114.out 1;have hfz31_2:=blk_frozen BK114.out 2;have hfz31_3:=blk_frozen BK114.out 3;go_wp2
          repeat (go_quiet (fail);try go_wp2)
          go_ret;exact ⟨by first | rfl | (simp[errW_none,errW_some] <;> rfl) | (simp[*,errW_none,errW_some] <;> rfl),by repeat (first | (with_reducible first | exact HB.out | apply below_alloc | apply pw_below_drewN | apply below_drew1 | refine below_set ?_ GE114.out) | exact HB.out)⟩
end Go.Proofs.YtmgdbpjidkdegaaGreatDoor.PCore
