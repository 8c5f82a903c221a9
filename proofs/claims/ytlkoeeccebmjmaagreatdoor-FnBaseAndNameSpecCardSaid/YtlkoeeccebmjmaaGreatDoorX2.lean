/- Texts that the law leans on: Shelf, Acc, Str, Site, Kind, Wrap, Parser, Moved, Acc2. Condition: as told at each. -/
import Derived.Shelf.Strings.OnBuilder
import Derived.Shelf.Strings.LastIndex
import Derived.Shelf.Strings.Prefix
import Derived.Test.YtlkoeeccebmjmaaGreatDoorProg
import Derived.Deep.OwnRows
import Derived.Maps.OwnSet
import Derived.Maps.StringElems
import Derived.Laws.EntriesVeiled
import Derived.Test.YtlkoeeccebmjmaaGreatDoorXa
import Derived.Test.YtlkoeeccebmjmaaGreatDoorX1
set_option linter.unusedVariables false
set_option linter.unusedSimpArgs false
set_option maxRecDepth 100000
set_option maxHeartbeats 16000000
namespace Go.Proofs
open Go.Shelf
def Tryz.lays159_ren:Go.Shelf.Ren:=⟨fun | 159=>141 | 165=>153 | 166=>154 | 167=>155 | 169=>156 | 230=>157 | 204=>158 | 240=>169 | 241=>170 | 197=>171 | 118=>172 | 168=>173 | 270=>174 | 262=>175 | 276=>179 | 277=>180 | 260=>181 | 242=>182 | 313=>183 | 278=>184 | 274=>185 | 275=>186 | n=>n,fun | 9=>9 | 4=>4 | 3=>3 | 5=>5 | 72=>115 | 0=>0 | 76=>117 | 75=>71 | 107=>121 | 70=>113 | 20=>20 | 37=>108 | 127=>125 | 21=>21 | 105=>126 | 164=>136 | 162=>142 | 203=>140 | 119=>144 | 46=>143 | 139=>147 | 138=>146 | 51=>131 | 160=>148 | 208=>154 | 206=>152 | 80=>74 | n=>n,fun | 13=>1 | 3=>2 | 4=>3 | n=>n⟩
theorem Tryz.lays159:Go.Proofs.Lays.n159 Tryz.prog Tryz.lays159_ren:={
 mixed:=by kernel_rfl
 f118:=Tryz.func172.trans (congrArg some (by kernel_rfl))
 f159:=Tryz.func141.trans (congrArg some (by kernel_rfl))
 f165:=Tryz.func153.trans (congrArg some (by kernel_rfl))
 f166:=Tryz.func154.trans (congrArg some (by kernel_rfl))
 f167:=Tryz.func155.trans (congrArg some (by kernel_rfl))
 f168:=Tryz.func173.trans (congrArg some (by kernel_rfl))
 f169:=Tryz.func156.trans (congrArg some (by kernel_rfl))
 f197:=Tryz.func171.trans (congrArg some (by kernel_rfl))
 f204:=Tryz.func158.trans (congrArg some (by kernel_rfl))
 f230:=Tryz.func157.trans (congrArg some (by kernel_rfl))
 f240:=Tryz.func169.trans (congrArg some (by kernel_rfl))
 f241:=Tryz.func170.trans (congrArg some (by kernel_rfl))
 f242:=Tryz.func182.trans (congrArg some (by kernel_rfl))
 f260:=Tryz.func181.trans (congrArg some (by kernel_rfl))
 f262:=Tryz.func175.trans (congrArg some (by kernel_rfl))
 f270:=Tryz.func174.trans (congrArg some (by kernel_rfl))
 f274:=Tryz.func185.trans (congrArg some (by kernel_rfl))
 f275:=Tryz.func186.trans (congrArg some (by kernel_rfl))
 f276:=Tryz.func179.trans (congrArg some (by kernel_rfl))
 f277:=Tryz.func180.trans (congrArg some (by kernel_rfl))
 f278:=Tryz.func184.trans (congrArg some (by kernel_rfl))
 f313:=Tryz.func183.trans (congrArg some (by kernel_rfl))
 t0:=Tryz.underlying0
 a0:=Tryz.isAgg0
 z0:=Tryz.sizeOf0
 v0:=Tryz.zeroValue0
 t3:=Tryz.underlying3
 a3:=Tryz.isAgg3
 z3:=Tryz.sizeOf3
 v3:=Tryz.zeroValue3
 t4:=Tryz.underlying4
 a4:=Tryz.isAgg4
 z4:=Tryz.sizeOf4
 v4:=Tryz.zeroValue4
 t5:=Tryz.underlying5
 a5:=Tryz.isAgg5
 z5:=Tryz.sizeOf5
 v5:=Tryz.zeroValue5
 t9:=Tryz.underlying9
 a9:=Tryz.isAgg9
 z9:=Tryz.sizeOf9
 v9:=Tryz.zeroValue9
 t20:=Tryz.underlying20
 a20:=Tryz.isAgg20
 z20:=Tryz.sizeOf20
 v20:=Tryz.zeroValue20
 t21:=Tryz.underlying21
 a21:=Tryz.isAgg21
 z21:=Tryz.sizeOf21
 v21:=Tryz.zeroValue21
 t37:=Tryz.underlying108
 a37:=Tryz.isAgg108
 z37:=Tryz.sizeOf108
 v37:=Tryz.zeroValue108
 t46:=Tryz.underlying143
 a46:=Tryz.isAgg143
 z46:=Tryz.sizeOf143
 v46:=Tryz.zeroValue143
 t51:=Tryz.underlying131
 a51:=Tryz.isAgg131
 z51:=Tryz.sizeOf131
 v51:=Tryz.zeroValue131
 t70:=Tryz.underlying113
 a70:=Tryz.isAgg113
 z70:=Tryz.sizeOf113
 v70:=Tryz.zeroValue113
 t72:=Tryz.underlying115
 a72:=Tryz.isAgg115
 z72:=Tryz.sizeOf115
 v72:=Tryz.zeroValue115
 t75:=Tryz.underlying71
 a75:=Tryz.isAgg71
 z75:=Tryz.sizeOf71
 v75:=Tryz.zeroValue71
 t76:=Tryz.underlying117
 a76:=Tryz.isAgg117
 z76:=Tryz.sizeOf117
 v76:=Tryz.zeroValue117
 t105:=Tryz.underlying126
 a105:=Tryz.isAgg126
 z105:=Tryz.sizeOf126
 v105:=Tryz.zeroValue126
 t107:=Tryz.underlying121
 a107:=Tryz.isAgg121
 z107:=Tryz.sizeOf121
 v107:=Tryz.zeroValue121
 t119:=Tryz.underlying144
 a119:=Tryz.isAgg144
 z119:=Tryz.sizeOf144
 t127:=Tryz.underlying125
 a127:=Tryz.isAgg125
 z127:=Tryz.sizeOf125
 v127:=Tryz.zeroValue125
 t138:=Tryz.underlying146
 a138:=Tryz.isAgg146
 z138:=Tryz.sizeOf146
 v138:=Tryz.zeroValue146
 t139:=Tryz.underlying147
 a139:=Tryz.isAgg147
 z139:=Tryz.sizeOf147
 v139:=Tryz.zeroValue147
 t160:=Tryz.underlying148
 a160:=Tryz.isAgg148
 z160:=Tryz.sizeOf148
 v160:=Tryz.zeroValue148
 t162:=Tryz.underlying142
 a162:=Tryz.isAgg142
 z162:=Tryz.sizeOf142
 v162:=Tryz.zeroValue142
 t164:=Tryz.underlying136
 a164:=Tryz.isAgg136
 z164:=Tryz.sizeOf136
 v164:=Tryz.zeroValue136
 t203:=Tryz.underlying140
 a203:=Tryz.isAgg140
 z203:=Tryz.sizeOf140
 v203:=Tryz.zeroValue140
 t206:=Tryz.underlying152
 a206:=Tryz.isAgg152
 z206:=Tryz.sizeOf152
 v206:=Tryz.zeroValue152
 t208:=Tryz.underlying154
 a208:=Tryz.isAgg154
 z208:=Tryz.sizeOf154
 v208:=Tryz.zeroValue154
 g3:=by kernel_rfl
 g4:=by kernel_rfl
 g13:=by kernel_rfl }
theorem Tryz.Builder_Extra_159:Builder.Extra Tryz.prog Tryz.lays159_ren:={
 sizeBuilder:=by kernel_rfl
 liesBuilder:=by kernel_rfl
 t5:=Tryz.underlying5
 a5:=Tryz.isAgg5
 z5:=Tryz.sizeOf5
 v5:=Tryz.zeroValue5
 infoByte:=by kernel_rfl
 cellsByte:=by kernel_rfl
 sizeByte:=by kernel_rfl
 neB5:=by decide }
open Go.RowKit in
theorem Tryz.strings_ToLower_ascii (s:ByteArray) (w:World) (hs:s.size≤140737488355328) (hascii:∀ (j:Nat) (b:UInt8),s.data.toList[j]? = some b→b.toNat < 128) :
 Calls Tryz.prog 141 #[.string s] w fun e w'=>e = .returned (.string ⟨(Lib.toLowerA s.data.toList).toArray⟩)∧Below w.heap.size w w':=Any.strings_ToLower_ascii Tryz.lays159 Tryz.Builder_Extra_159 s w hs hascii
def Tryz.lays148_ren:Go.Shelf.Ren:=⟨fun | 148=>145 | 222=>161 | 223=>162 | 269=>176 | n=>n,fun | 9=>9 | 3=>3 | 4=>4 | 5=>5 | 146=>132 | 51=>131 | 46=>143 | n=>n,fun | n=>n⟩
theorem Tryz.lays148:Go.Proofs.Lays.n148 Tryz.prog Tryz.lays148_ren:={
 mixed:=by kernel_rfl
 f148:=Tryz.func145.trans (congrArg some (by kernel_rfl))
 f222:=Tryz.func161.trans (congrArg some (by kernel_rfl))
 f223:=Tryz.func162.trans (congrArg some (by kernel_rfl))
 f269:=Tryz.func176.trans (congrArg some (by kernel_rfl))
 t3:=Tryz.underlying3
 a3:=Tryz.isAgg3
 z3:=Tryz.sizeOf3
 v3:=Tryz.zeroValue3
 t4:=Tryz.underlying4
 a4:=Tryz.isAgg4
 z4:=Tryz.sizeOf4
 v4:=Tryz.zeroValue4
 t5:=Tryz.underlying5
 a5:=Tryz.isAgg5
 z5:=Tryz.sizeOf5
 v5:=Tryz.zeroValue5
 t9:=Tryz.underlying9
 a9:=Tryz.isAgg9
 z9:=Tryz.sizeOf9
 v9:=Tryz.zeroValue9
 t46:=Tryz.underlying143
 a46:=Tryz.isAgg143
 z46:=Tryz.sizeOf143
 v46:=Tryz.zeroValue143
 t51:=Tryz.underlying131
 a51:=Tryz.isAgg131
 z51:=Tryz.sizeOf131
 v51:=Tryz.zeroValue131
 t146:=Tryz.underlying132
 a146:=Tryz.isAgg132
 z146:=Tryz.sizeOf132
 v146:=Tryz.zeroValue132 }
open Go.RowKit Go.Lib in
theorem Tryz.strings_LastIndex_one (s sub:ByteArray) (h1:sub.size=1) (hs:s.size < 4611686018427387904) (w:World) :
 Calls Tryz.prog 145 #[.string s,.string sub] w fun e w'=>e = .returned (.int .i64 (Lib.lastIndexByte s ((sub[0]'(by omega)).toNat:Int)))∧w'=w:=Any.strings_LastIndex_one Tryz.lays148 s sub h1 hs w
def Tryz.lays99_ren:Go.Shelf.Ren:=⟨fun | 99=>143 | 206=>160 | n=>n,fun | 9=>9 | 4=>4 | 3=>3 | n=>n,fun | n=>n⟩
theorem Tryz.lays99:Go.Proofs.Lays.n99 Tryz.prog Tryz.lays99_ren:={
 mixed:=by kernel_rfl
 f99:=Tryz.func143.trans (congrArg some (by kernel_rfl))
 f206:=Tryz.func160.trans (congrArg some (by kernel_rfl))
 t3:=Tryz.underlying3
 a3:=Tryz.isAgg3
 z3:=Tryz.sizeOf3
 v3:=Tryz.zeroValue3
 t4:=Tryz.underlying4
 a4:=Tryz.isAgg4
 z4:=Tryz.sizeOf4
 v4:=Tryz.zeroValue4
 t9:=Tryz.underlying9
 a9:=Tryz.isAgg9
 z9:=Tryz.sizeOf9
 v9:=Tryz.zeroValue9 }
open Go.RowKit Go.Lib in
theorem Tryz.strings_HasPrefix (s p:ByteArray) (w:World) :
 Calls Tryz.prog 143 #[.string s,.string p] w fun e w'=>e = .returned (.bool (Lib.hasPrefix s.data.toList p.data.toList))∧w'=w:=Any.strings_HasPrefix Tryz.lays99 s p w
def Tryz.lays100_ren:Go.Shelf.Ren:=⟨fun | 100=>177 | 207=>168 | n=>n,fun | 9=>9 | 4=>4 | 3=>3 | n=>n,fun | n=>n⟩
theorem Tryz.lays100:Go.Proofs.Lays.n100 Tryz.prog Tryz.lays100_ren:={
 mixed:=by kernel_rfl
 f100:=Tryz.func177.trans (congrArg some (by kernel_rfl))
 f207:=Tryz.func168.trans (congrArg some (by kernel_rfl))
 t3:=Tryz.underlying3
 a3:=Tryz.isAgg3
 z3:=Tryz.sizeOf3
 v3:=Tryz.zeroValue3
 t4:=Tryz.underlying4
 a4:=Tryz.isAgg4
 z4:=Tryz.sizeOf4
 v4:=Tryz.zeroValue4
 t9:=Tryz.underlying9
 a9:=Tryz.isAgg9
 z9:=Tryz.sizeOf9
 v9:=Tryz.zeroValue9 }
open Go.RowKit Go.Lib in
theorem Tryz.strings_HasSuffix (s p:ByteArray) (w:World) (hs:s.size≤9223372036854775807) :
 Calls Tryz.prog 177 #[.string s,.string p] w fun e w'=>e = .returned (.bool (Lib.hasSuffix s.data.toList p.data.toList))∧w'=w:=Any.strings_HasSuffix Tryz.lays100 s p w hs
def Tryz.lays101_ren:Go.Shelf.Ren:=⟨fun | 101=>129 | 208=>151 | 206=>160 | n=>n,fun | 9=>9 | 4=>4 | 3=>3 | n=>n,fun | n=>n⟩
theorem Tryz.lays101:Go.Proofs.Lays.n101 Tryz.prog Tryz.lays101_ren:={
 mixed:=by kernel_rfl
 f101:=Tryz.func129.trans (congrArg some (by kernel_rfl))
 f206:=Tryz.func160.trans (congrArg some (by kernel_rfl))
 f208:=Tryz.func151.trans (congrArg some (by kernel_rfl))
 t3:=Tryz.underlying3
 a3:=Tryz.isAgg3
 z3:=Tryz.sizeOf3
 v3:=Tryz.zeroValue3
 t4:=Tryz.underlying4
 a4:=Tryz.isAgg4
 z4:=Tryz.sizeOf4
 v4:=Tryz.zeroValue4
 t9:=Tryz.underlying9
 a9:=Tryz.isAgg9
 z9:=Tryz.sizeOf9
 v9:=Tryz.zeroValue9 }
open Go.RowKit Go.Lib in
theorem Tryz.strings_TrimPrefix (s p:ByteArray) (w:World) :
 Calls Tryz.prog 129 #[.string s,.string p] w fun e w'=>e = .returned (.string ⟨(Lib.trimPrefix s.data.toList p.data.toList).toArray⟩)∧w'=w:=Any.strings_TrimPrefix Tryz.lays101 s p w
def Tryz.lays102_ren:Go.Shelf.Ren:=⟨fun | 102=>135 | 209=>152 | 207=>168 | n=>n,fun | 9=>9 | 4=>4 | 3=>3 | n=>n,fun | n=>n⟩
theorem Tryz.lays102:Go.Proofs.Lays.n102 Tryz.prog Tryz.lays102_ren:={
 mixed:=by kernel_rfl
 f102:=Tryz.func135.trans (congrArg some (by kernel_rfl))
 f207:=Tryz.func168.trans (congrArg some (by kernel_rfl))
 f209:=Tryz.func152.trans (congrArg some (by kernel_rfl))
 t3:=Tryz.underlying3
 a3:=Tryz.isAgg3
 z3:=Tryz.sizeOf3
 v3:=Tryz.zeroValue3
 t4:=Tryz.underlying4
 a4:=Tryz.isAgg4
 z4:=Tryz.sizeOf4
 v4:=Tryz.zeroValue4
 t9:=Tryz.underlying9
 a9:=Tryz.isAgg9
 z9:=Tryz.sizeOf9
 v9:=Tryz.zeroValue9 }
open Go.RowKit Go.Lib in
theorem Tryz.strings_TrimSuffix (s p:ByteArray) (w:World) (hs:s.size≤9223372036854775807) :
 Calls Tryz.prog 135 #[.string s,.string p] w fun e w'=>e = .returned (.string ⟨(Lib.trimSuffix s.data.toList p.data.toList).toArray⟩)∧w'=w:=Any.strings_TrimSuffix Tryz.lays102 s p w hs
end Go.Proofs
namespace Go.Proofs.YtlkoeeccebmjmaaGreatDoor.Path
open Go.RowKit Go.ZW.PrintWords Go.Proofs.YtlkoeeccebmjmaaGreatDoor.Base
structure PathIn (p:eE):Prop where
 sz:p.s.size≤1000000
 kn:∀ x∈p.known,1≤x.1∧x.1≤x.2∧x.2≤p.s.size
 un:∀ x∈p.unknown,0≤x.1∧x.1≤x.2∧x.2≤p.s.size
 kl:p.known.length≤1000000
 ul:p.unknown.length≤1000000
 ll:p.plangs.length≤1000000
structure hU (p:eE):Prop extends PathIn p where
 ch:1≤p.cHigh∧p.cHigh≤p.s.size
 cl:p.cLow = -1∨(1≤p.cLow∧p.cLow≤p.cHigh - 1)
 se:p.sec≤p.s.size
 k0:∀ x,p.known[0]? = some x→p.cHigh≤x.1 - 1
 na:0≤p.nLow∧p.nLow≤p.nHigh∧p.nHigh≤p.s.size
def nrm (t:Bool) (s:ByteArray):ByteArray:=if t then ⟨(Lib.trimPrefix (L s) [47]).toArray⟩ else s
def sub (s:ByteArray) (a b:Int):ByteArray:=s.extract a.toNat b.toNat
theorem iW (s:ByteArray) (a b:Nat):sub s (a:Int) (b:Int)=s.extract a b:=rfl
section
variable {w:World} {B b:Nat} {p:eE} {vk vu vl u:Value}
theorem eF.knownAt (H:eF w B b p vk vu vl u) (i:Nat) (x:Int×Int) (h:p.known[i]? = some x) :
 ∃ g c,vk = .slice (some ⟨g,0,none⟩) p.known.length c∧w.cell? ⟨g,i * 2,none⟩=some (.int .i64 x.1)∧w.cell? ⟨g,i * 2+1,none⟩=some (.int .i64 x.2):=by
 have hi:i < p.known.length:=(List.getElem?_eq_some_iff.1 h).1;obtain ⟨h1,h2⟩:=xR p.known i x h;rcases H.ok.2 with ⟨_,h0⟩ | ⟨g,c,cur,e,_⟩
 ·omega
 have hb:vk.ownBlock=some g:=by rw[e];rfl
 have c1:=H.ok.cells hb _ _ h1;have c2:=H.ok.cells hb _ _ h2;have ad:∀ j,(⟨g,0,none⟩:Addr).add j=⟨g,j,none⟩:=by intro j;unfold Addr.add;split <;> simp_all
 rw[ad] at c1 c2;exact ⟨g,c,e,c1,c2⟩
theorem eF.unknownAt (H:eF w B b p vk vu vl u) (i:Nat) (x:Int×Int) (h:p.unknown[i]? = some x) :
 ∃ g c,vu = .slice (some ⟨g,0,none⟩) p.unknown.length c∧w.cell? ⟨g,i * 2,none⟩=some (.int .i64 x.1)∧w.cell? ⟨g,i * 2+1,none⟩=some (.int .i64 x.2):=by
 have hi:i < p.unknown.length:=(List.getElem?_eq_some_iff.1 h).1;obtain ⟨h1,h2⟩:=xR p.unknown i x h;rcases H.ou.2 with ⟨_,h0⟩ | ⟨g,c,cur,e,_⟩
 ·omega
 have hb:vu.ownBlock=some g:=by rw[e];rfl
 have c1:=H.ou.cells hb _ _ h1;have c2:=H.ou.cells hb _ _ h2;have ad:∀ j,(⟨g,0,none⟩:Addr).add j=⟨g,j,none⟩:=by intro j;unfold Addr.add;split <;> simp_all
 rw[ad] at c1 c2;exact ⟨g,c,e,c1,c2⟩
theorem eF.langAt (H:eF w B b p vk vu vl u) (i:Nat) (x:Int) (h:p.plangs[i]? = some x) :
 ∃ g c,vl = .slice (some ⟨g,0,none⟩) p.plangs.length c∧w.cell? ⟨g,i,none⟩=some (.int .i64 x):=by
 have hi:i < p.plangs.length:=(List.getElem?_eq_some_iff.1 h).1;have h1:(nums .i64 p.plangs)[i]? = some (.int .i64 x):=by simp[nums,h]
 rcases H.ol.2 with ⟨_,h0⟩ | ⟨g,c,cur,e,_⟩
 ·omega
 have hb:vl.ownBlock=some g:=by rw[e];rfl
 have c1:=H.ol.cells hb _ _ h1;have ad:∀ j,(⟨g,0,none⟩:Addr).add j=⟨g,j,none⟩:=by intro j;unfold Addr.add;split <;> simp_all
 rw[ad] at c1;exact ⟨g,c,e,c1⟩
theorem iN (H:eF w B b p vk vu vl u) (s:ByteArray) :
 Calls Tryz.prog 69 #[.pointer (some ⟨b,0,none⟩),.string s] w fun e w'=>e = .returned (.string (nrm p.trim s))∧w'=w:=by
 have h24:=H.row.at 24 _ rfl;clear H;cases ht:p.trim
 ·rw[ht] at h24;clear ht;go_enter Tryz.func69,Tryz.ntmps69;go_wp2_with fail
  go_ret;exact ⟨rfl,rfl⟩
 rw[ht] at h24;clear ht;go_enter Tryz.func69,Tryz.ntmps69;go_wp2_with fail
 (with_reducible refine (Tryz.strings_TrimPrefix _ _ _).mono ?_)
 rintro e w' ⟨rfl,rfl⟩;go_wp2_with fail
 go_ret;exact ⟨rfl,rfl⟩
theorem rR (H:eF w B b p vk vu vl u):Calls Tryz.prog 73 #[.pointer (some ⟨b,0,none⟩)] w fun e w'=>e = .returned (.string p.comp)∧w'=w:=by
 have h:=H.row.at 4 _ rfl;clear H;go_enter Tryz.func73,Tryz.ntmps73;go_wp2_with fail
 go_ret;exact ⟨rfl,rfl⟩
theorem zI (H:eF w B b p vk vu vl u):Calls Tryz.prog 94 #[.pointer (some ⟨b,0,none⟩)] w fun e w'=>e = .returned (.bool p.dis)∧w'=w:=by
 have h:=H.row.at 23 _ rfl;clear H;go_enter Tryz.func94,Tryz.ntmps94;go_wp2_with fail
 go_ret;exact ⟨rfl,rfl⟩
theorem sY (H:eF w B b p vk vu vl u):Calls Tryz.prog 100 #[.pointer (some ⟨b,0,none⟩)] w fun e w'=>e = .returned (.int .i64 p.typ)∧w'=w:=by
 have h:=H.row.at 5 _ rfl;clear H;go_enter Tryz.func100,Tryz.ntmps100;go_wp2_with fail
 go_ret;exact ⟨rfl,rfl⟩
theorem lC (H:eF w B b p vk vu vl u):Calls Tryz.prog 128 #[.pointer (some ⟨b,0,none⟩)] w fun e w'=>e = .returned (.bool (decide (2≤p.typ∧p.typ≤5)))∧w'=w:=by
 have ct:=sY H;clear H
 by_cases c1:2≤p.typ
 ·by_cases c2:p.typ≤5
  ·have hv:decide (2≤p.typ∧p.typ≤5)=true:=by simp[c1,c2]
   rw[hv];clear hv;go_enter Tryz.func128,Tryz.ntmps128;go_wp2_with fail
   (with_reducible refine ct.mono ?_)
   rintro e w' ⟨rfl,rfl⟩;go_wp2_with fail
   (with_reducible refine ct.mono ?_)
   rintro e w' ⟨rfl,rfl⟩;go_wp2_with fail
   go_ret;exact ⟨rfl,rfl⟩
  have hv:decide (2≤p.typ∧p.typ≤5)=false:=by simp[c2]
  have hb:decide (p.typ≤5)=false:=decide_eq_false c2;rw[hv];clear hv;go_enter Tryz.func128,Tryz.ntmps128;go_wp2_with fail
  (with_reducible refine ct.mono ?_)
  rintro e w' ⟨rfl,rfl⟩;go_wp2_with fail
  (with_reducible refine ct.mono ?_)
  rintro e w' ⟨rfl,rfl⟩;go_wp2_with fail
  go_ret;exact ⟨rfl,rfl⟩
 have hv:decide (2≤p.typ∧p.typ≤5)=false:=by simp[c1]
 rw[hv];clear hv;go_enter Tryz.func128,Tryz.ntmps128;go_wp2_with fail
 (with_reducible refine ct.mono ?_)
 rintro e w' ⟨rfl,rfl⟩;go_wp2_with fail
 go_ret;exact ⟨rfl,rfl⟩
theorem yA (H:eF w B b p vk vu vl u):Calls Tryz.prog 95 #[.pointer (some ⟨b,0,none⟩)] w fun e w'=>e = .returned (.bool (decide (1≤p.typ∧p.typ≤5)))∧w'=w:=by
 have ct:=sY H;clear H
 by_cases c1:1≤p.typ
 ·by_cases c2:p.typ≤5
  ·have hv:decide (1≤p.typ∧p.typ≤5)=true:=by simp[c1,c2]
   rw[hv];clear hv;go_enter Tryz.func95,Tryz.ntmps95;go_wp2_with fail
   (with_reducible refine ct.mono ?_)
   rintro e w' ⟨rfl,rfl⟩;go_wp2_with fail
   (with_reducible refine ct.mono ?_)
   rintro e w' ⟨rfl,rfl⟩;go_wp2_with fail
   go_ret;exact ⟨rfl,rfl⟩
  have hv:decide (1≤p.typ∧p.typ≤5)=false:=by simp[c2]
  have hb:decide (p.typ≤5)=false:=decide_eq_false c2;rw[hv];clear hv;go_enter Tryz.func95,Tryz.ntmps95;go_wp2_with fail
  (with_reducible refine ct.mono ?_)
  rintro e w' ⟨rfl,rfl⟩;go_wp2_with fail
  (with_reducible refine ct.mono ?_)
  rintro e w' ⟨rfl,rfl⟩;go_wp2_with fail
  go_ret;exact ⟨rfl,rfl⟩
 have hv:decide (1≤p.typ∧p.typ≤5)=false:=by simp[c1]
 rw[hv];clear hv;go_enter Tryz.func95,Tryz.ntmps95;go_wp2_with fail
 (with_reducible refine ct.mono ?_)
 rintro e w' ⟨rfl,rfl⟩;go_wp2_with fail
 go_ret;exact ⟨rfl,rfl⟩
theorem oD (H:eF w B b p vk vu vl u):Calls Tryz.prog 96 #[.pointer (some ⟨b,0,none⟩)] w fun e w'=>e = .returned (.bool (decide (3≤p.typ∧p.typ≤5)))∧w'=w:=by
 have h:=H.row.at 5 _ rfl;clear H
 by_cases c1:3≤p.typ
 ·by_cases c2:p.typ≤5
  ·have hv:decide (3≤p.typ∧p.typ≤5)=true:=by simp[c1,c2]
   rw[hv];clear hv;go_enter Tryz.func96,Tryz.ntmps96;go_wp2_with fail
   go_ret;exact ⟨rfl,rfl⟩
  have hv:decide (3≤p.typ∧p.typ≤5)=false:=by simp[c2]
  have hb:decide (p.typ≤5)=false:=decide_eq_false c2;rw[hv];clear hv;go_enter Tryz.func96,Tryz.ntmps96;go_wp2_with fail
  go_ret;exact ⟨rfl,rfl⟩
 have hv:decide (3≤p.typ∧p.typ≤5)=false:=by simp[c1]
 rw[hv];clear hv;go_enter Tryz.func96,Tryz.ntmps96;go_wp2_with fail
 go_ret;exact ⟨rfl,rfl⟩
theorem sW (H:eF w B b p vk vu vl u):Calls Tryz.prog 97 #[.pointer (some ⟨b,0,none⟩)] w fun e w'=>e = .returned (.bool (p.typ==4))∧w'=w:=by
 have h:=H.row.at 5 _ rfl;clear H;go_enter Tryz.func97,Tryz.ntmps97;go_wp2_with fail
 go_ret;exact ⟨rfl,rfl⟩
theorem mW (H:eF w B b p vk vu vl u):Calls Tryz.prog 98 #[.pointer (some ⟨b,0,none⟩)] w fun e w'=>e = .returned (.bool (p.typ==3))∧w'=w:=by
 have h:=H.row.at 5 _ rfl;clear H;go_enter Tryz.func98,Tryz.ntmps98;go_wp2_with fail
 go_ret;exact ⟨rfl,rfl⟩
theorem uD (H:eF w B b p vk vu vl u):Calls Tryz.prog 99 #[.pointer (some ⟨b,0,none⟩)] w fun e w'=>e = .returned (.bool (p.typ==5))∧w'=w:=by
 have h:=H.row.at 5 _ rfl;clear H;go_enter Tryz.func99,Tryz.ntmps99;go_wp2_with fail
 go_ret;exact ⟨rfl,rfl⟩
theorem qP (H:eF w B b p vk vu vl u):Calls Tryz.prog 80 #[.pointer (some ⟨b,0,none⟩)] w fun e w'=>e = .returned (.string (nrm p.trim p.s))∧w'=w:=by
 have h:=H.row.at 0 _ rfl;have c:=iN H p.s;clear H;go_enter Tryz.func80,Tryz.ntmps80;go_wp2_with fail
 (with_reducible refine c.mono ?_)
 rintro e w' ⟨rfl,rfl⟩;go_wp2_with fail
 go_ret;exact ⟨rfl,rfl⟩
def mY (p:eE):ByteArray:=if p.cLow = -1 then ByteArray.empty else nrm p.trim (sub p.s p.cLow (p.cHigh - 1))
theorem rS (H:eF w B b p vk vu vl u) (O:hU p):Calls Tryz.prog 74 #[.pointer (some ⟨b,0,none⟩)] w fun e w'=>e = .returned (.string (mY p))∧eV w w':=by
 have h0:=H.row.at 0 _ rfl;have h1:=H.row.at 1 _ rfl;have h2:=H.row.at 2 _ rfl;have o1:=O.sz;obtain ⟨o2,o3⟩:=O.ch;have HH:=bW H;unfold mY;rcases O.cl with c | ⟨c1,c2⟩
 ·rw[if_pos c];rw[c] at h1;clear c H O;go_enter Tryz.func74,Tryz.ntmps74;go_wp2_with fail
  go_ret;exact ⟨rfl,eV.refl _⟩
 rw[if_neg bA];have hne:(p.cLow == -1)=false:=beq_eq_false_iff_ne.2 bA;obtain ⟨x,hx⟩:=Int.eq_ofNat_of_zero_le (show 0≤p.cLow by omega);obtain ⟨y,hy⟩:=Int.eq_ofNat_of_zero_le (show 0≤p.cHigh by omega);rw[hx] at h1 hne c1 c2 ⊢;rw[hy] at h2 o2 o3 c2 ⊢;rw[show ((y:Int) - 1)=((y - 1:Nat):Int) from by omega,iW];have hyc:IntKind.i64.wrap ((y:Int) - 1)=((y - 1:Nat):Int):=by rw[IntWalk.i64_in _ bA];omega
 have q1:(x:Int)≤((y - 1:Nat):Int):=by omega
 have q2:((y - 1:Nat):Int)≤p.s.size:=by omega
 clear hx hy H O;go_enter Tryz.func74,Tryz.ntmps74;go_wp2_with fail
 go_quiet ((go_at_call 69;exact Calls.quiet_of_same (iN (HH.out.drewN _) _)))
 go_wp2_with fail
 go_ret;exact ⟨rfl,⟨_,rfl⟩⟩
end
def fA (w:World) (B:Nat) (v:Value) (l:List ByteArray):Prop :=
 ∃ A c,v = .slice A l.length c∧l.length≤c∧(0 < l.length→∃ g o,A=some ⟨g,o,none⟩∧B≤g∧∀ j (h:j < l.length),w.cell? ⟨g,o+j,none⟩=some (.string (l[j]'h)))
theorem fA.nil (w:World) (B:Nat) (A:Option Addr) (c:Nat):fA w B (.slice A 0 c) []:=⟨A,c,rfl,Nat.zero_le _,fun h=>absurd h bJ⟩
theorem fA.mono {w:World} {B B' : Nat} {v:Value} {l:List ByteArray} (H:fA w B v l) (h:B'≤B):fA w B' v l:=by
 obtain ⟨A,c,e,hc,hh⟩:=H;refine ⟨A,c,e,hc,fun hp=>?_⟩;obtain ⟨g,o,ea,hg,r⟩:=hh hp;exact ⟨g,o,ea,Nat.le_trans h hg,r⟩
theorem fA.far {w w' : World} {B:Nat} {v:Value} {l:List ByteArray} (H:fA w B v l) (hb:∀ k,B≤k→k < w.heap.size→w'.heap[k]? = w.heap[k]?):fA w' B v l:=by
 obtain ⟨A,c,e,hc,h⟩:=H;refine ⟨A,c,e,hc,fun hp=>?_⟩;obtain ⟨g,o,ea,hg,hh⟩:=h hp;refine ⟨g,o,ea,hg,fun j hj=>?_⟩;have hl:=World.block_lt_of_cell? w ⟨g,o+j,none⟩ (hh j hj);rw[World.cell?_of_block (w:=w) (a:=⟨g,o+j,none⟩) (hb g hg hl)];exact hh j hj
theorem fA.below {w w' : World} {B:Nat} {v:Value} {l:List ByteArray} (H:fA w B v l) (hb:Below w.heap.size w w'):fA w' B v l:=H.far fun k _ hk=>hb.block k hk
theorem fA.at {w:World} {B:Nat} {v:Value} {l:List ByteArray} (H:fA w B v l) (hp:0 < l.length):∃ g o c,v = .slice (some ⟨g,o,none⟩) l.length c∧l.length≤c∧B≤g∧g < w.heap.size∧∀ j (h:j < l.length),w.cell? ⟨g,o+j,none⟩=some (.string (l[j]'h)):=by
 obtain ⟨A,c,e,hc,h⟩:=H;obtain ⟨g,o,ea,hg,hh⟩:=h hp;subst ea;exact ⟨g,o,c,e,hc,hg,World.block_lt_of_cell? w ⟨g,o+0,none⟩ (hh 0 hp),hh⟩
theorem fA.of_row {w:World} {b:Nat} {l:List ByteArray} (H:Row w b (l.map Value.string)) (c:Nat) (hc:l.length≤c):fA w b (.slice (some ⟨b,0,none⟩) l.length c) l:=by
 refine ⟨_,c,rfl,hc,fun _=>⟨b,0,rfl,Nat.le_refl _,fun j hj=>?_⟩⟩;rw[Nat.zero_add];exact H.at j _ (by simp[hj])
theorem Row.made (w:World) (n:Nat) (z:Value) (t:TypeId):Row (w.alloc (.cells (madeCells #[z] n) t)) w.heap.size (List.replicate n z):=by
 have h:=World.rowIs_made w z n t;intro j hj;have hj' : j < n:=by simpa using hj
 refine ⟨?_,h.frozen j⟩;rw[h.cell hj']
 simp
def fill (l:List ByteArray) (k:Nat):List Value:=(l.take k).map Value.string++List.replicate (l.length - k) (.string ⟨#[]⟩)
theorem uO (l:List ByteArray):fill l 0=List.replicate l.length (.string ⟨#[]⟩):=by simp[fill]
theorem xJ (l:List ByteArray):fill l l.length=l.map Value.string:=by simp[fill]
theorem pZ (l:List ByteArray) (k:Nat) (h:k≤l.length):(fill l k).length=l.length:=by simp[fill];omega
theorem aEi (l:List ByteArray) (k:Nat) (hk:k≤l.length) (j:Nat):(fill l k)[j]? = if j < k then (l[j]?).map Value.string else if j < l.length then some (.string ⟨#[]⟩) else none:=by
 unfold fill
 by_cases h:j < k
 ·rw[if_pos h,List.getElem?_append_left (by simp;omega),List.getElem?_map,List.getElem?_take_of_lt h]
 rw[if_neg h,List.getElem?_append_right (by simp;omega),List.getElem?_replicate];have e:((l.take k).map Value.string).length=k:=by simp;omega
 rw[e]
 by_cases h2:j < l.length
 ·rw[if_pos h2,if_pos bA]
 rw[if_neg h2,if_neg bA]
theorem xK (l:List ByteArray) (k:Nat) (h:k < l.length):(fill l k).set k (.string l[k])=fill l (k+1):=by
 apply List.ext_getElem?;intro j;rw[List.getElem?_set,aEi l k bA j,aEi l (k+1) bA j,pZ l k bA]
 by_cases e:k=j
 ·subst e;rw[if_pos rfl,if_pos h,if_pos bA,List.getElem?_eq_getElem h,Option.map_some]
 rw[if_neg e]
 by_cases h2:j < k
 ·rw[if_pos h2,if_pos bA]
 rw[if_neg h2,if_neg (show ¬ j < k+1 by omega)]
structure fF where
 langs:List ByteArray
 dis:List ByteArray
 fmts:List (ByteArray×ByteArray)
 cont:List ByteArray
def mV (w:World) (B:Nat) (v:Value) (l:List (ByteArray×ByteArray)):Prop :=
 ∃ A c,v = .slice A l.length c∧l.length≤c∧(0 < l.length→∃ g o,A=some ⟨g,o,none⟩∧B≤g∧∀ j (h:j < l.length),w.cell? ⟨g,o+j * 2,none⟩=some (.string (l[j]'h).1)∧w.cell? ⟨g,o+(j * 2+1),none⟩=some (.string (l[j]'h).2))
theorem mV.below {w w' : World} {B:Nat} {v:Value} {l:List (ByteArray×ByteArray)} (H:mV w B v l) (hb:Below w.heap.size w w'):mV w' B v l:=by
 obtain ⟨A,c,e,hc,h⟩:=H;refine ⟨A,c,e,hc,fun hp=>?_⟩;obtain ⟨g,o,ea,hg,hh⟩:=h hp;refine ⟨g,o,ea,hg,fun j hj=>?_⟩;have hl:=World.block_lt_of_cell? w ⟨g,o+j * 2,none⟩ (hh j hj).1;rw[hb.cell (p:=⟨g,o+j * 2,none⟩) hl,hb.cell (p:=⟨g,o+(j * 2+1),none⟩) hl];exact hh j hj
def listed (l:List ByteArray) (s:ByteArray):Bool:=l.any fun x=>x.toList==s.toList
theorem aDt (l:List ByteArray) (s:ByteArray) (k:Nat) (hk:k < l.length) (hn:listed (l.take k) s=false):listed (l.take (k+1)) s=(l[k].toList==s.toList):=by
 unfold listed at *;rw[List.take_succ_eq_append_getElem hk,List.any_append,hn]
 simp
theorem aFd (l:List ByteArray) (s:ByteArray) (k:Nat) (hk:k < l.length) (h:(l[k].toList==s.toList)=true):listed l s=true:=by
 unfold listed;rw[List.any_eq_true];exact ⟨l[k],List.getElem_mem hk,h⟩
section
variable {w:World}
theorem aAk {B:Nat} {v:Value} {l:List ByteArray} (S:fA w B v l) (s:ByteArray) (hl:l.length≤1000000):Calls Tryz.prog 62 #[v,.string s] w fun e w'=>e = .returned (.bool (listed l s))∧w'=w:=by
 obtain ⟨A,c,rfl,hc,hh⟩:=S;have HH:=bW hh;clear hh
 obtain ⟨n,hn⟩:∃ n,l.length=n:=⟨_,rfl⟩
 rw[hn] at hl;have HN:=bW hn;rw[hn];clear hn;go_enter Tryz.func62,Tryz.ntmps62;go_wp2_with fail
 go_loopg [9] n (fun g i wr=>∃ k:Nat,k≤n∧g=n - k∧i = .int .i64 k∧wr=w∧Aside0 (listed (l.take k) s=false))
 case atStart=>exact ⟨0,Nat.zero_le _,rfl,rfl,rfl,⟨by simp[listed]⟩⟩
 case round =>
  obtain ⟨k,hk,hg,rfl,rfl,HL⟩:=hrel
  by_cases hlt:k < n
  ·obtain ⟨g,o,rfl,hgB,hcell⟩:=HH.out (by rw[HN.out];omega);have hkl:k < l.length:=by rw[HN.out];exact hlt
   have hc:=hcell k hkl;have HS:=bW (aDt l s k hkl HL.out);have HT:=bW (aFd l s k hkl)
   obtain ⟨x,hx⟩:∃ x,l[k]=x:=⟨_,rfl⟩
   rw[hx] at hc HS HT;clear hcell hx
   by_cases hq:(x.toList==s.toList)=true
   ·rw[hq] at HS;go_wp2_with fail
    go_ret;exact ⟨by rw[HT.out hq];rfl,rfl⟩
   have hq' : (x.toList==s.toList)=false:=by simpa using hq
   rw[hq'] at HS;clear hq;go_wp2_with fail
   go_roundg (n - (k+1))
   case rel=>exact ⟨k+1,aM,rfl,aZ,rfl,HS⟩
   case measure=>omega
  have:k=n:=by omega
  subst this;have hn:=HN.out;have h:=HL.out;rw[← hn,List.take_length] at h;go_wp2_with fail
  go_ret;exact ⟨by rw[h];rfl,rfl⟩
def lM (l:List (ByteArray×ByteArray)) (n e:ByteArray):Bool:=l.any fun x=>x.1.toList==n.toList && (e.toList==[] || x.2.toList==e.toList)
theorem aDq (l:List (ByteArray×ByteArray)) (n e:ByteArray) (k:Nat) (hk:k < l.length) (hn:lM (l.take k) n e=false):lM (l.take (k+1)) n e=(l[k].1.toList==n.toList && (e.toList==[] || l[k].2.toList==e.toList)):=by
 unfold lM at *;rw[List.take_succ_eq_append_getElem hk,List.any_append,hn]
 simp
theorem aE7 (l:List (ByteArray×ByteArray)) (n e:ByteArray) (k:Nat) (hk:k < l.length) (h:(l[k].1.toList==n.toList && (e.toList==[] || l[k].2.toList==e.toList))=true):lM l n e=true:=by
 unfold lM;rw[List.any_eq_true];exact ⟨l[k],List.getElem_mem hk,h⟩
structure rE (w:World) (b:Nat) (st:fF) (vl vd vf vc:Value):Prop where
 row:Row w b [vl,vd,vf,vc]
 l:fA w 0 vl st.langs
 d:fA w 0 vd st.dis
 f:mV w 0 vf st.fmts
 c:fA w 0 vc st.cont
theorem rE.below {b:Nat} {st:fF} {vl vd vf vc:Value} (H:rE w b st vl vd vf vc) {w' : World} (hb:Below w.heap.size w w'):rE w' b st vl vd vf vc :=
 ⟨H.row.step (hb.block b (H.row.lt bJ)),H.l.below hb,H.d.below hb,H.f.below hb,H.c.below hb⟩
structure iR (st:fF):Prop where
 l:st.langs.length≤100000
 d:st.dis.length≤100000
 f:st.fmts.length≤100000
 c:st.cont.length≤100000
 z:∀ x∈st.langs,x.size≤100000
theorem oG {b:Nat} {st:fF} {vl vd vf vc:Value} (S:rE w b st vl vd vf vc) (O:iR st) (n e:ByteArray):Calls Tryz.prog 64 #[.string n,.string e,.pointer (some ⟨b,0,none⟩)] w fun x w'=>x = .returned (.bool (lM st.fmts n e))∧Below w.heap.size w w':=by
 have r2:=S.row.at 2 _ rfl;obtain ⟨A,c,rfl,hc,hh⟩:=S.f;have HH:=bW hh;have hl:=O.f;clear hh S O
 obtain ⟨m,hn⟩:∃ n,st.fmts.length=n:=⟨_,rfl⟩
 rw[hn] at hl r2;have HN:=bW hn;clear hn;go_enter Tryz.func64,Tryz.ntmps64;go_wp2_with fail
 go_loopg [11] m (fun g i wr=>∃ k:Nat,k≤m∧g=m - k∧i = .int .i64 k∧Aside0 (Below w.heap.size w wr)∧Aside0 (lM (st.fmts.take k) n e=false))
 case atStart=>exact ⟨0,Nat.zero_le _,rfl,rfl,⟨Below.refl _ _⟩,⟨by simp[lM]⟩⟩
 case round =>
  obtain ⟨k,hk,hg,rfl,HB,HL⟩:=hrel
  by_cases hlt:k < m
  ·obtain ⟨g,o,rfl,hgB,hcell⟩:=HH.out (by rw[HN.out];omega);have hkl:k < st.fmts.length:=by rw[HN.out];exact hlt
   obtain ⟨hc1,hc2⟩:=hcell k hkl;have hgw:=World.block_lt_of_cell? w ⟨g,o+k * 2,none⟩ hc1;have hb1:=HB.out.cell (p:=⟨g,o+k * 2,none⟩) hgw;have hb2:=HB.out.cell (p:=⟨g,o+(k * 2+1),none⟩) hgw;have d1:wr.cell? ⟨g,o+k * 2,none⟩=some (.string (st.fmts[k]).1):=hb1.trans hc1;have d2:wr.cell? ⟨g,o+(k * 2+1),none⟩=some (.string (st.fmts[k]).2):=hb2.trans hc2;have d3:wr.cell? ⟨g,o+k * 2+1,none⟩=some (.string (st.fmts[k]).2):=by rw[Nat.add_assoc];exact d2
   have hgr:g < wr.heap.size:=World.block_lt_of_cell? wr ⟨g,o+k * 2,none⟩ d1;have HS:=bW (aDq st.fmts n e k hkl HL.out);have HT:=bW (aE7 st.fmts n e k hkl)
   obtain ⟨x,hx⟩:∃ x,st.fmts[k]=x:=⟨_,rfl⟩
   rw[hx] at d1 d2 d3 HS HT;clear hcell hx hb1 hb2 hc1 hc2
   by_cases q1:(x.1.toList==n.toList)=true
   ·by_cases q2:(e.toList==[])=true
    ·rw[q1,q2] at HS HT;go_wp2_with fail
     go_ret;exact ⟨by rw[HT.out bJ];rfl,HB.out.alloc HB.out.size _⟩
    have q2' : (e.toList==[])=false:=by simpa using q2
    clear q2
    by_cases q3:(x.2.toList==e.toList)=true
    ·rw[q1,q2',q3] at HS HT;go_wp2_with fail
     go_ret;exact ⟨by rw[HT.out bJ];rfl,HB.out.alloc HB.out.size _⟩
    have q3' : (x.2.toList==e.toList)=false:=by simpa using q3
    clear q3;rw[q1,q2',q3'] at HS HT;go_wp2_with fail
    go_roundg (m - (k+1))
    case rel=>exact ⟨k+1,aM,rfl,aZ,⟨HB.out.alloc HB.out.size _⟩,⟨by rw[HS.out];simp⟩⟩
    case measure=>omega
   have q1' : (x.1.toList==n.toList)=false:=by simpa using q1
   clear q1;rw[q1'] at HS HT;go_wp2_with fail
   go_roundg (m - (k+1))
   case rel=>exact ⟨k+1,aM,rfl,aZ,⟨HB.out.alloc HB.out.size _⟩,⟨by rw[HS.out];simp⟩⟩
   case measure=>omega
  have:k=m:=by omega
  subst this;have hn:=HN.out;have h:=HL.out;rw[← hn,List.take_length] at h;go_wp2_with fail
  go_ret;exact ⟨by rw[h];rfl,HB.out⟩
structure iM (w:World) (b:Nat) (st:fF) (vl vd vf vc:Value) (mb sb fb:Nat):Prop where
 row:Row w b [.map (some mb),.func (.func 63) #[] #[.pointer (some ⟨fb,0,none⟩),.pointer (some ⟨sb,0,none⟩)],.func (.func 64) #[] #[.pointer (some ⟨sb,0,none⟩)],.func (.func 65) #[] #[.pointer (some ⟨fb,0,none⟩),.pointer (some ⟨sb,0,none⟩)]]
 site:rE w sb st vl vd vf vc
 has:w.cell? ⟨fb,0,none⟩=some (.func (.func 62) #[] #[])
 map:∃ (n:Nat) (D:DataW Unit),w.ownsMap Tryz.prog 9 (plainElem Tryz.prog 3) mb n D∧∀ s:ByteArray,Maps.has D (.string s.data.toList)=listed st.langs s
theorem oV {b fb:Nat} {st:fF} {vl vd vf vc:Value} (S:rE w b st vl vd vf vc) (O:iR st) (hf:w.cell? ⟨fb,0,none⟩=some (.func (.func 62) #[] #[])) (s:ByteArray):Calls Tryz.prog 63 #[.string s,.pointer (some ⟨fb,0,none⟩),.pointer (some ⟨b,0,none⟩)] w fun x w'=>x = .returned (.bool (listed st.dis s))∧w'=w:=by
 have r1:=S.row.at 1 _ rfl;have c:=aAk S.d s (Nat.le_trans O.d bA);obtain ⟨A,cp,rfl,_,_⟩:=S.d;clear S O;go_enter Tryz.func63,Tryz.ntmps63;go_wp2_with fail
 refine c.mono ?_;rintro e w' ⟨rfl,rfl⟩;go_wp2_with fail
 go_ret;exact ⟨rfl,rfl⟩
theorem uS {b fb:Nat} {st:fF} {vl vd vf vc:Value} (S:rE w b st vl vd vf vc) (O:iR st) (hf:w.cell? ⟨fb,0,none⟩=some (.func (.func 62) #[] #[])) (s:ByteArray):Calls Tryz.prog 65 #[.string s,.pointer (some ⟨fb,0,none⟩),.pointer (some ⟨b,0,none⟩)] w fun x w'=>x = .returned (.bool (listed st.cont s))∧w'=w:=by
 have r1:=S.row.at 3 _ rfl;have c:=aAk S.c s (Nat.le_trans O.c bA);obtain ⟨A,cp,rfl,_,_⟩:=S.c;clear S O;go_enter Tryz.func65,Tryz.ntmps65;go_wp2_with fail
 refine c.mono ?_;rintro e w' ⟨rfl,rfl⟩;go_wp2_with fail
 go_ret;exact ⟨rfl,rfl⟩
theorem law9:Go.Maps.Keyed Tryz.prog 9:=Go.Maps.string_keyed Tryz.underlying9
theorem aFc (st:List ByteArray) (D:DataW Unit) (k:Nat) (hk:k < st.length) (hm:Go.Maps.IsMap D) (d:DataW Unit) (h:∀ s:ByteArray,Maps.has D (.string s.data.toList)=listed (st.take k) s) :
 ∀ s:ByteArray,Maps.has (D.put (.string st[k].data.toList) d) (.string s.data.toList)=listed (st.take (k+1)) s:=by
 intro s
 have e:listed (st.take (k+1)) s=(listed (st.take k) s || st[k].toList==s.toList):=by
  unfold listed;rw[List.take_succ_eq_append_getElem hk,List.any_append]
  simp
 rw[e]
 by_cases q:st[k].data.toList=s.data.toList
 ·rw[q,Go.Maps.has_put_same hm (by constructor)];have:st[k].toList=s.toList:=by rw[L_toList,L_toList];exact q
  simp[this]
 rw[Go.Maps.has_put_other (fun h=>q (by injection h with h;exact h.symm)),h s];have:(st[k].toList==s.toList)=false:=by rw[beq_eq_false_iff_ne,L_toList,L_toList];exact q
 rw[this,Bool.or_false]
end
open Go.RowKit Go.WideMaps Go.Maps Go.ZW.PrintWords Go.Proofs.YtlkoeeccebmjmaaGreatDoor.Base
def aE9:DataW Unit:=(((((((.map []:DataW Unit).put (.string [112,97,103,101]) (.lit (.string [112,97,103,101]))).put (.string [104,111,109,101]) (.lit (.string [104,111,109,101]))).put (.string [115,101,99,116,105,111,110]) (.lit (.string [115,101,99,116,105,111,110]))).put (.string [116,97,120,111,110,111,109,121]) (.lit (.string [116,97,120,111,110,111,109,121]))).put (.string [116,101,114,109]) (.lit (.string [116,101,114,109]))).put (.string [116,97,120,111,110,111,109,121,116,101,114,109]) (.lit (.string [116,97,120,111,110,111,109,121])))
theorem oL (l:List UInt8) (h:l.length≤1000):(⟨l.toArray⟩:ByteArray).size≤maxLen:=by
 have:(⟨l.toArray⟩:ByteArray).size=l.length:=by show l.toArray.size=_;simp
 unfold maxLen;omega
theorem aBb (w:World):Calls Tryz.prog 178 #[] w fun e w'=>e = .returned (.map (some w.heap.size))∧w'.ownsMap Tryz.prog 9 (plainElem Tryz.prog 9) w.heap.size 6 aE9∧Below w.heap.size w w':=by
 have hmm:=@run_makeMap Tryz.prog;have o0:=World.ownsMap_made (H:=Unit) w Tryz.prog 9 (plainElem Tryz.prog 9);have b0:Below w.heap.size w (w.alloc (.map #[] 0)):=(Below.refl _ _).alloc (Nat.le_refl _) _;obtain ⟨w1,r1,o1,g1⟩:=o0.update (t:=134) law9 Tryz.underlying134 bR (key:=.string ⟨#[112,97,103,101]⟩) (val:=.string ⟨#[112,97,103,101]⟩) (keyOf_string_mk Tryz.underlying9 (oL _ bF)) (plainElem_string Tryz.underlying9 (oL _ bF));have b1:=b0.grown g1 b0.size (fun j hj=>by cases hj;exact Nat.le_refl _);obtain ⟨w2,r2,o2,g2⟩:=o1.update (t:=134) law9 Tryz.underlying134 bR (key:=.string ⟨#[104,111,109,101]⟩) (val:=.string ⟨#[104,111,109,101]⟩) (keyOf_string_mk Tryz.underlying9 (oL _ bF)) (plainElem_string Tryz.underlying9 (oL _ bF))
 have b2:=b1.grown g2 b1.size (fun j hj=>by cases hj;exact Nat.le_refl _);obtain ⟨w3,r3,o3,g3⟩:=o2.update (t:=134) law9 Tryz.underlying134 bR (key:=.string ⟨#[115,101,99,116,105,111,110]⟩) (val:=.string ⟨#[115,101,99,116,105,111,110]⟩) (keyOf_string_mk Tryz.underlying9 (oL _ bF)) (plainElem_string Tryz.underlying9 (oL _ bF));have b3:=b2.grown g3 b2.size (fun j hj=>by cases hj;exact Nat.le_refl _);obtain ⟨w4,r4,o4,g4⟩:=o3.update (t:=134) law9 Tryz.underlying134 bR (key:=.string ⟨#[116,97,120,111,110,111,109,121]⟩) (val:=.string ⟨#[116,97,120,111,110,111,109,121]⟩) (keyOf_string_mk Tryz.underlying9 (oL _ bF)) (plainElem_string Tryz.underlying9 (oL _ bF))
 have b4:=b3.grown g4 b3.size (fun j hj=>by cases hj;exact Nat.le_refl _);obtain ⟨w5,r5,o5,g5⟩:=o4.update (t:=134) law9 Tryz.underlying134 bR (key:=.string ⟨#[116,101,114,109]⟩) (val:=.string ⟨#[116,101,114,109]⟩) (keyOf_string_mk Tryz.underlying9 (oL _ bF)) (plainElem_string Tryz.underlying9 (oL _ bF));have b5:=b4.grown g5 b4.size (fun j hj=>by cases hj;exact Nat.le_refl _);obtain ⟨w6,r6,o6,g6⟩:=o5.update (t:=134) law9 Tryz.underlying134 bR (key:=.string ⟨#[116,97,120,111,110,111,109,121,116,101,114,109]⟩) (val:=.string ⟨#[116,97,120,111,110,111,109,121]⟩) (keyOf_string_mk Tryz.underlying9 (oL _ bF)) (plainElem_string Tryz.underlying9 (oL _ bF))
 have b6:=b5.grown g6 b5.size (fun j hj=>by cases hj;exact Nat.le_refl _);have HO:=bW o6;have HB:=bW b6;clear o0 o1 o2 o3 o4 o5 o6 b0 b1 b2 b3 b4 b5 b6 g1 g2 g3 g4 g5 g6;go_enter Tryz.func178,Tryz.ntmps178;go_wp2_with fail
 go_ret;exact ⟨rfl,HO.out,HB.out⟩
def oH (l:List UInt8):Bool:=l==[112,97,103,101] || l==[104,111,109,101] || l==[115,101,99,116,105,111,110] || l==[116,97,120,111,110,111,109,121] || l==[116,101,114,109] || l==[116,97,120,111,110,111,109,121,116,101,114,109]
theorem aHk (l:List UInt8):∃ r:List UInt8,DataW.atKey aE9 (.string l) (.lit (.string [])) = .lit (.string r)∧(r==[]) = !oH l:=by
 have at_same:∀ (D:DataW Unit) (k:List UInt8) (v:List UInt8),IsMap D→(D.put (.string k) (.lit (.string v))).atKey (.string k) (.lit (.string [])) = .lit (.string v):=fun D k v h=>atKey_put_same h (by constructor) _ _;unfold aE9 oH
 by_cases h6:l=[116,97,120,111,110,111,109,121,116,101,114,109]
 ·subst h6;exact ⟨_,at_same _ _ _ bQ,rfl⟩
 rw[atKey_put_other (fun h=>h6 (by injection h))]
 by_cases h5:l=[116,101,114,109]
 ·subst h5;exact ⟨_,at_same _ _ _ bQ,rfl⟩
 rw[atKey_put_other (fun h=>h5 (by injection h))]
 by_cases h4:l=[116,97,120,111,110,111,109,121]
 ·subst h4;exact ⟨_,at_same _ _ _ bQ,rfl⟩
 rw[atKey_put_other (fun h=>h4 (by injection h))]
 by_cases h3:l=[115,101,99,116,105,111,110]
 ·subst h3;exact ⟨_,at_same _ _ _ bQ,rfl⟩
 rw[atKey_put_other (fun h=>h3 (by injection h))]
 by_cases h2:l=[104,111,109,101]
 ·subst h2;exact ⟨_,at_same _ _ _ bQ,rfl⟩
 rw[atKey_put_other (fun h=>h2 (by injection h))]
 by_cases h1:l=[112,97,103,101]
 ·subst h1;exact ⟨_,at_same _ _ _ bQ,rfl⟩
 rw[atKey_put_other (fun h=>h1 (by injection h))];refine ⟨[],rfl,?_⟩
 simp[*]
theorem zero9 (w:World):(zeroValue 9).run Tryz.prog w = .ok (.string ⟨#[]⟩) w:=by kernel_rfl
theorem oN (s:ByteArray) (w:World) (hs:s.size≤1000000) (hascii:∀ (j:Nat) (b:UInt8),s.data.toList[j]? = some b→b.toNat < 128) :
 Calls Tryz.prog 166 #[.string s] w fun e w'=>∃ r:ByteArray,e = .returned (.string r)∧(r.toList==[]) = !oH (Lib.toLowerA (L s))∧Below w.heap.size w w':=by
 have ck:=aBb w;have cl:=fun W=>Tryz.strings_ToLower_ascii s W bA hascii;have hz:(Lib.toLowerA s.data.toList).length=s.size:=by show (List.map _ _).length=_;rw[List.length_map];simp
 have HZ:=bW hz
 obtain ⟨x,hx⟩:∃ x,Lib.toLowerA s.data.toList=x:=⟨_,rfl⟩
 rw[hx] at cl HZ;have HX:=bW hx;have HA:=bW hascii;clear hascii hx hz;go_enter Tryz.func166,Tryz.ntmps166;go_wp2_with fail
 refine ck.mono ?_;rintro e w1 ⟨rfl,ho,hb⟩;have HO:=bW ho;have HB:=bW hb;clear ho hb;go_wp2_with fail
 refine (cl w1).mono ?_;rintro e w2 ⟨rfl,hb⟩;have hsz:w.heap.size < w1.heap.size:=HO.out.lt;have HO2:=bW (HO.out.kept (row:=none) ⟨hb.os,hb.tape,hb.output,hb.size,fun k hk _=>hb.block k hk⟩ bJ);have HB2:=bW (eA HB.out hb)
 obtain ⟨v,ps,hrun,hv⟩:=HO2.out.lookup (t:=134) law9 Tryz.underlying134 (zero9 _) (plainElem_string Tryz.underlying9 (s:=⟨#[]⟩) (oL [] bF)) (key:=.string ⟨x.toArray⟩) (kl:=.string x) (by
  have:=keyOf_string_mk (P:=Tryz.prog) (k:=9) Tryz.underlying9 (s:=⟨x.toArray⟩) (by have:(⟨x.toArray⟩:ByteArray).size=x.length:=by { show x.toArray.size=_;simp };rw[this,HZ.out];unfold maxLen;omega)
  simpa using this)
 obtain ⟨r,rfl,hr,_⟩:=plainElem_string_inv Tryz.underlying9 hv;obtain ⟨r0,hr0,hr1⟩:=aHk x;rw[show DataW.lit (Lit.string ((⟨#[]⟩:ByteArray).data.toList))=(DataW.lit (Lit.string []):DataW Unit) from rfl,hr0] at hr;injection hr with hr _
 injection hr with hr
 injection hr with hr
 have HR:=bW (show (r.toList==[]) = !oH (Lib.toLowerA (L s)) by
  rw[show Lib.toLowerA (L s)=x from HX.out,← hr1,hr,L_toList];rfl)
 clear hv hr hr0 hr1 hb;go_wp2_with fail
 go_ret;exact ⟨r,rfl,HR.out,HB2.out⟩
def mJ (s:ByteArray):Bool:=decide (2 < s.size) && (Lib.hasPrefix (L s) [95] && Lib.hasSuffix (L s) [95])
section
variable {w:World}
theorem aCh (s:ByteArray) (hs:s.size≤1000000):Calls Tryz.prog 163 #[.string s] w fun e w'=>e = .returned (.bool (mJ s))∧w'=w:=by
 have cp:=Tryz.strings_HasPrefix s ⟨#[95]⟩ w;have cs:=Tryz.strings_HasSuffix s ⟨#[95]⟩ w bA;have e1:Lib.hasPrefix s.data.toList (⟨#[95]⟩:ByteArray).data.toList=Lib.hasPrefix (L s) [95]:=rfl;have e2:Lib.hasSuffix s.data.toList (⟨#[95]⟩:ByteArray).data.toList=Lib.hasSuffix (L s) [95]:=rfl;rw[e1] at cp;rw[e2] at cs;unfold mJ
 obtain ⟨x,hx⟩:∃ x,Lib.hasPrefix (L s) [95]=x:=⟨_,rfl⟩
 obtain ⟨y,hy⟩:∃ y,Lib.hasSuffix (L s) [95]=y:=⟨_,rfl⟩
 rw[hx] at cp ⊢;rw[hy] at cs ⊢;clear hx hy e1 e2
 by_cases h:2 < s.size
 ·have h1:decide ((2:Int) < (s.size:Int))=true:=decide_eq_true bA;have h2:decide (2 < s.size)=true:=decide_eq_true h;have h3:(2:Int) < (s.size:Int):=by omega
  cases x
  ·go_enter Tryz.func163,Tryz.ntmps163;go_wp2_with fail
   refine cp.mono ?_;rintro e w' ⟨rfl,rfl⟩;go_wp2_with fail
   go_ret;exact ⟨by rw[h2];rfl,rfl⟩
  go_enter Tryz.func163,Tryz.ntmps163;go_wp2_with fail
  refine cp.mono ?_;rintro e w' ⟨rfl,rfl⟩;go_wp2_with fail
  refine cs.mono ?_;rintro e w' ⟨rfl,rfl⟩;go_wp2_with fail
  go_ret;exact ⟨by rw[h2];rfl,rfl⟩
 have h1:decide ((2:Int) < (s.size:Int))=false:=decide_eq_false bA;have h2:decide (2 < s.size)=false:=decide_eq_false h;have h3:¬ (2:Int) < (s.size:Int):=by omega
 go_enter Tryz.func163,Tryz.ntmps163;go_wp2_with fail
 go_ret;exact ⟨rfl,rfl⟩
def kU:List ByteArray:=[⟨#[108,97,110,103,117,97,103,101,95]⟩,⟨#[118,101,114,115,105,111,110,95]⟩,⟨#[114,111,108,101,95]⟩,⟨#[111,117,116,112,117,116,102,111,114,109,97,116,95]⟩,⟨#[107,105,110,100,95]⟩,⟨#[108,97,121,111,117,116,95]⟩]
def lR:List ByteArray→List UInt8→ByteArray
 | [],_=>⟨#[]⟩
 | p::r,l=>if Lib.hasPrefix l p.data.toList then p else lR r l
def iF (s:ByteArray):ByteArray:=lR kU (Lib.toLowerA (L s))
theorem aD7 (l:List UInt8) (k:Nat) (hk:k < kU.length) (h:lR kU l=lR (kU.drop k) l) :
 (Lib.hasPrefix l kU[k].data.toList=true→lR kU l=kU[k])∧(Lib.hasPrefix l kU[k].data.toList=false→lR kU l=lR (kU.drop (k+1)) l):=by
 rw[h,List.drop_eq_getElem_cons hk];constructor <;> intro e <;> simp only[lR,e] <;> rfl
theorem wI (s:ByteArray) (hs:s.size≤1000000) (hascii:∀ (j:Nat) (b:UInt8),s.data.toList[j]? = some b→b.toNat < 128) :
 Calls Tryz.prog 164 #[.string s] w fun e w'=>e = .returned (.string (iF s))∧Below w.heap.size w w':=by
 have cl:=Tryz.strings_ToLower_ascii s w bA hascii;have HX:=bW (show iF s=lR kU (Lib.toLowerA s.data.toList) from rfl)
 obtain ⟨x,hx⟩:∃ x,Lib.toLowerA s.data.toList=x:=⟨_,rfl⟩
 rw[hx] at cl HX;clear hx hascii;go_enter Tryz.func164,Tryz.ntmps164;go_wp2_with fail
 refine cl.mono ?_;rintro e w1 ⟨rfl,hb⟩;have HB:=bW hb;clear hb cl;go_upto_region 2 with fail
 have hR:=Row.new w1 (kU.map Value.string) 9;have hB:Below w1.heap.size w1 (w1.alloc (.cells (kU.map Value.string).toArray 9)):=(Below.refl _ _).alloc (Nat.le_refl _) _;simp only[kU,List.map_cons,List.map_nil] at hR hB;go_wp2_with fail
 obtain ⟨w2,hw2⟩:∃ w2,w1.alloc (.cells #[.string ⟨#[108,97,110,103,117,97,103,101,95]⟩,.string ⟨#[118,101,114,115,105,111,110,95]⟩,.string ⟨#[114,111,108,101,95]⟩,.string ⟨#[111,117,116,112,117,116,102,111,114,109,97,116,95]⟩,.string ⟨#[107,105,110,100,95]⟩,.string ⟨#[108,97,121,111,117,116,95]⟩] 9)=w2:=⟨_,rfl⟩
 rw[hw2] at hB ⊢;have hR2:Row w2 w1.heap.size (kU.map Value.string):=hw2▸hR;have HR:=bW hR2;have HB2:=bW (eA HB.out hB);clear hR hR2 hB hw2
 go_loopg [10] 6 (fun g i wr=>∃ k:Nat,k≤6∧g=6 - k∧i = .int .i64 k∧wr=w2∧Aside0 (lR kU x=lR (kU.drop k) x))
 case atStart=>exact ⟨0,Nat.zero_le _,rfl,rfl,rfl,⟨rfl⟩⟩
 case round =>
  obtain ⟨k,hk,hg,rfl,rfl,HL⟩:=hrel
  by_cases hlt:k < 6
  ·have hkl:k < kU.length:=hlt;have hc:=(HR.out k (by rw[List.length_map];exact hkl)).1;rw[List.getElem_map] at hc;obtain ⟨p1,p2⟩:=aD7 x k hkl HL.out;have cp:=Tryz.strings_HasPrefix ⟨x.toArray⟩ kU[k] wr;rw[show (⟨x.toArray⟩:ByteArray).data.toList=x from rfl] at cp
   obtain ⟨p,hp⟩:∃ p,kU[k]=p:=⟨_,rfl⟩
   rw[hp] at hc p1 p2 cp
   obtain ⟨b,hb⟩:∃ b,Lib.hasPrefix x p.data.toList=b:=⟨_,rfl⟩
   rw[hb] at p1 p2 cp;have P1:=bW p1;have P2:=bW p2;clear hp hb p1 p2;cases b
   ·go_wp2_with fail
    refine cp.mono ?_;rintro e w' ⟨rfl,rfl⟩;go_wp2_with fail
    go_roundg (6 - (k+1))
    case rel=>exact ⟨k+1,aM,rfl,aZ,rfl,⟨P2.out bJ⟩⟩
    case measure=>omega
   go_wp2_with fail
   refine cp.mono ?_;rintro e w' ⟨rfl,rfl⟩;go_wp2_with fail
   go_ret;exact ⟨by rw[HX.out,P1.out bJ];rfl,HB2.out⟩
  have:k=6:=by omega
  subst this;have HF:=bW (show iF s=⟨#[]⟩ by rw[HX.out,HL.out];rfl);clear HL;go_wp2_with fail
  go_ret;exact ⟨by rw[HF.out];rfl,HB2.out⟩
end
open Go.RowKit Go.WideMaps Go.ZW.PrintWords Go.Proofs.YtlkoeeccebmjmaaGreatDoor.Base
theorem zero3 (w:World):(zeroValue 3).run Tryz.prog w = .ok (.int .i64 0) w:=by kernel_rfl
section
variable {w:World}
theorem rM {st:fF} {vl vd vf vc:Value} (hl:fA w 0 vl st.langs) (hd:fA w 0 vd st.dis) (hf:mV w 0 vf st.fmts) (hc:fA w 0 vc st.cont) (O:iR st) :
 Calls Tryz.prog 40 #[.agg #[vl,vd,vf,vc]] w fun e w'=>∃ b mb sb fb,e = .returned (.pointer (some ⟨b,0,none⟩))∧iM w' b st vl vd vf vc mb sb fb∧Below w.heap.size w w':=by
 have hmm:=@run_makeMap Tryz.prog;obtain ⟨Al,cl,rfl,hcl,hhl⟩:=hl;obtain ⟨Ad,cd,rfl,hcd,hhd⟩:=hd;obtain ⟨Af,cf,rfl,hcf,hhf⟩:=hf;obtain ⟨Ac,cc,rfl,hcc,hhc⟩:=hc;have HL:=bW (show fA w 0 (.slice Al st.langs.length cl) st.langs from ⟨Al,cl,rfl,hcl,hhl⟩);have HD:=bW (show fA w 0 (.slice Ad st.dis.length cd) st.dis from ⟨Ad,cd,rfl,hcd,hhd⟩);have HF:=bW (show mV w 0 (.slice Af st.fmts.length cf) st.fmts from ⟨Af,cf,rfl,hcf,hhf⟩);have HC:=bW (show fA w 0 (.slice Ac st.cont.length cc) st.cont from ⟨Ac,cc,rfl,hcc,hhc⟩);have HH:=bW hhl;have HZ:=bW O.z;have hln:=O.l;clear hhl hhd hhf hhc hcl hcd hcf hcc O
 obtain ⟨n,hn⟩:∃ n,st.langs.length=n:=⟨_,rfl⟩
 rw[hn] at hln;have HN:=bW hn;have hR:=Row.new w [.slice Al n cl,.slice Ad st.dis.length cd,.slice Af st.fmts.length cf,.slice Ac st.cont.length cc] 25;have hB:Below w.heap.size w (w.alloc (.cells #[.slice Al n cl,.slice Ad st.dis.length cd,.slice Af st.fmts.length cf,.slice Ac st.cont.length cc] 25)):=(Below.refl _ _).alloc (Nat.le_refl _) _;have hs1:w.heap.size < (w.alloc (.cells #[.slice Al n cl,.slice Ad st.dis.length cd,.slice Af st.fmts.length cf,.slice Ac st.cont.length cc] 25)).heap.size:=by simp
 rw[hn];clear hn;go_enter Tryz.func40,Tryz.ntmps40;go_upto_region 1 with fail
 obtain ⟨w1,hw1⟩:∃ w1,w.alloc (.cells #[.slice Al n cl,.slice Ad st.dis.length cd,.slice Af st.fmts.length cf,.slice Ac st.cont.length cc] 25)=w1:=⟨_,rfl⟩
 rw[hw1] at hR hB hs1 ⊢;clear hw1;have h0:(w1.alloc (.map #[] 0)).cell? ⟨w.heap.size,0,none⟩=some (.slice Al n cl):=(hR.alloc (hR.lt bJ) (.map #[] 0)).at 0 _ rfl;have hM2:=World.ownsMap_made (H:=Unit) w1 Tryz.prog 9 (plainElem Tryz.prog 3);go_wp2_with fail
 have HR:=bW hR;have HB:=bW hB;clear hR hB h0
 go_loopg [11] n (fun g i wr=>∃ (k:Nat) (D:DataW Unit),k≤n∧g=n - k∧i = .int .i64 k∧Aside0 (Below w1.heap.size w1 wr)∧w1.heap.size < wr.heap.size∧Aside0 (wr.ownsMap Tryz.prog 9 (plainElem Tryz.prog 3) w1.heap.size k D)∧Aside0 (∀ s:ByteArray,Maps.has D (.string s.data.toList)=listed (st.langs.take k) s))
 case atStart=>exact ⟨0,_,Nat.zero_le _,rfl,rfl,⟨(Below.refl _ _).alloc (Nat.le_refl _) _⟩,dV,⟨hM2⟩,⟨fun s=>by simp[listed];rfl⟩⟩
 case round =>
  obtain ⟨k,D,hk,hg,rfl,HB2,hsz,HM,HD2⟩:=hrel
  by_cases hlt:k < n
  ·obtain ⟨g,o,rfl,_,hcell⟩:=HH.out (by rw[HN.out];omega);have hkl:k < st.langs.length:=by rw[HN.out];exact hlt
   have hc:=hcell k hkl;have hgw:=World.block_lt_of_cell? w ⟨g,o+k,none⟩ hc;have hb1:=HB.out.cell (p:=⟨g,o+k,none⟩) hgw;have hgw1:g < w1.heap.size:=Nat.lt_trans hgw hs1;have hb2:=HB2.out.cell (p:=⟨g,o+k,none⟩) hgw1;have hcr:wr.cell? ⟨g,o+k,none⟩=some (.string st.langs[k]):=hb2.trans (hb1.trans hc);have hz:=HZ.out st.langs[k] (List.getElem_mem hkl);have hkey:keyOf Tryz.prog 9 (.string st.langs[k])=some (.string st.langs[k].data.toList):=keyOf_string_mk Tryz.underlying9 bR;have HS:=bW fun d=>aFc st.langs D k hkl (HM.out.isMap) d HD2.out
   obtain ⟨x,hx⟩:∃ x,st.langs[k]=x:=⟨_,rfl⟩
   rw[hx] at hcr hkey HS;have hown:=HM.out;clear hcell hc hb1 hb2 hx hz
   go_wp2_with (first
    | (at_mapUpdate;refine wpList_mapUpdate_own _ rfl _ _ _ 66 rfl 9 3 law9 Tryz.underlying66 _ w1.heap.size k _ rfl hown bR _ _ _ rfl rfl hkey _ [] (plainElem_int Tryz.underlying3 (WalkArith.wf_i64 bA)) ?_)
    | go_in)
   intro w3 hown3 hgrow3;have HO3:=bW hown3;have HB3:=bW (HB2.out.grown hgrow3 HB2.out.size (fun j hj=>by cases hj;exact Nat.le_refl _));have hs3:=Nat.lt_of_lt_of_le hsz hgrow3.size;clear hown3 hgrow3 hown hkey hcr;go_wp2_with fail
   go_roundg (n - (k+1))
   case rel=>exact ⟨k+1,_,aM,rfl,aZ,HB3,hs3,HO3,⟨HS.out _⟩⟩
   case measure=>omega
  have:k=n:=by omega
  subst this;have hd:=HD2.out;have hn:=HN.out;rw[← hn,List.take_length] at hd;have HD3:=bW hd;clear hd hn hM2;go_upto_region 8 with fail
  have hF:=Row.new wr [.func (.func 62) #[] #[]] 67;have hB4:Below w1.heap.size w1 (wr.alloc (.cells #[.func (.func 62) #[] #[]] 67)):=HB2.out.alloc HB2.out.size _;have hM4:=HM.out.alloc (.cells #[.func (.func 62) #[] #[]] 67);have hs4:wr.heap.size < (wr.alloc (.cells #[.func (.func 62) #[] #[]] 67)).heap.size:=by simp
  obtain ⟨w4,hw4⟩:∃ w4,wr.alloc (.cells #[.func (.func 62) #[] #[]] 67)=w4:=⟨_,rfl⟩
  rw[hw4] at hB4 hM4 hs4 ⊢;replace hF:Row w4 wr.heap.size [.func (.func 62) #[] #[]]:=hw4▸hF;have HF4:=bW hF;have HB4:=bW hB4;have HM4:=bW hM4;have HP:=bW (Row.new w4 [.map (some w1.heap.size),.func (.func 63) #[] #[.pointer (some ⟨wr.heap.size,0,none⟩),.pointer (some ⟨w.heap.size,0,none⟩)],.func (.func 64) #[] #[.pointer (some ⟨w.heap.size,0,none⟩)],.func (.func 65) #[] #[.pointer (some ⟨wr.heap.size,0,none⟩),.pointer (some ⟨w.heap.size,0,none⟩)]] 69);clear hF hB4 hM4 hw4 hmm HB2 HM HD2;go_wp2_with fail
  have hB5:Below w1.heap.size w1 (w4.alloc _):=HB4.out.alloc HB4.out.size (.cells #[.map (some w1.heap.size),.func (.func 63) #[] #[.pointer (some ⟨wr.heap.size,0,none⟩),.pointer (some ⟨w.heap.size,0,none⟩)],.func (.func 64) #[] #[.pointer (some ⟨w.heap.size,0,none⟩)],.func (.func 65) #[] #[.pointer (some ⟨wr.heap.size,0,none⟩),.pointer (some ⟨w.heap.size,0,none⟩)]] 69);have hBT:=HB.out.trans (hB5.mono (Nat.le_of_lt hs1));have hl:=HL.out.below hBT;rw[HN.out] at hl;go_ret;exact ⟨_,w1.heap.size,w.heap.size,wr.heap.size,rfl,⟨HP.out,⟨HR.out.below hB5 hs1,hl,HD.out.below hBT,HF.out.below hBT,HC.out.below hBT⟩,(HF4.out.alloc (HF4.out.lt bJ) _).at 0 _ rfl,k,D,HM4.out.alloc _,HD3.out⟩,hBT⟩
end
structure eW (w w' : World) (b:Nat) (vk vu vl vk' vu' vl' : Value):Prop where
 os:w'.os=w.os
 tape:w'.tape=w.tape
 output:w'.output=w.output
 size:w.heap.size≤w'.heap.size
 block:∀ k,k < w.heap.size→k≠b→some k≠vk.ownBlock→some k≠vu.ownBlock→some k≠vl.ownBlock→w'.heap[k]? = w.heap[k]?
 ak:vk'.ownBlock=vk.ownBlock∨∃ k,vk'.ownBlock=some k∧w.heap.size≤k
 au:vu'.ownBlock=vu.ownBlock∨∃ k,vu'.ownBlock=some k∧w.heap.size≤k
 al:vl'.ownBlock=vl.ownBlock∨∃ k,vl'.ownBlock=some k∧w.heap.size≤k
section
variable {w w' w'' : World} {B b:Nat} {p:eE} {vk vu vl vk' vu' vl' vk'' vu'' vl'' u:Value}
theorem eW.refl (w:World) (b:Nat) (vk vu vl:Value):eW w w b vk vu vl vk vu vl:=⟨rfl,rfl,rfl,Nat.le_refl _,fun _ _ _ _ _ _=>rfl,.inl rfl,.inl rfl,.inl rfl⟩
theorem eW.of_below (h:Below w.heap.size w w'):eW w w' b vk vu vl vk vu vl:=⟨h.os,h.tape,h.output,h.size,fun k hk _ _ _ _=>h.block k hk,.inl rfl,.inl rfl,.inl rfl⟩
theorem nO {v v' : Value} {n k:Nat} (hat:v'.ownBlock=v.ownBlock∨∃ k,v'.ownBlock=some k∧n≤k) (hk:k < n) (hne:some k≠v.ownBlock):some k≠v'.ownBlock:=by
 rcases hat with h | ⟨j,h,hj⟩
 ·rw[h];exact hne
 rw[h];intro e;injection e with e;omega
theorem rW {v v' v'' : Value} {n m:Nat} (h:v'.ownBlock=v.ownBlock∨∃ k,v'.ownBlock=some k∧n≤k) (g:v''.ownBlock=v'.ownBlock∨∃ k,v''.ownBlock=some k∧m≤k) (hnm:n≤m):v''.ownBlock=v.ownBlock∨∃ k,v''.ownBlock=some k∧n≤k:=by
 rcases g with g | ⟨j,g,hj⟩
 ·rw[g];exact h
 exact .inr ⟨j,g,Nat.le_trans hnm hj⟩
theorem eW.trans (h:eW w w' b vk vu vl vk' vu' vl') (g:eW w' w'' b vk' vu' vl' vk'' vu'' vl''):eW w w'' b vk vu vl vk'' vu'' vl'' :=
 ⟨g.os.trans h.os,g.tape.trans h.tape,g.output.trans h.output,Nat.le_trans h.size g.size,
  fun k hk hb h1 h2 h3=>(g.block k (Nat.lt_of_lt_of_le hk h.size) hb (nO h.ak hk h1) (nO h.au hk h2) (nO h.al hk h3)).trans (h.block k hk hb h1 h2 h3),
  rW h.ak g.ak h.size,rW h.au g.au h.size,rW h.al g.al h.size⟩
theorem pP {w:World} {B n k:Nat} {e:TypeId} {size:Nat} {v:Value} {xs:List Value} (h:w.ownsRow B e size v n xs) (hk:k < B):some k≠v.ownBlock:=by
 intro e;have:=(h.lt k e.symm).1;omega
theorem eW.below (H:eF w B b p vk vu vl u) (h:eW w w' b vk vu vl vk' vu' vl'):Below B w w' :=
 ⟨h.os,h.tape,h.output,h.size,fun k hk=>h.block k (Nat.lt_of_lt_of_le hk (Nat.le_trans H.base (Nat.le_of_lt H.lt))) (by have:=H.base;omega) (pP H.ok hk) (pP H.ou hk) (pP H.ol hk)⟩
theorem eW.far (h:eW w w' b vk vu vl vk' vu' vl') {k:Nat} (hk:k < w.heap.size) (hb:k≠b) (h1:some k≠vk.ownBlock) (h2:some k≠vu.ownBlock) (h3:some k≠vl.ownBlock) :
 w'.heap[k]? = w.heap[k]?∧k < w'.heap.size∧some k≠vk'.ownBlock∧some k≠vu'.ownBlock∧some k≠vl'.ownBlock :=
 ⟨h.block k hk hb h1 h2 h3,Nat.lt_of_lt_of_le hk h.size,nO h.ak hk h1,nO h.au hk h2,nO h.al hk h3⟩
theorem eF.new_ne (H:eF w B b p vk vu vl u) {k:Nat} (hk:w.heap.size≤k):k≠b∧some k≠vk.ownBlock∧some k≠vu.ownBlock∧some k≠vl.ownBlock:=by
 have hb:=H.lt
 have f:∀ {e size v n xs},w.ownsRow B e size v n xs→some k≠v.ownBlock:=by
  intro e size v n xs h e2;have:=(h.lt k e2.symm).2;omega
 exact ⟨aM,f H.ok,f H.ou,f H.ol⟩
theorem jZ (H:eF w B b p vk vu vl u) (x:Int×Int) {v1:Value} (ho:w'.ownsRow B 78 2 v1 (p.known.length+1) (pairs p.known++[.int .i64 x.1,.int .i64 x.2])) (hg:w.grownBy w' vk.ownBlock)
 (hat:v1.ownBlock=vk.ownBlock∨∃ k,v1.ownBlock=some k∧w.heap.size≤k) :
 eF (w'.setCell ⟨b,6,none⟩ v1) B b { p with known:=p.known++[x] } v1 vu vl u∧eW w (w'.setCell ⟨b,6,none⟩ v1) b vk vu vl v1 vu vl :=
 ⟨H.addKnown x ho hg hat,⟨hg.os,hg.tape,hg.output,by simpa using hg.size,fun k hk hb h1 _ _=>(Below.heap_setCell _ _ _ _ (by simpa using hb)).trans (hg.block k hk h1),hat,.inl rfl,.inl rfl⟩⟩
theorem vN (H:eF w B b p vk vu vl u) (x:Int×Int) {v1:Value} (ho:w'.ownsRow B 78 2 v1 (p.unknown.length+1) (pairs p.unknown++[.int .i64 x.1,.int .i64 x.2])) (hg:w.grownBy w' vu.ownBlock)
 (hat:v1.ownBlock=vu.ownBlock∨∃ k,v1.ownBlock=some k∧w.heap.size≤k) :
 eF (w'.setCell ⟨b,7,none⟩ v1) B b { p with unknown:=p.unknown++[x] } vk v1 vl u∧eW w (w'.setCell ⟨b,7,none⟩ v1) b vk vu vl vk v1 vl :=
 ⟨H.addUnknown x ho hg hat,⟨hg.os,hg.tape,hg.output,by simpa using hg.size,fun k hk hb _ h1 _=>(Below.heap_setCell _ _ _ _ (by simpa using hb)).trans (hg.block k hk h1),.inl rfl,hat,.inl rfl⟩⟩
theorem aAo (H:eF w B b p vk vu vl u) (x:Int) {v1:Value} (ho:w'.ownsRow B 3 1 v1 (p.plangs.length+1) (nums .i64 p.plangs++[.int .i64 x])) (hg:w.grownBy w' vl.ownBlock)
 (hat:v1.ownBlock=vl.ownBlock∨∃ k,v1.ownBlock=some k∧w.heap.size≤k) :
 eF (w'.setCell ⟨b,14,none⟩ v1) B b { p with plangs:=p.plangs++[x] } vk vu v1 u∧eW w (w'.setCell ⟨b,14,none⟩ v1) b vk vu vl vk vu v1 :=
 ⟨H.addLang x ho hg hat,⟨hg.os,hg.tape,hg.output,by simpa using hg.size,fun k hk hb _ _ h1=>(Below.heap_setCell _ _ _ _ (by simpa using hb)).trans (hg.block k hk h1),.inl rfl,.inl rfl,hat⟩⟩
theorem fW (H:eF w B b p vk vu vl u) (k:Nat) (v:Value) (p' : eE) (u' : Value) (hc:(cells p vk vu vl u).set k v=cells p' vk vu vl u') (h1:p'.known=p.known) (h2:p'.unknown=p.unknown) (h3:p'.plangs=p.plangs) (hk:k < 26) :
 eF (w.setCell ⟨b,k,none⟩ v) B b p' vk vu vl u'∧eW w (w.setCell ⟨b,k,none⟩ v) b vk vu vl vk vu vl :=
 ⟨H.put k v p' u' hc h1 h2 h3 hk,⟨rfl,rfl,rfl,dV,fun j _ hb _ _ _=>Below.heap_setCell _ _ _ _ (by simpa using hb),.inl rfl,.inl rfl,.inl rfl⟩⟩
end
def frm (s:ByteArray) (a:Int):ByteArray:=s.extract a.toNat s.size
theorem iH (s:ByteArray) (a b:Nat):(s.extract a b).size≤s.size:=by
 rw[← eD,eN,← eD s];exact Nat.le_trans (List.length_take_le' _ _) bJ
section
variable {w:World} {B b:Nat} {p:eE} {vk vu vl u:Value}
def iT (p:eE):ByteArray:=if p.sec≤0 then ByteArray.empty else nrm p.trim (sub p.s 1 p.sec)
theorem tT (H:eF w B b p vk vu vl u) (O:hU p):Calls Tryz.prog 68 #[.pointer (some ⟨b,0,none⟩)] w fun e w'=>e = .returned (.string (iT p))∧eV w w':=by
 have h0:=H.row.at 0 _ rfl;have h3:=H.row.at 3 _ rfl;have o1:=O.sz;have o2:=O.se;have HH:=bW H;unfold iT
 by_cases c:p.sec≤0
 ·rw[if_pos c];clear H O;go_enter Tryz.func68,Tryz.ntmps68;go_wp2_with fail
  go_ret;exact ⟨rfl,eV.refl _⟩
 rw[if_neg c];obtain ⟨x,hx⟩:=Int.eq_ofNat_of_zero_le (show 0≤p.sec by omega);rw[hx] at h3 c o2 ⊢;rw[show (1:Int)=((1:Nat):Int) from rfl,iW];have q1:1≤(x:Int):=by omega
 clear hx H O;go_enter Tryz.func68,Tryz.ntmps68;go_wp2_with fail
 go_quiet ((go_at_call 69;exact Calls.quiet_of_same (iN (HH.out.drewN _) _)))
 go_wp2_with fail
 go_ret;exact ⟨rfl,⟨_,rfl⟩⟩
def vV (p:eE):ByteArray:=frm p.s p.cHigh
theorem aEu (H:eF w B b p vk vu vl u) (O:hU p):Calls Tryz.prog 76 #[.pointer (some ⟨b,0,none⟩)] w fun e w'=>e = .returned (.string (vV p))∧eV w w':=by
 have h0:=H.row.at 0 _ rfl;have h2:=H.row.at 2 _ rfl;have o1:=O.sz;obtain ⟨o2,o3⟩:=O.ch;unfold vV frm;obtain ⟨y,hy⟩:=Int.eq_ofNat_of_zero_le (show 0≤p.cHigh by omega);rw[hy] at h2 o2 o3 ⊢;have q:decide (0 < (y:Int))=true:=decide_eq_true bA;clear hy H O;go_enter Tryz.func76,Tryz.ntmps76;go_wp2_with fail
 go_quiet (fail)
 go_wp2_with fail
 go_ret;exact ⟨rfl,⟨_,rfl⟩⟩
def xO (p:eE):ByteArray:=nrm p.trim (if p.cHigh=1 then ⟨#[47]⟩ else sub p.s 0 (p.cHigh - 1))
theorem aAh (H:eF w B b p vk vu vl u) (O:hU p):Calls Tryz.prog 79 #[.pointer (some ⟨b,0,none⟩)] w fun e w'=>e = .returned (.string (xO p))∧eV w w':=by
 have h0:=H.row.at 0 _ rfl;have h2:=H.row.at 2 _ rfl;have o1:=O.sz;obtain ⟨o2,o3⟩:=O.ch;have HH:=bW H;unfold xO;obtain ⟨y,hy⟩:=Int.eq_ofNat_of_zero_le (show 0≤p.cHigh by omega);rw[hy] at h2 o2 o3 ⊢;have q:decide (0 < (y:Int))=true:=decide_eq_true bA;have q2:((y - 1:Nat):Int)≤p.s.size:=by omega
 have hyc:IntKind.i64.wrap ((y:Int) - 1)=((y - 1:Nat):Int):=by rw[IntWalk.i64_in _ bA];omega
 by_cases c:y=1
 ·subst c;rw[if_pos (show ((1:Nat):Int)=1 from rfl)];have h2' : w.cell? ⟨b,2,none⟩=some (.int .i64 1):=h2;clear h2 q q2 hyc;have hyc:IntKind.i64.wrap ((1:Int) - 1)=0:=by rfl
  have he:(p.s.extract 0 0).toList=[]:=by rw[L_toList,eN];simp
  clear hy H O;go_enter Tryz.func79,Tryz.ntmps79;go_wp2_with fail
  go_quiet (fail)
  go_wp2_with fail
  (with_reducible refine (iN (HH.out.drewN _) _).mono ?_)
  rintro e w' ⟨rfl,rfl⟩;go_wp2_with fail
  go_ret;exact ⟨rfl,⟨_,rfl⟩⟩
 rw[if_neg bA,show ((y:Int) - 1)=((y - 1:Nat):Int) from by omega,show (0:Int)=((0:Nat):Int) from rfl,iW]
 have he:(p.s.extract 0 (y - 1)).toList.isEmpty=false:=by
  have hl:=eD p.s;rw[L_toList,eN,List.isEmpty_eq_false_iff,← List.length_pos_iff]
  simp;omega
 have he2:((p.s.extract 0 (y - 1)).toList==[])=false:=by
  rw[beq_eq_false_iff_ne];intro h;rw[h] at he;cases he
 clear hy H O;go_enter Tryz.func79,Tryz.ntmps79;go_wp2_with fail
 go_quiet (fail)
 go_wp2_with fail
 (with_reducible refine (iN (HH.out.drewN _) _).mono ?_)
 rintro e w' ⟨rfl,rfl⟩;go_wp2_with fail
 go_ret;exact ⟨rfl,⟨_,rfl⟩⟩
def mR (p:eE):ByteArray:=if p.cLow = -1∨¬ (3≤p.typ∧p.typ≤5) then xO p else nrm p.trim (sub p.s 0 (p.cLow - 1))
theorem uE (H:eF w B b p vk vu vl u) (O:hU p):Calls Tryz.prog 75 #[.pointer (some ⟨b,0,none⟩)] w fun e w'=>e = .returned (.string (mR p))∧eV w w':=by
 have h0:=H.row.at 0 _ rfl;have h1:=H.row.at 1 _ rfl;have o1:=O.sz;obtain ⟨o2,o3⟩:=O.ch;have HH:=bW H;have cb:=oD H;have cd:=aAh H O;unfold mR;rcases O.cl with c | ⟨c1,c2⟩
 ·rw[if_pos (.inl c)];rw[c] at h1;clear c H O;go_enter Tryz.func75,Tryz.ntmps75;go_wp2_with fail
  (with_reducible refine cd.mono ?_)
  rintro e w' ⟨rfl,hd⟩;have HD:=bW hd;clear hd;go_wp2_with fail
  go_ret;exact ⟨rfl,HD.out⟩
 have hne:(p.cLow == -1)=false:=beq_eq_false_iff_ne.2 bA
 by_cases t:3≤p.typ∧p.typ≤5
 ·rw[if_neg (fun h=>h.elim (fun h=>by omega) (fun h=>h t))];rw[decide_eq_true t] at cb;obtain ⟨x,hx⟩:=Int.eq_ofNat_of_zero_le (show 0≤p.cLow by omega);rw[hx] at h1 hne c1 c2 ⊢;rw[show ((x:Int) - 1)=((x - 1:Nat):Int) from by omega,show (0:Int)=((0:Nat):Int) from rfl,iW];have hyc:IntKind.i64.wrap ((x:Int) - 1)=((x - 1:Nat):Int):=by rw[IntWalk.i64_in _ bA];omega
  have q2:((x - 1:Nat):Int)≤p.s.size:=by omega
  clear hx t H O cd;go_enter Tryz.func75,Tryz.ntmps75;go_wp2_with fail
  (with_reducible refine cb.mono ?_)
  rintro e w' ⟨rfl,rfl⟩;go_wp2_with fail
  go_quiet ((go_at_call 69;exact Calls.quiet_of_same (iN (HH.out.drewN _) _)))
  go_wp2_with fail
  go_ret;exact ⟨rfl,⟨_,rfl⟩⟩
 rw[if_pos (.inr t)];rw[decide_eq_false t] at cb;clear t H O;go_enter Tryz.func75,Tryz.ntmps75;go_wp2_with fail
 (with_reducible refine cb.mono ?_)
 rintro e w' ⟨rfl,rfl⟩;go_wp2_with fail
 (with_reducible refine cd.mono ?_)
 rintro e w' ⟨rfl,hd⟩;have HD:=bW hd;clear hd;go_wp2_with fail
 go_ret;exact ⟨rfl,HD.out⟩
def nL (p:eE):ByteArray:=sub p.s p.nLow p.nHigh
theorem oO (H:eF w B b p vk vu vl u):Calls Tryz.prog 133 #[.pointer (some ⟨b,0,none⟩)] w fun e w'=>e = .returned (.agg #[.int .i64 p.nLow,.int .i64 p.nHigh])∧Below w.heap.size w w':=by
 have h20:=H.row.at 20 _ rfl;have h21:=H.row.at 21 _ rfl;have hb:=H.lt;clear H;go_enter Tryz.func133,Tryz.ntmps133;go_wp2_with fail
 exact bodyPost_ret (v:=.agg #[.int .i64 p.nLow,.int .i64 p.nHigh]) (by simp[results,Tryz.results133,go_sem]) rfl ⟨rfl,(Below.refl _ _).alloc (Nat.le_refl _) _⟩
theorem oP (H:eF w B b p vk vu vl u) (O:hU p):Calls Tryz.prog 78 #[.pointer (some ⟨b,0,none⟩)] w fun e w'=>e = .returned (.string (nL p))∧Below w.heap.size w w':=by
 have o1:=O.sz;obtain ⟨o2,o3,o4⟩:=O.na;have c:=oO H;unfold nL;obtain ⟨x,hx⟩:=Int.eq_ofNat_of_zero_le (show 0≤p.nLow by omega);obtain ⟨y,hy⟩:=Int.eq_ofNat_of_zero_le (show 0≤p.nHigh by omega);rw[hx] at c o2 o3 ⊢;rw[hy] at c o3 o4 ⊢;rw[iW];have HH:=bW H;clear hx hy H O;go_enter Tryz.func78,Tryz.ntmps78;go_wp2_with fail
 (with_reducible refine c.mono ?_)
 rintro e w1 ⟨rfl,hd⟩;have h0:=(HH.out.below hd).row.at 0 _ rfl;have hb:=(HH.out.below hd).lt;have HD:=bW hd;clear hd;go_wp2_with fail
 go_quiet (fail)
 go_wp2_with fail
 go_ret;exact ⟨rfl,eA (HD.out.alloc HD.out.size _) (eV.below ⟨⟨_,rfl⟩⟩)⟩
theorem qJ (H:eF w B b p vk vu vl u) (O:hU p):Calls Tryz.prog 72 #[.pointer (some ⟨b,0,none⟩)] w fun e w'=>e = .returned (.string (if 3≤p.typ∧p.typ≤5 then mY p else nL p))∧Below w.heap.size w w':=by
 have cb:=oD H;have c1:=rS H O;have c2:=oP H O
 by_cases t:3≤p.typ∧p.typ≤5
 ·rw[if_pos t];rw[decide_eq_true t] at cb;clear t H O c2;go_enter Tryz.func72,Tryz.ntmps72;go_wp2_with fail
  (with_reducible refine cb.mono ?_)
  rintro e w' ⟨rfl,rfl⟩;go_wp2_with fail
  (with_reducible refine c1.mono ?_)
  rintro e w' ⟨rfl,hd⟩;have HD:=bW hd;clear hd;go_wp2_with fail
  go_ret;exact ⟨rfl,HD.out.below⟩
 rw[if_neg t];rw[decide_eq_false t] at cb;clear t H O c1;go_enter Tryz.func72,Tryz.ntmps72;go_wp2_with fail
 (with_reducible refine cb.mono ?_)
 rintro e w' ⟨rfl,rfl⟩;go_wp2_with fail
 (with_reducible refine c2.mono ?_)
 rintro e w' ⟨rfl,hd⟩;have HD:=bW hd;clear hd;go_wp2_with fail
 go_ret;exact ⟨rfl,HD.out⟩
def mK (p:eE) (i:Int):Int:=if i < 0∨(p.known.length:Int)≤i then -1 else i
theorem lW (H:eF w B b p vk vu vl u) (i:Int):Calls Tryz.prog 132 #[.pointer (some ⟨b,0,none⟩),.int .i64 i] w fun e w'=>e = .returned (.int .i64 (mK p i))∧w'=w:=by
 have h6:=H.row.at 6 _ rfl;obtain ⟨A,c,hv⟩:=fL H.ok;rw[hv] at h6;clear hv H;unfold mK
 by_cases t:i < 0
 ·rw[if_pos (.inl t)];go_enter Tryz.func132,Tryz.ntmps132;go_wp2_with fail
  go_ret;exact ⟨rfl,rfl⟩
 by_cases t2:(p.known.length:Int)≤i
 ·rw[if_pos (.inr t2)];go_enter Tryz.func132,Tryz.ntmps132;go_wp2_with fail
  go_ret;exact ⟨rfl,rfl⟩
 rw[if_neg bA];go_enter Tryz.func132,Tryz.ntmps132;go_wp2_with fail
 go_ret;exact ⟨rfl,rfl⟩
def fE (p:eE) (i:Int):ByteArray:=if i < 0 then ByteArray.empty else match p.known[i.toNat]? with | some x=>sub p.s x.1 x.2 | none=>ByteArray.empty
theorem gP (H:eF w B b p vk vu vl u) (O:PathIn p) (i:Int):Calls Tryz.prog 134 #[.pointer (some ⟨b,0,none⟩),.int .i64 i] w fun e w'=>e = .returned (.string (fE p i))∧Below w.heap.size w w':=by
 have c:=lW H i;have o1:=O.sz
 by_cases t:i < 0∨(p.known.length:Int)≤i
 ·have e1:mK p i = -1:=by unfold mK;rw[if_pos t]
  have e2:fE p i=ByteArray.empty:=by
   unfold fE
   by_cases t2:i < 0
   ·rw[if_pos t2]
   rw[if_neg t2,List.getElem?_eq_none bA]
  rw[e1] at c;rw[e2];clear e1 e2 t H O;go_enter Tryz.func134,Tryz.ntmps134;go_wp2_with fail
  (with_reducible refine c.mono ?_)
  rintro e w' ⟨rfl,rfl⟩;go_wp2_with fail
  go_ret;exact ⟨rfl,Below.refl _ _⟩
 obtain ⟨n,rfl⟩:=Int.eq_ofNat_of_zero_le (show 0≤i by omega);have hn:n < p.known.length:=by omega
 obtain ⟨x,hx⟩:∃ x,p.known[n]? = some x:=⟨_,List.getElem?_eq_getElem hn⟩
 obtain ⟨q1,q2,q3⟩:=O.kn x (List.mem_of_getElem? hx);have e1:mK p n=n:=by unfold mK;rw[if_neg t]
 have e2:fE p n=sub p.s x.1 x.2:=by
  unfold fE;rw[if_neg bA,Int.toNat_natCast,hx]
 rw[e1] at c;rw[e2];have h0:=H.row.at 0 _ rfl;have h6:=H.row.at 6 _ rfl;obtain ⟨g,cp,hv,k1,k2⟩:=H.knownAt n x hx;rw[hv] at h6;have hb:=H.lt;have hg:g < w.heap.size:=World.block_lt_of_cell? w ⟨g,n * 2,none⟩ k1;obtain ⟨lo,hlo⟩:=Int.eq_ofNat_of_zero_le (show 0≤x.1 by omega);obtain ⟨hi,hhi⟩:=Int.eq_ofNat_of_zero_le (show 0≤x.2 by omega);rw[hlo] at k1 q1 q2 ⊢;rw[hhi] at k2 q2 q3 ⊢;rw[iW];have hnm:((n:Int) == -1)=false:=beq_eq_false_iff_ne.2 bA;have hn2:(n:Int) < p.known.length:=by omega
 clear e1 e2 t H O hx hlo hhi hv;go_enter Tryz.func134,Tryz.ntmps134;go_wp2_with fail
 (with_reducible refine c.mono ?_)
 rintro e w' ⟨rfl,rfl⟩;go_wp2_with fail
 go_quiet (fail)
 go_wp2_with fail
 go_ret;exact ⟨rfl,eA ((Below.refl _ _).alloc (Nat.le_refl _) _) (eV.below ⟨⟨_,rfl⟩⟩)⟩
end
end Go.Proofs.YtlkoeeccebmjmaaGreatDoor.Path
