/- Texts that the law leans on: More, Small, Append, Strange. Condition: as told at each. -/
import Derived.Test.YtcdgldnphhidlaaGreatDoorQa
import Derived.Test.YtcdgldnphhidlaaGreatDoorQ24
set_option linter.unusedVariables false
set_option linter.unusedSimpArgs false
set_option maxRecDepth 100000
set_option maxHeartbeats 16000000
namespace Go.Proofs.YtcdgldnphhidlaaGreatDoor.Path
open Go.RowKit Go.ZW.PrintWords Go.Proofs.YtcdgldnphhidlaaGreatDoor.Base Go.Proofs.YtcdgldnphhidlaaGreatDoor.Total Go.Proofs.YtcdgldnphhidlaaGreatDoor.Lower Go.Proofs.YtcdgldnphhidlaaGreatDoor.Ext
structure Agree (st st' : eW) (n:ByteArray):Prop where
 langs:∀ a b,listed st'.langs (n.extract a b)=listed st.langs (n.extract a b)
 dis:∀ a b,listed st'.dis (n.extract a b)=listed st.dis (n.extract a b)
 cont:∀ a b,listed st'.cont (n.extract a b)=listed st.cont (n.extract a b)
 fmts:st'.fmts=st.fmts
section
variable {st st' : eW} {n:ByteArray} (A:Agree st st' n) (hn:low n=n)
include A
theorem Agree.named:gX st'=gX st:=by funext x;unfold gX;rw[A.fmts]
theorem Agree.beside:jH st'=jH st:=by funext x y;unfold jH;rw[A.fmts]
include hn
theorem aD7 (comp:ByteArray) (sc:Bool) (pts:Nat) (r:RV) (a b:Nat) (k:Int):kK st' comp sc pts r (n.extract a b) k=kK st comp sc pts r (n.extract a b) k:=by
 unfold kK;split
 ·obtain ⟨a',b',h⟩:∃ a' b',gY (fP (n.extract a b)) fJ=n.extract a' b':=by
   unfold gY fP;exact ⟨_,_,by rw[ByteArray.extract_extract,ByteArray.extract_extract]⟩
  unfold jM;rw[h,tZ hn,A.langs,A.dis,A.named]
 unfold jL;rw[A.langs,A.dis,A.beside]
theorem aD8 (comp:ByteArray) (sc:Bool) (cuts:List Nat):fW st' comp sc n cuts=fW st comp sc n cuts:=by
 have w:∀ (r:RV) (a b:Nat) (k:Int),kG st' comp sc cuts.length r (n.extract a b) k=kG st comp sc cuts.length r (n.extract a b) k:=by
  intro r a b k;unfold kG;rw[aD7 A hn]
 have s:kF st' comp sc cuts.length n=kF st comp sc cuts.length n:=by
  funext d c
  unfold kF;rw[w]
 unfold fW;simp only[s,w]
end
theorem aG2 (st:eW) (comp:ByteArray) (sc:Bool) (n:ByteArray) (cuts:List Nat):∃ a b,(fW st comp sc n cuts).ext=n.extract a b :=
 vI (fun r=>∃ a b,r.ext=n.extract a b) ⟨0,0,by refine L_inj ?_;rw[eQ];rfl⟩ (fun a b _=>⟨a,b,rfl⟩) (fun r a b k _ ⟨c,d,h⟩=>⟨c,d,by rw[oH];exact h⟩)
theorem aIi {st st' : eW} {T:ByteArray} (A:Agree st st' (lastB T)) (hn:low (lastB T)=lastB T) (comp:ByteArray):wOf st' comp T=wOf st comp T:=by
 unfold wOf;simp only[aD8 A hn,A.named];obtain ⟨a,b,h⟩:=aG2 st comp (fC (L T) fV) (lastB T) (eS (L (lastB T)));congr 1;unfold mS;rw[h,A.cont]
theorem aHz {T:ByteArray} (h:low T=T):low (lastB T)=lastB T:=by
 refine L_inj ?_;have e:L (lastB T)=(L T).drop (behind (L T)):=jP _;rw[oO,e,List.map_drop,← oO,h]
theorem yB {st:eW} {comp s:ByteArray} (K:lF st comp s):gL (gB (eJ st) comp (norm s))=xI (wOf st comp (pathOf s false)) (wOf st comp (pathOf s false)).typ false:=by
 obtain ⟨h1,h2,h3⟩:=aEi K (wOf st comp (pathOf s false)).typ false;have e:{ gB (eJ st) comp (norm s) with typ:=(wOf st comp (pathOf s false)).typ,trim:=false }=gB (eJ st) comp (norm s):=by rw[← h2,← h3]
 rw[e] at h1;exact h1
theorem aGr (s:ByteArray):low (pathOf s false)=pathOf s false:=aDt (s:=s) (by unfold pathOf;simp only[Bool.false_eq_true,if_false];rw[jP])
theorem aHb {st st' : eW} {comp s:ByteArray} (K:lF st comp s) (K' : lF st' comp s) (A:Agree st st' (lastB (pathOf s false))):gL (gB (eJ st') comp (norm s))=gL (gB (eJ st) comp (norm s)):=by
 rw[yB K,yB K',aIi A (aHz (aGr s)) comp]
theorem aGo (s:ByteArray):∃ a k,L (lastB (pathOf s false))=((L (norm s)).drop a).take k:=by
 have e:L (lastB (pathOf s false))=(gQ (L (norm s))).drop (behind (gQ (L (norm s)))):=by
  unfold lastB;rw[jP];have:L (pathOf s false)=gQ (L (norm s)):=by unfold pathOf;simp only[Bool.false_eq_true,if_false];rw[jP]
  rw[this]
 have hb:1≤behind (gQ (L (norm s))):=by
  obtain ⟨j,_,h,_⟩:=last_slash (s:=⟨(gQ (L (norm s))).toArray⟩) ⟨0,by rw[jP,← List.head?_eq_getElem?];exact mText_head _⟩;rw[jP] at h;omega
 obtain ⟨k,hk⟩:∃ k,behind (gQ (L (norm s)))=k+1:=⟨behind (gQ (L (norm s))) - 1,aM⟩
 rw[e,hk]
 have lead:∃ a,(kC (L (norm s))).drop (k+1)=(L (norm s)).drop a:=by
  unfold kC;split
  ·rename_i h;exact ⟨0,by rw[h];simp⟩
  split
  ·exact ⟨k+1,rfl⟩
  exact ⟨k,dX⟩
 obtain ⟨a,ha⟩:=lead;unfold gQ;simp only;split
 ·refine ⟨a,(kC (L (norm s))).length - 1 - (k+1),?_⟩;rw[List.dropLast_eq_take,List.drop_take,ha]
 exact ⟨a,((L (norm s)).drop a).length,by rw[ha,List.take_length]⟩
theorem vN {s word:ByteArray} (h:inside (L word) (L (norm s))=false) (a b:Nat):(word.toList==((lastB (pathOf s false)).extract a b).toList)=false:=by
 obtain ⟨c,k,hp⟩:=aGo s
 cases hq:(word.toList==((lastB (pathOf s false)).extract a b).toList) with
 | false=>rfl
 | true =>
  have e:=beq_iff_eq.1 hq;rw[L_toList,L_toList] at e;have e2:L word=L ((lastB (pathOf s false)).extract a b):=e;rw[eQ,hp,List.drop_take,List.drop_drop,List.take_take] at e2;rw[e2,aDk] at h;cases h
theorem tY (l:List ByteArray) (word x:ByteArray) (h:(word.toList==x.toList)=false):listed (l++[word]) x=listed l x:=by
 unfold listed;rw[List.any_append];simp only[List.any_cons,List.any_nil,Bool.or_false];rw[h,Bool.or_false]
theorem aGb {st:eW} {s word:ByteArray} (h:inside (L word) (L (norm s))=false):Agree st { st with cont:=st.cont++[word] } (lastB (pathOf s false)) :=
 ⟨fun _ _=>rfl,fun _ _=>rfl,fun a b=>tY _ _ _ (vN h a b),rfl⟩
theorem aEo {st:eW} {s word:ByteArray} (h:inside (L word) (L (norm s))=false):Agree st { st with langs:=st.langs++[word] } (lastB (pathOf s false)) :=
 ⟨fun a b=>tY _ _ _ (vN h a b),fun _ _=>rfl,fun _ _=>rfl,rfl⟩
theorem aHi {st:eW} {s word:ByteArray} (h:inside (L word) (L (norm s))=false):Agree st { st with dis:=st.dis++[word] } (lastB (pathOf s false)) :=
 ⟨fun _ _=>rfl,fun a b=>tY _ _ _ (vN h a b),fun _ _=>rfl,rfl⟩
theorem lR.norm {x:ByteArray} (h:lR x):norm x=x:=by
 refine L_inj ?_;rw[wD];refine (List.map_congr_left (fun c hc=>?_)).trans (List.map_id _);obtain ⟨i,hi,rfl⟩:=List.getElem_of_mem hc;have hs:i < x.size:=by rw[← eG];exact hi
 have:=h.each (i:Int) bA bA;rw[sP x i hi] at this;unfold gZ;rw[if_neg bA];unfold lJ;rw[if_neg (by intro e;rw[e] at this;revert this;decide)];rfl
theorem aFo (st st' : eW) (comp:ByteArray) (sc:Bool) (n:ByteArray) (cuts:List Nat):(fW st' comp sc n cuts).ext=(fW st comp sc n cuts).ext:=by
 have w:∀ (r r' : RV) (x:ByteArray) (k:Int),(r'.ids=[]↔r.ids=[])→r'.ext=r.ext→((kG st' comp sc cuts.length r' x k).ids≠[]∧(kG st comp sc cuts.length r x k).ids≠[]∧(kG st' comp sc cuts.length r' x k).ext=(kG st comp sc cuts.length r x k).ext):=by
  intro r r' x k h1 h2;unfold kG
  by_cases c:r.ids=[]
  ·rw[if_pos c,if_pos (h1.2 c)];exact ⟨by simp[nO,RV.id],by simp[nO,RV.id],rfl⟩
  rw[if_neg c,if_neg (fun e=>c (h1.1 e)),oH,oH];exact ⟨rZ (fun e=>c (h1.1 e)) _ _ _,rZ c _ _ _,h2⟩
 have f:∀ (cs:List Nat) (d d' : RV×Nat),(d'.1.ids=[]↔d.1.ids=[])→d'.1.ext=d.1.ext→d'.2=d.2→((cs.foldl (kF st' comp sc cuts.length n) d').1.ids=[]↔(cs.foldl (kF st comp sc cuts.length n) d).1.ids=[])∧(cs.foldl (kF st' comp sc cuts.length n) d').1.ext=(cs.foldl (kF st comp sc cuts.length n) d).1.ext∧(cs.foldl (kF st' comp sc cuts.length n) d').2=(cs.foldl (kF st comp sc cuts.length n) d).2:=by
  intro cs
  induction cs with
  | nil=>intro d d' h1 h2 h3;exact ⟨h1,h2,h3⟩
  | cons c cs ih =>
   intro d d' h1 h2 h3;refine ih _ _ ?_ ?_ rfl
   ·unfold kF;rw[h3];obtain ⟨a1,a2,_⟩:=w d.1 d'.1 (n.extract (c+1) d.2) c h1 h2;exact ⟨fun e=>absurd e a1,fun e=>absurd e a2⟩
   unfold kF;rw[h3];exact (w d.1 d'.1 (n.extract (c+1) d.2) c h1 h2).2.2
 unfold fW;split
 ·rfl
 obtain ⟨g1,g2,g3⟩:=f cuts.reverse (jT,n.size) (jT,n.size) Iff.rfl rfl rfl;simp only;rw[g3];exact (w _ _ _ _ g1 g2).2.2
theorem aLb {st:eW} {comp s:ByteArray} {p p' : eH} (K:lF st comp s) (K' : lF { st with langs:=[],dis:=[] } comp s) (hp:gB (eJ st) comp (norm s)=p) (hp' : gB (eJ { st with langs:=[],dis:=[] }) comp (norm s)=p') :
 (nL p').toList=[]∧jW p'=[]∧p'.dis=false∧nrm p'.trim p'.s=nrm p.trim p.s∧qA p'=nrm p.trim p.s∧fD p' 0=fD p 0:=by
 obtain ⟨f1,f2,_,_⟩:=aLa K' hp'
 have h0:(nL p').toList=[]:=by
  by_cases c:(nL p').toList=[]
  ·exact c
  have:=f2 c;cases this
 obtain ⟨g1,g2,g3⟩:=f1 h0
 have hs:nrm p'.trim p'.s=nrm p.trim p.s:=by
  rw[← hp,← hp',(uI _ _ _).1,(uI _ _ _).1,(uI _ _ _).2.1,(uI _ _ _).2.1]
 refine ⟨h0,g3,g1,hs,by rw[g2,hs],?_⟩
 have e1:fD p 0=(wOf st comp (pathOf s false)).ext:=by
  have:=yB K;rw[hp] at this;exact congrArg gK.ext this
 have e2:fD p' 0=(wOf { st with langs:=[],dis:=[] } comp (pathOf s false)).ext:=by
  have:=yB K';rw[hp'] at this;exact congrArg gK.ext this
 rw[e1,e2];exact aFo _ _ _ _ _ _
end Go.Proofs.YtcdgldnphhidlaaGreatDoor.Path
namespace Go.Proofs.YtcdgldnphhidlaaGreatDoor.Lower
open Go.RowKit Go.ZW.PrintWords Go.Proofs.YtcdgldnphhidlaaGreatDoor.Base
theorem yW (s:ByteArray) (w:World) (hs:s.size≤140737488355328) :
 Calls Tryz.prog 57 #[.string s] w fun e w'=>e = .returned (.string (low s))∧Below w.heap.size w w':=by
 have hl:=eG s;have hcv:=fun (W:World)=>Lib.run_convert_string_bytes (P:=Tryz.prog) W 9 64 5 s Tryz.underlying9 Tryz.underlying64 Tryz.underlying5;go_enter Tryz.func57,Tryz.ntmps57;go_wp2
 go_loopw [9] (fun i wr=>∃ k:Nat,k≤s.size∧i = .int .i64 k∧Aside0 (Bytes wr w.heap.size (mid gZ k (L s)))∧Aside0 (Below w.heap.size w wr)) (fun i _=>s.size - (intOf i).toNat)
 case atStart=>exact ⟨0,Nat.zero_le _,rfl,⟨by rw[mid_zero];exact pT w _ s⟩,⟨bytesWorld_below w _ s⟩⟩
 case round =>
  obtain ⟨k,hk,rfl,HB,HW⟩:=hrel
  by_cases hlt:k < s.size
  ·have hk1:k < (L s).length:=by omega
   have hk2:k < (mid gZ k (L s)).length:=by rw[qH _ _ _ bA];exact hk1
   obtain ⟨c,hc⟩:∃ c,(L s)[k]=c:=⟨_,rfl⟩
   have hg:(mid gZ k (L s))[k]=c:=by rw[aBf _ _ _ hk1,hc]
   have hcell:=(HB.out k hk2).1;have hfr:=(HB.out k hk2).2;rw[hg] at hcell;have HC:=cB hc;clear hc hg;have hr:c.toNat < 256:=c.toNat_lt
   by_cases h1:65≤c.toNat
   ·by_cases h2:c.toNat≤90
    ·have b1:65≤(c.toNat:Int):=by omega
     have b2:(c.toNat:Int)≤90:=by omega
     go_wp2
     go_roundw
     case rel =>
      refine ⟨k+1,aM,aY,⟨?_⟩,⟨HW.out.setCell bI _⟩⟩;have hs2:=HB.out.set k (gZ c) hk2;rw[aDp c ⟨h1,h2⟩,xZ gZ k (L s) hk1 (gZ c) (by rw[HC.out])] at hs2;exact hs2
     case measure=>simp[intOf];omega
    have b1:65≤(c.toNat:Int):=by omega
    have b2:¬ ((c.toNat:Int)≤90):=by omega
    have hst:gZ c=c:=tJ c bA;have HS:=cB (sW gZ k (L s) hk1 (by rw[HC.out,hst]));clear hst;go_wp2
    go_roundw
    case rel=>exact ⟨k+1,aM,aY,⟨by rw[HS.out];exact HB.out⟩,HW⟩
    case measure=>simp[intOf];omega
   have b1:¬ (65≤(c.toNat:Int)):=by omega
   have hst:gZ c=c:=tJ c bA;have HS:=cB (sW gZ k (L s) hk1 (by rw[HC.out,hst]));clear hst;go_wp2
   go_roundw
   case rel=>exact ⟨k+1,aM,aY,⟨by rw[HS.out];exact HB.out⟩,HW⟩
   case measure=>simp[intOf];omega
  obtain rfl:k=s.size:=by omega
  have HB2:Bytes wr w.heap.size ((L s).map gZ):=by have:=HB.out;rw[← hl,aBe] at this;exact this
  have hstr:=fun c=>sQ (P:=Tryz.prog) (w:=wr) (src:=64) (dst:=9) (e:=5) (c:=c) (n:=s.size) Tryz.underlying64 Tryz.underlying5 Tryz.underlying9 HB2 (by simpa using hl) bA;clear HB;have HB3:=cB HB2;clear HB2;go_wp2;go_ret;exact ⟨rfl,HW.out⟩
end Go.Proofs.YtcdgldnphhidlaaGreatDoor.Lower
namespace Go.Proofs.YtcdgldnphhidlaaGreatDoor.Path
open Go.RowKit Go.WideMaps Go.ZW.PrintWords Go.Proofs.YtcdgldnphhidlaaGreatDoor.Base
theorem aAl {P:Program} {w:World} {base:Nat} (t ty e:TypeId) (i:TypeInfo) {size:Nat} (ht:P.underlying t=some (.slice e)) (hi:P.info? e=some i) {v:Value} {n:Nat} {xs:List Value} (hown:w.ownsRow base e size v n xs) (c:Nat) :
 (Builtin.append_ #[t,t] ty #[v,.slice none 0 c]).run P w = .ok v w:=by
 rcases hown.2 with ⟨rfl,rfl⟩ | ⟨g,cap,cur,rfl,_,_,hnc,_⟩
 ·simp[Builtin.append_,run_underlying ht,sizeOf,typeInfo,hi,Builtin.lenOf,Builtin.firstCells]
 simp[Builtin.append_,run_underlying ht,sizeOf,typeInfo,hi,Builtin.lenOf,Builtin.firstCells,hnc,storeCells]
theorem aCu (g o j:Nat):(⟨g,o,none⟩:Addr).add j=⟨g,o+j,none⟩:=by
 unfold Addr.add;split
 ·rename_i h;subst h;rfl
 rfl
theorem uR {P:Program} {ops:Array Oper} {rest:List Oper} {o:Oper} {a:Act} {Q:Exit→Act→World→Prop} {W:World} (hgd:o.guard=none) (base:Nat) (s x:Operand) (t e:TypeId) (z:Value) (bytes:Nat)
 (ho:o.op = .call { callee:=.builtin .append,args:=#[s,x],argTypes:=#[t,t] })
 (ht:P.underlying t=some (.slice e)) (hinfo:(P.info? e).map (fun i=>(i.zero,i.size,i.bytes))=some (some z,1,bytes)) (hz:z.cells.size=1) (hb0:0 < bytes)
 (v:Value) (n:Nat) (xs:List Value) (hs:a.eval s=v) (HO:W.ownsRow base e 1 v n xs) {src:Value} {l:List ByteArray} (H:eV W 0 src l) (hx:a.eval x=src) (hbase:base≤W.heap.size) (hl:(n+l.length) * bytes≤140737488355328)
 (h:∀ v1 w1,w1.ownsRow base e 1 v1 (n+l.length) (xs++l.map Value.string)→W.grownBy w1 v.ownBlock→(v1.ownBlock=v.ownBlock∨∃ b,v1.ownBlock=some b∧W.heap.size≤b)→wpList P ops Q rest (a.put o.dst v1) w1) :
 wpList P ops Q (o::rest) a W:=by
 obtain ⟨i0,hi,hzz⟩:=Option.map_eq_some_iff.1 hinfo;simp only[Prod.mk.injEq] at hzz;obtain ⟨hz0,hz1,hz2⟩:=hzz;have hlen:n+l.length≤140737488355328:=Nat.le_trans (Nat.le_mul_of_pos_right _ hb0) hl;obtain ⟨A,c,rfl,hc,hp⟩:=H
 cases A with
 | some ad =>
  refine wpList_append_own_at _ hgd s x t ho base e i0 z 1 bytes ht hi hz0 hz1 hz2 hz bF v n xs hs HO ad l.length c (l.map Value.string) hx bI (fun j u hj=>?_) (fun u hu=>?_) (by simp only[maxLen];omega) hl hbase ?_
  ·rw[List.getElem?_map] at hj;obtain ⟨b,hb,rfl⟩:=Option.map_eq_some_iff.1 hj;obtain ⟨hjl,rfl⟩:=List.getElem?_eq_some_iff.1 hb;obtain ⟨g,o',ea,_,hh⟩:=hp bA;injection ea with ea
   subst ea;rw[aCu];exact hh j hjl
  ·obtain ⟨b,_,rfl⟩:=List.mem_map.1 hu;rfl
  intro v1 w1 hown hg _ hat;refine h v1 w1 hown hg ?_;rcases hat with hat | hat
  ·exact .inl hat
  exact .inr ⟨_,hat,dX⟩
 | none =>
  have hn:l=[]:=by
   cases l with
   | nil=>rfl
   | cons b r=>obtain ⟨g,o',ea,_⟩:=hp bI;cases ea
  subst hn;refine wpList_plain hgd fun K hK=>?_;have hrun:=aAl (P:=P) (w:=W) t o.type e i0 ht hi HO c;unfold Oper.wp
  simp[execOp,ho,resolve,invoke,builtin,hs,hx,hrun,Result.andThen]
  exact hK _ _ (h v W (by simpa using HO) (World.grownBy.refl _ _) (.inl rfl))
theorem tC {w:World} {B n:Nat} {v:Value} {l:List ByteArray} (h:w.ownsRow B 9 1 v n (l.map Value.string)) (hn:n=l.length):eV w B v l:=by
 subst hn;rcases h.2 with ⟨rfl,h0⟩ | ⟨g,c,cur,e,h2,_,hcap,_⟩
 ·obtain rfl:l=[]:=List.eq_nil_of_length_eq_zero h0;exact ⟨none,0,rfl,Nat.le_refl _,fun hp=>absurd hp bF⟩
 have hb:v.ownBlock=some g:=by rw[e];rfl
 refine ⟨some ⟨g,0,none⟩,c,e,aM,fun hp=>⟨g,0,rfl,h2,fun j hj=>?_⟩⟩;have c1:=h.cells hb j (.string (l[j]'hj)) (by rw[List.getElem?_map,List.getElem?_eq_getElem hj];rfl);rwa[aCu] at c1
open Go.RowKit Go.WideMaps Go.ZW.PrintWords Go.Proofs.YtcdgldnphhidlaaGreatDoor.Base Go.Proofs.YtcdgldnphhidlaaGreatDoor.Lower Go.Proofs.YtcdgldnphhidlaaGreatDoor.Ext Go.Proofs.YtcdgldnphhidlaaGreatDoor.PCore
theorem aCj (s t:ByteArray) (r:Bool) (w:World) (hs:s.size≤140737488355328) (ht:t.size≤140737488355328) (ht0:0 < t.size) (hr:inside (L t) (L s)=r) :
 Calls Tryz.prog 56 #[.string s,.string t] w fun e w'=>e = .returned (.bool r)∧Below w.heap.size w w':=by
 obtain ⟨k,hk⟩:=(aIv s t hs ht ht0).rounds
 exact (gF.calls k s t r w (by rw[hk,hr])).mono fun _ _ ⟨h1,h2⟩=>⟨h1,dN⟩
theorem rS (s word:ByteArray) (hs:s.size≤4000000000) (hw:word.size≤4000000000) :
 ∃ r:Bool,(r=true→inside (L (low (norm word))) (L (low (norm s)))=false)∧∀ w:World,Calls Tryz.prog 37 #[.string s,.string word] w fun e w'=>e = .returned (.bool r)∧Below w.heap.size w w':=by
 cases c:(word.toList==[]) with
 | true =>
  refine ⟨false,fun h=>(by cases h),fun w=>?_⟩;go_enter Tryz.func37,Tryz.ntmps37;go_wp2_with fail
  go_ret;exact ⟨rfl,Below.refl _ _⟩
 | false =>
  have hp:0 < word.size:=by
   rcases Nat.eq_zero_or_pos word.size with h | h
   ·have:word=⟨#[]⟩:=L_inj (List.eq_nil_of_length_eq_zero (by rw[eG];exact h));rw[this] at c;exact Bool.noConfusion (c.symm.trans (show ((⟨#[]⟩:ByteArray).toList==[])=true by rw[L_toList];rfl))
   exact h
  obtain ⟨q,hq⟩:∃ q,inside (L (low (norm word))) (L (low (norm s)))=q:=⟨_,rfl⟩
  have z1:(norm s).size=s.size:=norm_size s;have z2:(norm word).size=word.size:=norm_size word;have z3:(low (norm s)).size=s.size:=by rw[oU,z1]
  have z4:(low (norm word)).size=word.size:=by rw[oU,z2]
  have c1:∀ w,Calls _ _ _ w _:=fun w=>qJ s w bA;have c2:∀ w,Calls _ _ _ w _:=fun w=>yW (norm s) w bA;have c3:∀ w,Calls _ _ _ w _:=fun w=>qJ word w bA;have c4:∀ w,Calls _ _ _ w _:=fun w=>yW (norm word) w bA;have c5:∀ w,Calls _ _ _ w _:=fun w=>aCj (low (norm s)) (low (norm word)) q w bA bA bA hq;refine ⟨!q,fun h=>by rw[hq];simpa using h,fun w=>?_⟩
  obtain ⟨a,ha⟩:∃ a,norm s=a:=⟨_,rfl⟩
  obtain ⟨b,hb⟩:∃ a,norm word=a:=⟨_,rfl⟩
  rw[ha] at c1 c2 c5;rw[hb] at c3 c4 c5
  obtain ⟨a2,ha2⟩:∃ x,low a=x:=⟨_,rfl⟩
  obtain ⟨b2,hb2⟩:∃ x,low b=x:=⟨_,rfl⟩
  rw[ha2] at c2 c5;rw[hb2] at c4 c5;clear ha hb ha2 hb2 hq z1 z2 z3 z4 hp hs hw;go_enter Tryz.func37,Tryz.ntmps37;go_wp2_with fail
  refine (c1 _).mono ?_;rintro e w1 ⟨rfl,hb1⟩;have HB1:=cB hb1;clear hb1 c1;go_wp2_with fail
  refine (c2 _).mono ?_;rintro e w2 ⟨rfl,hb2⟩;have HB2:=cB (eD HB1.out hb2);clear hb2 c2;go_wp2_with fail
  refine (c3 _).mono ?_;rintro e w3 ⟨rfl,hb3⟩;have HB3:=cB (eD HB2.out hb3);clear hb3 c3;go_wp2_with fail
  refine (c4 _).mono ?_;rintro e w4 ⟨rfl,hb4⟩;have HB4:=cB (eD HB3.out hb4);clear hb4 c4;go_wp2_with fail
  refine (c5 _).mono ?_;rintro e w5 ⟨rfl,hb5⟩;have HB5:=cB (eD HB4.out hb5);clear hb5 c5;go_wp2_with fail
  go_ret;exact ⟨rfl,HB5.out⟩
end Go.Proofs.YtcdgldnphhidlaaGreatDoor.Path
