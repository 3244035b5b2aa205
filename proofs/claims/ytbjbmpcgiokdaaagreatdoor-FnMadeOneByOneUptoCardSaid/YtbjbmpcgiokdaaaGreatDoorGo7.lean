/-
  Texts of this proof, merged: WMk6, WRf6, WRf7, WMk7, WMk8, Chn, WEq, WRf8, WMk9, WMk10, WLaw6, Mem, MkP, WMk11.
-/
import Derived.Test.YtbjbmpcgiokdaaaGreatDoorGo6
import Derived.Test.YtbjbmpcgiokdaaaGreatDoorGo4
import Derived.Test.YtbjbmpcgiokdaaaGreatDoorGo5
set_option linter.unusedVariables false
set_option linter.unusedSimpArgs false
namespace Go.Eng
open Go Go.Proofs
set_option maxRecDepth 100000
set_option maxHeartbeats 2000000
theorem infoBo:Tryz.prog.info? 4=some Tryz.t4:=by kernel_rfl
theorem infoP2:Tryz.prog.info? 147=some Tryz.t147:=by kernel_rfl
theorem bools_rep(n:Nat):boolsV (List.replicate n false)=List.replicate n (Value.bool false):=by simp[boolsV]
theorem bools_set{us:List Bool}{i:Nat}{b:Bool}:(boolsV us).set (i*1) (.bool b)=boolsV (us.set i b):=by
  rw[Nat.mul_one,boolsV,boolsV,List.map_set]
theorem ints_get1{l:List Nat}{i:Nat}(h:i<l.length):(intsV l)[i*1]? =some (.int .i64 ((l[i]:Nat):Int)):=by
  have:=Ej (vs:=[]) h
  rwa [List.append_nil]at this
theorem lenOf_ge{ls:List Nat}{k:Nat}(h:ls.length≤k):lenOf ls k=0:=by rw[lenOf,List.getD_eq_getElem?_getD,List.getElem?_eq_none h];rfl
theorem mark_snoc{us os us2 os2:List Bool}{l:List Tk}{i:Nat}{k:Tk}(hk:l[i]? =some k)(h:∀x∈l.take i,Mark us os x)(hm:∀x,Mark us os x→Mark us2 os2 x)(h1:Mark us2 os2 k):∀x∈l.take (i+1),Mark us2 os2 x:=by
  intro x hx
  rw[snocT hk]at hx
  rcases List.mem_append.1 hx with h2|h2
  · exact hm x (h x h2)
  · rw[List.mem_singleton.1 h2];exact h1
def toldV(tl:List (Nat×Nat)):List Value:=tl.flatMap fun t=>[.int .i64 ((t.1:Nat):Int),.int .i64 ((t.2:Nat):Int)]
theorem toldV_append(a b:List (Nat×Nat)):toldV (a++b)=toldV a++toldV b:=by simp[toldV]
theorem toldV_get:∀{tl:List (Nat×Nat)} {cs:List Value} {j:Nat} {t:Nat×Nat},tl[j]? =some t→((toldV tl++cs).drop (j*2)).take 2=[.int .i64 ((t.1:Nat):Int),.int .i64 ((t.2:Nat):Int)]
  | [],_,_,_,h=>by simp at h
  |a::r,cs,0,t,h=>by simp at h;subst h;rfl
  |a::r,cs,j+1,t,h=>by
    rw[List.getElem?_cons_succ]at h
    have:=toldV_get (cs:=cs) h
    rw[Nat.add_mul,Nat.one_mul,Nat.add_comm (j*2) 2,←List.drop_drop]
    exact this
theorem arrP(f:Nat→Value)(u v:Value):(((Array.range 2).map f).setIfInBounds 0 u).setIfInBounds 1 v=#[u,v]:=by
  rw[show Array.range 2=#[0,1] by decide];simp
theorem pairRun(x y:Int)(w:World):(Instr.buildSlice 146 1 [(0,.agg #[.int .i64 x,.int .i64 y])].toArray).run Tryz.prog w=
   .ok (.slice (some ⟨w.heap.size,0,none⟩) 1 1) (w.alloc (.cells [Value.int .i64 x,.int .i64 y].toArray 147)):=by
  simp[Instr.buildSlice,Instr.fill,Value.cells,newRow,Tryz.runUnderlying146,Tryz.typeInfo147]
  rw[arrP]
theorem tPut_lit{cl:List Nat}{s:Wr}{t:Nat×Nat}(h:t.1<16):tPut cl s t=wcode s cl t.1:=if_pos h
theorem tPut_rep{cl:List Nat}{s:Wr}{t:Nat×Nat}(h:16≤t.1):tPut cl s t=wput (wcode s cl t.1) t.2 (repN t.1):=if_neg (by omega)
theorem foldP_snoc{cl:List Nat}{s:Wr}{tl:List (Nat×Nat)}{j:Nat}{t:Nat×Nat}(h:tl[j]? =some t):(tl.take (j+1)).foldl (tPut cl) s=tPut cl ((tl.take j).foldl (tPut cl) s) t:=by
  rw[List.take_add_one,h,List.foldl_append];rfl
theorem clP_snoc{f:Nat→Nat}{s:Wr}{l:List Nat}{j x:Nat}(h:l[j]? =some x):clPut f (l.take (j+1)) s=wput (clPut f (l.take j) s) (f x) 3:=by
  unfold clPut
  rw[List.take_add_one,h,List.foldl_append];rfl
def OwnE(K:Known)(na:Option Addr)(nn at_:Nat)(wb:Nat)(s:Wr)(tl:List TokM)(r:Value)(L:Frags):Prop:=
  ∃lit dist lb l2 db d2 dc s2 f g,r=.tuple #[.slice (some ⟨lb,0,none⟩) lit.length 286,.slice (some ⟨db,0,none⟩) dist.length dc]∧WAt wb s2 f g∧OwnR s s2 lit dist∧okLens lit∧okLens dist∧(∀x∈lit,x≤15)∧(∀x∈dist,x≤15)∧lit.length≤320∧dist.length≤320∧0<lenOf lit 256∧
    (∀k∈tl.map tkOf,tkUse lit dist k)∧s2.2≤s.2+6000∧OwnD K na nn (tl.map tkOf) at_ s lit dist s2∧L=[f,g,⟨lb,0,intsV lit++l2⟩,⟨db,0,intsV dist++d2⟩]
def CapS(K:Known)(g:Nat):Prop:=∀a n c,cellAt K g 0=some (.slice a n c)→n≤c
theorem own_walk{K:Known}(hS:SpT K)(hOC:CapS K 7)(wb:Nat)(s:Wr)(cb:Nat)(na:Option Addr)(nn nc:Nat)(hZ:SzA K (.slice na nn nc))(at_:Nat)(hat:at_≤1048576)(tv:Value)(tl:List TokM)(hT:TokA K tv tl)(htl:tl.length≤1099511627)(hto:∀t∈tl,TokOk t)(hk:s.2≤1099511627776)(f0 g0:Frag)(hW0:WAt wb s f0 g0):Fn Tryz.prog K 44 #[.pointer (some ⟨wb,0,none⟩),tv,.pointer (some ⟨cb,0,none⟩)] ([f0,g0,⟨cb,0,[.slice na nn nc,.int .i64 (((at_):Nat):Int)]⟩]) (fun r L=>∃L2 J,Same L (L2++J)∧OwnE K na nn at_ wb s tl r L2):=by
 refine Fn.intro (args:=[.pointer (some ⟨wb,0,none⟩),tv,.pointer (some ⟨cb,0,none⟩)]) (RR:=Ret2 6 7 _) Tryz.func44 rfl rfl Tryz.ntmps44 (res2 Tryz.results44) ?_
 refine Bi (env2:=[(0,.pointer (some ⟨wb,0,none⟩)),(1,tv),(2,.pointer (some ⟨cb,0,none⟩))]) U<|Cr ?_
 obtain⟨ta,tc,rfl,hTa⟩:=hT
 obtain⟨sb1,so1,sc1,hS1,hSc1⟩:=hS.sizes
 obtain⟨sb3,so3,sc3,hS3,hSc3⟩:=hS.far
 obtain⟨gb,go,gc,hO,hOc⟩:=hS.order
 have hgc:=hOC _ _ _ hO
 have ho19:ordL.length=19:=rfl
 have hws:WrOk s:=by obtain⟨_,_,_,_,_,_,h⟩:=hW0;exact h
 refine Ea U U<|Ea U U<|Ek5 0 1 2 6 7 U<|Du (M:=fun ee ll=>∃(ub:Nat),∃(ob:Nat),keeps ee [0,1,2,8,9]=some [(0,.pointer (some ⟨wb,0,none⟩)),(1,.slice ta tl.length tc),(2,.pointer (some ⟨cb,0,none⟩)),(8,.slice (some ⟨ub,0,none⟩) 286 286),(9,.slice (some ⟨ob,0,none⟩) 30 30)]∧ll=[⟨ub,0,boolsV (List.replicate 286 false)⟩,⟨ob,0,boolsV (List.replicate 30 false)⟩,f0,g0,⟨cb,0,[.slice na nn nc,.int .i64 (((at_):Nat):Int)]⟩]) ?_ ?_
 ·refine Bt [0,0,1,7] (.alt 0 (.pure 2 3 (.alt 1 (.pure 3 7 .done) .stop)) (.alt 1 (.alt 0 (.pure 2 3 (.pure 3 7 .done)) .stop) .stop)) mixed (by decide+kernel)<|Hc ?_ ⟨?_,trivial⟩
  ·refine Bo U (Hx (l:=286) (c:=286) (bytes:=1) Tu108 infoBo (z:=.bool false) U U U U U U (Nat.le_refl _) (by decide) (by decide)) U ?_;rintro _ _⟨ub,rfl,rfl⟩;refine Dr4 U ?_
   refine Ah U (Az U) U<|By ?_
   refine Bo U (Hx (l:=30) (c:=30) (bytes:=1) Tu108 infoBo (z:=.bool false) U U U U U U (Nat.le_refl _) (by decide) (by decide)) U ?_;rintro _ _⟨ob,rfl,rfl⟩;refine Dr5 U ?_
   refine Hb [1,0,0,0,0] (A:=[_,_,_,_,_]) (F:=[]) U<|Dr5 U<|Ah U (Az U) U<|Dk7 0 1 2 6 7 8 9 U ?_
   exact⟨ub,ob,rfl,(by rw[bools_rep,bools_rep])⟩
  refine Bo U (Hx (l:=30) (c:=30) (bytes:=1) Tu108 infoBo (z:=.bool false) U U U U U U (Nat.le_refl _) (by decide) (by decide)) U ?_;rintro _ _⟨ob,rfl,rfl⟩;refine Dr4 U ?_
  refine By ?_
  refine Bo U (Hx (l:=286) (c:=286) (bytes:=1) Tu108 infoBo (z:=.bool false) U U U U U U (Nat.le_refl _) (by decide) (by decide)) U ?_;rintro _ _⟨ub,rfl,rfl⟩;refine Dr5 U ?_
  refine Ah U (Az U) U<|Ah U (Az U) U<|Dk7 0 1 2 6 7 8 9 U ?_
  exact⟨ub,ob,rfl,(by rw[bools_rep,bools_rep])⟩
 rintro _ _⟨ub,ob,hq2,rfl⟩
 refine Av _ hq2<|Cr<|Em U U<|Em U U<|Em U U ?_
 refine Ai (OpX.pick [4] (F:=[_,_,_,_]) U (Ar U Tryz.call62 (Ho cb na nn nc hZ (at_) (256) (by omega) (by omega) (by omega)))) U ?_;rintro _ _⟨_,⟨r,at1,rfl,hr,hat1,hNat1,rfl⟩,rfl⟩;refine Er5 U ?_
 refine Dd [1,1,1,1,0] U<|Er5 U<|Aa (Bm (i:=256) U U (by omega) Tu108 Tz4) U ?_
 refine Ao (Aq 0 (k:=256*1) U U U U (by rw[Nat.blt_eq,Gj];rw[List.length_replicate];decide) Tz4) ?_
 rintro _ _⟨rfl,rfl⟩
 refine Ax (L2:=[⟨ub,0,boolsV ((List.replicate 286 false).set 256 true)⟩,_,_,_,_]) (by show [(⟨_,0,(boolsV _).set _ _⟩:Frag),_,_,_,_]=_;rw[bools_set]) ?_
 refine Aa (Bm U U (by omega) Tu108 Tz4) U ?_
 refine Ao (Aq 0 (k:=r*1) U U U U (by rw[Nat.blt_eq,Gj];rw[List.length_set,List.length_replicate];omega) Tz4) ?_
 rintro _ _⟨rfl,rfl⟩
 refine Ax (L2:=[⟨ub,0,boolsV ((((List.replicate 286 false).set 256 true).set r true))⟩,_,_,_,_]) (by show [(⟨_,0,(boolsV _).set _ _⟩:Frag),_,_,_,_]=_;rw[bools_set]) ?_
 refine Ek5 0 1 2 8 9 U<|Cr<|Ea U U<|Ek6 0 1 2 8 9 10 U<|Am<|Cr<|Em U U<|Aa (Bc U Tu71) U<|Em U U<|Ek8 0 2 8 9 10 44 45 46 U<|As ?_
 refine Bw (fun mm ee ll=>∃(i:Nat),∃(us:List Bool),∃(os:List Bool),∃(nd:Nat),keeps ee [0,2,8,9,10,44,45,46]=some [(0,.pointer (some ⟨wb,0,none⟩)),(2,.pointer (some ⟨cb,0,none⟩)),(8,.slice (some ⟨ub,0,none⟩) 286 286),(9,.slice (some ⟨ob,0,none⟩) 30 30),(10,.int .i64 ((nd:Nat):Int)),(44,.slice ta tl.length tc),(45,.int .i64 ((tl.length:Nat):Int)),(46,.int .i64 ((i:Nat):Int))]∧ll=[⟨ub,0,boolsV (us)⟩,⟨ob,0,boolsV (os)⟩,f0,g0,⟨cb,0,[.slice na nn nc,.int .i64 (((at1):Nat):Int)]⟩]∧(i≤tl.length)∧(us.length=286)∧(os.length=30)∧(us.getD 256 false=true)∧(us.getD r false=true)∧(∀x∈(tl.map tkOf).take i,Mark us os x)∧(nd=os.count true)∧((us,os)=((tl.map tkOf).take i).foldl markF (us0 r,List.replicate 30 false))∧mm=tl.length-i) (_) ⟨0,(((List.replicate 286 false).set 256 true).set r true),List.replicate 30 false,0,rfl,rfl,Nat.zero_le _,(by rw[List.length_set,List.length_set,List.length_replicate]),(by rw[List.length_replicate]),(Ft (by rw[List.length_set,List.length_replicate];omega) (by rw[Hq (by rw[List.length_replicate];decide),if_pos U])),(by rw[Hq (by rw[List.length_set,List.length_replicate];omega),if_pos U]),(fun x hx=>by simp at hx),(by decide),(by rw[List.take_zero];rfl),rfl⟩ ?_
 rintro m0 _ _⟨i,us,os,nd,hk0,rfl,hi,hul,hol,h256,hur,hmk,hnd,hMF,hm0⟩
 refine Av _ hk0<|Cr<|Aa (Dl U U) U<|Ek9 0 2 8 9 10 44 45 46 47 U<|Am<|Bf U (fun h47=>?_) (fun h47=>?_)
 ·have hi2:i<tl.length:=by omega
  obtain⟨t,ht⟩:∃t,t=tl[i]:=⟨_,rfl⟩
  have htm:t∈tl:=ht▸List.getElem_mem hi2
  have hkt:(tl.map tkOf)[i]? =some (tkOf t):=by rw[List.getElem?_map,List.getElem?_eq_getElem hi2,←ht];rfl
  have hot:=hto t htm
  obtain⟨tb,to,hta,hTc⟩:=hTa.resolve_left (fun h=>by rw[h]at hi2;simp at hi2)
  have hTc2:=hTc i hi2
  rw[←ht]at hTc2
  have hndl:nd≤30:=by rw[hnd,←hol];exact List.count_le_length
  refine Ap<|Du (M:=fun ee ll=>∃(us2:List Bool),∃(os2:List Bool),∃(nd2:Nat),keeps ee [0,2,8,9,10,44,45,46]=some [(0,.pointer (some ⟨wb,0,none⟩)),(2,.pointer (some ⟨cb,0,none⟩)),(8,.slice (some ⟨ub,0,none⟩) 286 286),(9,.slice (some ⟨ob,0,none⟩) 30 30),(10,.int .i64 ((nd2:Nat):Int)),(44,.slice ta tl.length tc),(45,.int .i64 ((tl.length:Nat):Int)),(46,.int .i64 ((i:Nat):Int))]∧ll=[⟨ub,0,boolsV (us2)⟩,⟨ob,0,boolsV (os2)⟩,f0,g0,⟨cb,0,[.slice na nn nc,.int .i64 (((at1):Nat):Int)]⟩]∧(us2.length=286)∧(os2.length=30)∧(us2.getD 256 false=true)∧(us2.getD r false=true)∧(∀x∈(tl.map tkOf).take (i+1),Mark us2 os2 x)∧(nd2=os2.count true)∧((us2,os2)=((tl.map tkOf).take (i+1)).foldl markF (us0 r,List.replicate 30 false))) ?_ ?_
  ·refine As<|Cr ?_
   refine Aa (Bm (b:=tb) (o:=to) (l:=tl.length) (c:=tc) (i:=i) (k:=.i64) (by rw[←hta];rfl) U hi2 Tu71 Tz75) U ?_
   refine Ag (Gg (vs:=tokCells t) U hTc2 U Tryz.isAgg75 Tz75) U ?_
   refine Ai (Dq Tryz.zeroValue75) U ?_;rintro _ _⟨b12,rfl,rfl⟩;refine Er6 U ?_
   refine Ax (L2:=⟨b12,0,[.int .u8 0,.int .i64 0,.int .i64 0]⟩::[⟨ub,0,boolsV (us)⟩,⟨ob,0,boolsV (os)⟩,f0,g0,⟨cb,0,[.slice na nn nc,.int .i64 (((at1):Nat):Int)]⟩]) (by kernel_rfl) ?_
   refine Ao (Bq 0 (k:=0) U U U U U U Tz75 U) ?_;rintro _ _⟨rfl,rfl⟩;refine Er6 U ?_
   refine Ek10 0 2 8 9 10 12 44 45 46 47 U<|Am<|Cr<|Aa (Ab U fa75_1) U<|Ag (Aj 0 (k:=1) U U U Ta3) U<|Aa (Ef (b:=((0:Nat):Int)) U U) U<|Ek11 0 2 8 9 10 12 44 45 46 47 52 U<|Bf U (fun h52=>?_) (fun h52=>?_)
   ·have hz:t.2.1=0:=by omega
    have htk1:tkOf t=.lit t.1:=if_pos hz
    have hcl:=t.1.toNat_lt
    refine Cr<|Em U U<|Aa (Ab U fa75_0) U<|Ag (Aj 0 (k:=0) U U U Ta5) U<|Aa (Bm U U (by omega) Tu108 Tz4) U ?_
    refine Ao (Aq 1 (k:=t.1.toNat*1) U U U U (by rw[Nat.blt_eq,Gj];omega) Tz4) ?_
    rintro _ _⟨rfl,rfl⟩
    refine Ax (L2:=[_,⟨ub,0,boolsV (us.set t.1.toNat true)⟩,_,_,_,_]) (by show [_,(⟨_,0,(boolsV _).set _ _⟩:Frag),_,_,_,_]=_;rw[bools_set]) ?_
    refine Ds [1,1,1,1,1] (A:=[_,_,_,_,_]) (F:=[_]) U<|Ek11 0 2 8 9 10 12 44 45 46 47 52 U<|Bu U ?_
    exact⟨_,_,_,rfl,rfl,(by rw[List.length_set];exact hul),hol,(Ft (by omega) h256),(Ft (by omega) hur),(mark_snoc hkt hmk (fun x h=>h.us (by omega)) (by rw[htk1];show(us.set _ true).getD _ false=true;rw[Hq (by omega),if_pos U])),hnd,(by rw[snocT hkt,List.foldl_append,←hMF,htk1];rfl)⟩
   obtain⟨n,d,hn,hd,hn3,hn4,hd1,hd2⟩:=hot.resolve_left (fun h=>by omega)
   have htk2:tkOf t=.copy n d:=by unfold tkOf;rw[if_neg (by omega),hn,hd];rfl
   have hps:=place_size hn3 hn4
   have hpf:=place_far hd1 hd2
   have hjo:(placeL farL d)<os.length:=by omega
   refine Ap<|Cr<|Em U U<|Ag (Be U hS1 Ta23) U<|Aa (Ab U fa75_1) U<|Ag (Aj 0 (k:=1) U U U Ta3) U<|An (v:=.int .i64 ((n:Nat):Int)) (by rw[hn]) ?_
   refine Ai (OpX.pick [] (F:=[_,_,_,_,_,_]) U (Ar U Tryz.call61 (place_spec sb1 so1 sc1 sizesL n hSc1 (by decide) (by decide) (show(3:Nat)≤n from hn3)))) U ?_;rintro _ _⟨_,⟨rfl,rfl⟩,rfl⟩;refine Er6 U ?_
   refine Aa (Bl (a:=((257:Nat):Int)) U U (N.add64 (by omega))) U<|Aa (Bm U U (by omega) Tu108 Tz4) U ?_
   refine Ao (Aq 1 (k:=(257+(placeL sizesL n))*1) U U U U (by rw[Nat.blt_eq,Gj];omega) Tz4) ?_
   rintro _ _⟨rfl,rfl⟩
   refine Ax (L2:=[_,⟨ub,0,boolsV (us.set (257+(placeL sizesL n)) true)⟩,_,_,_,_]) (by show [_,(⟨_,0,(boolsV _).set _ _⟩:Frag),_,_,_,_]=_;rw[bools_set]) ?_
   refine Ek11 0 2 8 9 10 12 44 45 46 47 52 U<|Cr<|Ag (Be U hS3 Ta23) U<|Aa (Ab U fa75_2) U<|Ag (Aj 0 (k:=2) U U U Ta3) U<|An (v:=.int .i64 ((d:Nat):Int)) (by rw[hd]) ?_
   refine Ai (OpX.pick [] (F:=[_,_,_,_,_,_]) U (Ar U Tryz.call61 (place_spec sb3 so3 sc3 farL d hSc3 (by decide) (by decide) (show(1:Nat)≤d from hd1)))) U ?_;rintro _ _⟨_,⟨rfl,rfl⟩,rfl⟩;refine Er6 U ?_
   refine Ea U U<|Ek12 0 2 8 9 10 12 13 44 45 46 47 52 U<|Cr<|Em U U<|Em U U<|Aa (Bm U U (by omega) Tu108 Tz4) U<|Ag (Aj 2 (k:=(placeL farL d)*1) U U (boolsV_get hjo) Ta4) U<|Aa (Gc U) U<|Ek13 0 2 8 9 10 12 13 44 45 46 47 52 72 U<|Eg U (fun h72=>?_) (fun h72=>?_)
   ·refine Cr<|Em U U<|Em U U<|Aa (Bm U U (by omega) Tu108 Tz4) U ?_
    refine Ao (Aq 2 (k:=(placeL farL d)*1) U U U U (by rw[Nat.blt_eq,Gj];omega) Tz4) ?_
    rintro _ _⟨rfl,rfl⟩
    refine Ax (L2:=[_,_,⟨ob,0,boolsV (os.set (placeL farL d) true)⟩,_,_,_]) (by show [_,_,(⟨_,0,(boolsV _).set _ _⟩:Frag),_,_,_]=_;rw[bools_set]) ?_
    refine Ek13 0 2 8 9 10 12 13 44 45 46 47 52 72 U<|Al<|Em U U<|Aa (Bl (b:=((1:Nat):Int)) U U (N.add64 (by omega))) U<|Ea U U<|Ds [1,1,1,1,1] (A:=[_,_,_,_,_]) (F:=[_]) U<|Ek13 0 2 8 9 10 12 13 44 45 46 47 52 72 U ?_
    exact⟨_,_,_,rfl,rfl,(by rw[List.length_set];exact hul),(by rw[List.length_set];exact hol),(Ft (by omega) h256),(Ft (by omega) hur),(mark_snoc hkt hmk (fun x h=>(h.us (by omega)).os (by omega)) (by rw[htk2];exact⟨by rw[Hq (by omega),if_pos U],by rw[Hq (by omega),if_pos U]⟩)),(by rw[count_set hjo (by simpa using h72),hnd]),(by rw[snocT hkt,List.foldl_append,←hMF,htk2];rfl)⟩
   refine C.forget [1,1,1,1,1] (A:=[_,_,_,_,_]) U<|Ap ?_
   exact⟨_,_,_,rfl,rfl,(by rw[List.length_set];exact hul),hol,(Ft (by omega) h256),(Ft (by omega) hur),(mark_snoc hkt hmk (fun x h=>h.us (by omega)) (by rw[htk2];exact⟨by rw[Hq (by omega),if_pos U],by rw[Gp hjo];simpa using h72⟩)),hnd,(by rw[snocT hkt,List.foldl_append,←hMF,htk2];exact congrArg (Prod.mk _) (setB_same (l:=os) (by rw[Gp hjo];simpa using h72)).symm)⟩
  rintro _ _⟨us2,os2,nd2,hq14,rfl,hul2,hol2,h2562,hur2,hmk2,hnd2,hMF2⟩
  refine Av _ hq14<|Al<|Aa (Bl (b:=((1:Nat):Int)) U U (N.add64 (by omega))) U<|Em U U<|Ek8 0 2 8 9 10 44 45 46 U ?_
  refine⟨_,?_,i+1,us2,os2,nd2,rfl,rfl,by omega,hul2,hol2,h2562,hur2,hmk2,hnd2,hMF2,rfl⟩;omega
 have hi2:i=tl.length:=by omega
 rw[hi2,List.take_of_length_le (show(tl.map tkOf).length≤tl.length by rw[List.length_map];exact Nat.le_refl _)]at hmk hMF
 have hc2:2≤us.count true:=count_two (i:=r) (j:=256) hr hur h256
 have hcl:us.count true≤286:=by rw[←hul];exact List.count_le_length
 have hcd:os.count true≤30:=by rw[←hol];exact List.count_le_length
 refine Bu U<|Cr<|Em U U<|Em U U<|An (v:=.slice (some ⟨ub,0,none⟩) us.length 286) (by rw[hul]) ?_
 refine Ai (OpX.pick [4,0] (F:=[_,_,_]) U (Ar U Tryz.call63 (lens_spec cb na nn nc hZ at1 (by omega) ub 0 286 us 15 (us.count true) (by omega) U hc2 (by show _≤32768;omega) (by decide) (by decide)))) U ?_;rintro _ _⟨_,⟨lb,ls,at2,rfl,hLO,hat2,hLD1,rfl⟩,rfl⟩;refine Er6 U ?_
 refine An (v:=.slice (some ⟨lb,0,none⟩) 286 286) (by rw[hul]) ?_
 have hLF:=LitF.of hLO
 have hlsl:ls.length=286:=hLO.len.trans hul
 have hl256:=hLF.used 256 h256
 refine Ds [0,0,1,1,1] (A:=[_,_,_,_,_]) U<|Ea U U<|Ek10 0 2 6 8 9 10 44 45 46 47 U<|Du (M:=fun ee ll=>∃(db:Nat),∃(dc:Nat),∃(dn:Nat),∃(dl:List Nat),∃(at3:Nat),keeps ee [0,2,6,7]=some [(0,.pointer (some ⟨wb,0,none⟩)),(2,.pointer (some ⟨cb,0,none⟩)),(6,.slice (some ⟨lb,0,none⟩) 286 286),(7,.slice (some ⟨db,0,none⟩) dn dc)]∧ll=[⟨lb,0,intsV ls⟩,⟨db,0,intsV dl⟩,f0,g0,⟨cb,0,[.slice na nn nc,.int .i64 (((at3):Nat):Int)]⟩]∧(DistF os dl)∧(dn=dl.length)∧(1≤dl.length)∧(dl.length≤30)∧(dl.length≤dc)∧(at3≤at_+2000)∧((os.count true=0∧dl=[0]∧at3=at2)∨(os.count true=1∧dl=ones os∧at3=at2)∨(2≤os.count true∧LensD K na nn os 15 at2 dl at3))) ?_ ?_
 ·refine Cr<|Em U U<|Ek11 0 2 6 8 9 10 44 45 46 47 82 U<|As<|Cr<|Aa (Ef (b:=((0:Nat):Int)) U U) U<|Ea U U<|Ek12 0 2 6 8 9 10 44 45 46 47 82 86 U<|Bf U (fun h86=>?_) (fun h86=>?_)
  ·have hnd0:os.count true=0:=by omega
   refine Al ?_
   refine Ai (Bn (vs:=[.int .i64 0]) (e:=3) [(0,.int .i64 0)] U (fun w=>by simp[Instr.buildSlice,Instr.fill,Value.cells,newRow,Tryz.runUnderlying23,Tryz.typeInfo3];rw[arr1])) U ?_;rintro _ _⟨db,rfl,rfl⟩;refine Er6 U ?_
   refine Ea U U<|Ds [1,0,2,2,0] (A:=[_,_,_,_,_]) U<|Ek13 0 2 6 7 8 9 10 44 45 46 47 82 86 U ?_
   exact⟨_,1,1,[0],at2,rfl,rfl,DistF.zero hnd0,rfl,by decide,by decide,Nat.le_refl _,by omega,(.inl ⟨hnd0,rfl,rfl⟩)⟩
  refine Cr<|Aa (Ef (b:=((1:Nat):Int)) U U) U<|Ea U U<|Ek13 0 2 6 8 9 10 44 45 46 47 82 86 89 U<|Bf U (fun h89=>?_) (fun h89=>?_)
  ·have hnd1:os.count true=1:=by omega
   refine Cr ?_
   refine Ai (Hx (l:=30) (c:=30) (bytes:=8) Tu23 infoI (z:=.int .i64 0) U U U U U U (Nat.le_refl _) (by decide) (by decide)) U ?_;rintro _ _⟨db,rfl,rfl⟩;refine Er6 U ?_
   refine Ea U U<|Ek14 0 2 6 7 8 9 10 44 45 46 47 82 86 89 U<|Cr<|Em U U<|Aa (Bc U Tu108) U<|Em U U<|Ek17 0 2 6 7 8 9 10 44 45 46 47 82 86 89 92 93 94 U<|As<|Bw (fun mm ee ll=>∃(i:Nat),keeps ee [0,2,6,7,92,93,94]=some [(0,.pointer (some ⟨wb,0,none⟩)),(2,.pointer (some ⟨cb,0,none⟩)),(6,.slice (some ⟨lb,0,none⟩) 286 286),(7,.slice (some ⟨db,0,none⟩) 30 30),(92,.slice (some ⟨ob,0,none⟩) 30 30),(93,.int .i64 ((30:Nat):Int)),(94,.int .i64 ((i:Nat):Int))]∧ll=[⟨db,0,intsV (onesI os i)⟩,⟨lb,0,intsV ls⟩,⟨cb,0,[.slice na nn nc,.int .i64 (((at2):Nat):Int)]⟩,⟨ob,0,boolsV (os)⟩,f0,g0]∧(i≤os.length)∧mm=os.length-i) (_) ⟨0,rfl,(by rw[onesI_zero,hol,ints_rep]),by omega,rfl⟩ ?_
   rintro m1 _ _⟨i,hk1,rfl,hi,hm1⟩
   refine Av _ hk1<|Cr<|Aa (Dl U U) U<|Ek8 0 2 6 7 92 93 94 95 U<|Am<|Bf U (fun h95=>?_) (fun h95=>?_)
   ·have hi2:i<os.length:=by omega
    refine Ap<|Du (M:=fun ee ll=>keeps ee [0,2,6,7,92,93,94]=some [(0,.pointer (some ⟨wb,0,none⟩)),(2,.pointer (some ⟨cb,0,none⟩)),(6,.slice (some ⟨lb,0,none⟩) 286 286),(7,.slice (some ⟨db,0,none⟩) 30 30),(92,.slice (some ⟨ob,0,none⟩) 30 30),(93,.int .i64 ((30:Nat):Int)),(94,.int .i64 ((i:Nat):Int))]∧ll=[⟨db,0,intsV (onesI os (i+1))⟩,⟨lb,0,intsV ls⟩,⟨cb,0,[.slice na nn nc,.int .i64 (((at2):Nat):Int)]⟩,⟨ob,0,boolsV (os)⟩,f0,g0]) ?_ ?_
    ·refine As<|Cr<|Em U U<|Aa (Bm U U (by omega) Tu108 Tz4) U<|Ag (Aj 3 (k:=i*1) U U (boolsV_get hi2) Ta4) U<|Ea U U<|Ea U U<|Ek10 0 2 6 7 14 15 92 93 94 95 U<|Cr<|Em U U<|Ek11 0 2 6 7 14 15 92 93 94 95 99 U<|Eg U (fun h99=>?_) (fun h99=>?_)
     ·refine Al<|Em U U<|Em U U<|Aa (Bm U U (by omega) Tu23 Tz3) U ?_
      refine Ao (Aq 0 (k:=i*1) U U U U (by rw[Nat.blt_eq,Db,onesI_len (by omega)];omega) Tz3) ?_
      rintro _ _⟨rfl,rfl⟩
      refine Ax (L2:=[⟨db,0,intsV ((onesI os i).set i 1)⟩,_,_,_,_,_]) (by show [(⟨db,0,(intsV (onesI os i)).set _ (.int .i64 ((1:Nat):Int))⟩:Frag),_,_,_,_,_]=_;rw[←List.append_nil (intsV (onesI os i)),ints_set [] (by rw[onesI_len (by omega)];omega),List.append_nil]) ?_
      refine Ek11 0 2 6 7 14 15 92 93 94 95 99 U ?_
      exact⟨rfl,(by rw[onesI_step hi2,if_pos h99])⟩
     refine Ap ?_
     exact⟨rfl,(by rw[onesI_step hi2,if_neg (by rw[h99];decide)])⟩
    rintro _ _⟨hq27,rfl⟩
    refine Av _ hq27<|Al<|Aa (Bl (b:=((1:Nat):Int)) U U (N.add64 (by omega))) U<|Em U U<|Ek7 0 2 6 7 92 93 94 U ?_
    refine⟨_,?_,i+1,rfl,rfl,by omega,rfl⟩;omega
   have hi2:i=os.length:=by omega
   subst hi2
   rw[onesI_full]
   refine C.forget [1,0,2,2,0] (A:=[_,_,_,_,_]) U<|Bu U ?_
   exact⟨_,30,30,ones os,at2,rfl,rfl,DistF.one hnd1,(by rw[ones_len,hol]),(by rw[ones_len,hol];decide),(by rw[ones_len,hol];decide),(by rw[ones_len,hol];decide),by omega,(.inr (.inl ⟨hnd1,rfl,rfl⟩))⟩
  have hnd2:2≤os.count true:=by omega
  refine Al<|Em U U<|Em U U<|An (v:=.slice (some ⟨ob,0,none⟩) os.length 30) (by rw[hol]) ?_
  refine Ai (OpX.pick [1,1] (F:=[_,_,_]) U (Ar U Tryz.call63 (lens_spec cb na nn nc hZ at2 (by omega) ob 0 30 os 15 (os.count true) (by omega) U hnd2 (by show _≤32768;omega) (by decide) (by decide)))) U ?_;rintro _ _⟨_,⟨db,dl2,at3,rfl,hLO2,hat3,hLD2,rfl⟩,rfl⟩;refine Er6 U ?_
  refine Ea U U<|Ds [3,0,2,2,0] (A:=[_,_,_,_,_]) U<|Ek14 0 2 6 7 8 9 10 44 45 46 47 82 86 89 U ?_
  exact⟨_,_,_,dl2,at3,rfl,rfl,DistF.many hLO2,hLO2.len.symm,(by rw[hLO2.len,hol];decide),(by rw[hLO2.len,hol];decide),(by rw[hLO2.len];exact Nat.le_refl _),by omega,(.inr (.inr ⟨hnd2,hLD2⟩))⟩
 rintro _ _⟨db,dc,dn,dl,at3,hq28,rfl,hDF,hdn,hdl1,hdl30,hdc,hat3,hDD⟩
 refine Av _ hq28<|Du (M:=fun ee ll=>∃(m:Nat),keeps ee [0,2,6,7]=some [(0,.pointer (some ⟨wb,0,none⟩)),(2,.pointer (some ⟨cb,0,none⟩)),(6,.slice (some ⟨lb,0,none⟩) m 286),(7,.slice (some ⟨db,0,none⟩) dn dc)]∧ll=[⟨lb,0,intsV ls⟩,⟨db,0,intsV dl⟩,f0,g0,⟨cb,0,[.slice na nn nc,.int .i64 (((at3):Nat):Int)]⟩]∧(257≤m)∧(m≤286)∧(∀k,m≤k→lenOf ls k=0)∧(m=257∨lenOf ls (m-1)≠0)) ?_ ?_
 ·refine As<|Bw (fun mm ee ll=>∃(m:Nat),keeps ee [0,2,6,7]=some [(0,.pointer (some ⟨wb,0,none⟩)),(2,.pointer (some ⟨cb,0,none⟩)),(6,.slice (some ⟨lb,0,none⟩) m 286),(7,.slice (some ⟨db,0,none⟩) dn dc)]∧ll=[⟨lb,0,intsV ls⟩,⟨db,0,intsV dl⟩,f0,g0,⟨cb,0,[.slice na nn nc,.int .i64 (((at3):Nat):Int)]⟩]∧(257≤m)∧(m≤286)∧(∀k,m≤k→lenOf ls k=0)∧mm=m) (_) ⟨286,rfl,rfl,by decide,Nat.le_refl _,(fun k hk=>lenOf_ge (by omega)),rfl⟩ ?_
  rintro m2 _ _⟨m,hk2,rfl,hmA,hmB,hmZ,hm2⟩
  refine Av _ hk2<|Am<|Cr<|Em U U<|Aa (Bc U Tu23) U<|Aa (Fh (b:=((257:Nat):Int)) U U) U<|Em U U<|Ek (fun g107=>?_) (fun g107=>?_)
  ·have hgt:257<m:=by omega
   refine Ak 107 U U<|Em U U<|Ak 107 U U<|Em U U<|Ak 107 U U<|Aa (Bc U Tu23) U<|Ak 107 U U<|Aa (Dr (b:=((1:Nat):Int)) U U (N.sub64 (by omega) (by omega))) U<|Ak 107 U U<|Aa (Bm U U (by omega) Tu23 Tz3) U<|Ak 107 U U<|Ag (Aj 0 (k:=(m-1)*1) U U (ints_get1 (by omega)) Ta3) U ?_
   refine Ak 107 U U<|Aa (Ef (b:=((0:Nat):Int)) U U) U<|Aa (Bz U U) U<|Ek5 0 2 6 7 115 U<|Bf U (fun h115=>?_) (fun h115=>?_)
   ·have hz0:ls[m-1]=0:=by omega
    refine Ap<|As<|Al<|Em U U<|Em U U<|Aa (Bc U Tu23) U<|Aa (Dr (b:=((1:Nat):Int)) U U (N.sub64 (by omega) (by omega))) U<|Aa (S.slH U U (by omega) Tu23 Tz3) U<|Ea U U<|Ek5 0 2 6 7 115 U ?_
    refine⟨_,?_,m-1,rfl,rfl,by omega,by omega,(fun k hk=>by rcases Nat.lt_or_ge k m with h|h;(rw[show k=m-1 by omega,Bp (by omega)];exact hz0);(exact hmZ k h)),rfl⟩;omega
   refine Bu U ?_
   exact⟨m,rfl,rfl,hmA,hmB,hmZ,(by first|exact .inl (by omega)|exact .inr (by rw[Bp (by omega)];omega))⟩
  refine Ae 107 false U U U U<|Ae 107 false U U U U<|Ae 107 false U U U U<|Ae 107 false U U U U<|Ae 107 false U U U U<|Ae 107 false U U U U<|Ae 107 false U U U U<|Aa (Bk U U) U<|Ek5 0 2 6 7 115 U<|C.no U (rfl)<|Bu U ?_
  exact⟨m,rfl,rfl,hmA,hmB,hmZ,(by first|exact .inl (by omega)|exact .inr (by rw[Bp (by omega)];omega))⟩
 rintro _ _⟨m,hq30,rfl,hmA,hmB,hmZ,hmT⟩
 refine Av _ hq30<|Du (M:=fun ee ll=>∃(md:Nat),keeps ee [0,2,6,7]=some [(0,.pointer (some ⟨wb,0,none⟩)),(2,.pointer (some ⟨cb,0,none⟩)),(6,.slice (some ⟨lb,0,none⟩) m 286),(7,.slice (some ⟨db,0,none⟩) md dc)]∧ll=[⟨lb,0,intsV ls⟩,⟨db,0,intsV dl⟩,f0,g0,⟨cb,0,[.slice na nn nc,.int .i64 (((at3):Nat):Int)]⟩]∧(1≤md)∧(md≤dl.length)∧(∀k,md≤k→lenOf dl k=0)∧(md=1∨lenOf dl (md-1)≠0)) ?_ ?_
 ·refine As<|Bw (fun mm ee ll=>∃(md:Nat),keeps ee [0,2,6,7]=some [(0,.pointer (some ⟨wb,0,none⟩)),(2,.pointer (some ⟨cb,0,none⟩)),(6,.slice (some ⟨lb,0,none⟩) m 286),(7,.slice (some ⟨db,0,none⟩) md dc)]∧ll=[⟨lb,0,intsV ls⟩,⟨db,0,intsV dl⟩,f0,g0,⟨cb,0,[.slice na nn nc,.int .i64 (((at3):Nat):Int)]⟩]∧(1≤md)∧(md≤dl.length)∧(∀k,md≤k→lenOf dl k=0)∧mm=md) (_) ⟨dn,rfl,rfl,by omega,by omega,(fun k hk=>lenOf_ge (by omega)),rfl⟩ ?_
  rintro m3 _ _⟨md,hk3,rfl,hda,hdb,hdz,hm3⟩
  refine Av _ hk3<|Am<|Cr<|Em U U<|Aa (Bc U Tu23) U<|Aa (Fh (b:=((1:Nat):Int)) U U) U<|Em U U<|Ek (fun g124=>?_) (fun g124=>?_)
  ·have hgt:1<md:=by omega
   refine Ak 124 U U<|Em U U<|Ak 124 U U<|Em U U<|Ak 124 U U<|Aa (Bc U Tu23) U<|Ak 124 U U<|Aa (Dr (b:=((1:Nat):Int)) U U (N.sub64 (by omega) (by omega))) U<|Ak 124 U U<|Aa (Bm U U (by omega) Tu23 Tz3) U<|Ak 124 U U<|Ag (Aj 1 (k:=(md-1)*1) U U (ints_get1 (by omega)) Ta3) U ?_
   refine Ak 124 U U<|Aa (Ef (b:=((0:Nat):Int)) U U) U<|Aa (Bz U U) U<|Ek5 0 2 6 7 132 U<|Bf U (fun h132=>?_) (fun h132=>?_)
   ·have hz0:dl[md-1]=0:=by omega
    refine Ap<|As<|Al<|Em U U<|Em U U<|Aa (Bc U Tu23) U<|Aa (Dr (b:=((1:Nat):Int)) U U (N.sub64 (by omega) (by omega))) U<|Aa (S.slH U U (by omega) Tu23 Tz3) U<|Ea U U<|Ek5 0 2 6 7 132 U ?_
    refine⟨_,?_,md-1,rfl,rfl,by omega,by omega,(fun k hk=>by rcases Nat.lt_or_ge k md with h|h;(rw[show k=md-1 by omega,Bp (by omega)];exact hz0);(exact hdz k h)),rfl⟩;omega
   refine Bu U ?_
   exact⟨md,rfl,rfl,hda,hdb,hdz,(by first|exact .inl (by omega)|exact .inr (by rw[Bp (by omega)];omega))⟩
  refine Ae 124 false U U U U<|Ae 124 false U U U U<|Ae 124 false U U U U<|Ae 124 false U U U U<|Ae 124 false U U U U<|Ae 124 false U U U U<|Ae 124 false U U U U<|Aa (Bk U U) U<|Ek5 0 2 6 7 132 U<|C.no U (rfl)<|Bu U ?_
  exact⟨md,rfl,rfl,hda,hdb,hdz,(by first|exact .inl (by omega)|exact .inr (by rw[Bp (by omega)];omega))⟩
 rintro _ _⟨md,hq32,rfl,hda,hdb,hdz,hdT⟩
 refine Av _ hq32 ?_
 obtain⟨lit,hlit⟩:∃x,x=ls.take m:=⟨_,rfl⟩
 obtain⟨dist,hdist⟩:∃x,x=dl.take md:=⟨_,rfl⟩
 obtain⟨l2,hl2⟩:∃x,x=intsV (ls.drop m):=⟨_,rfl⟩
 obtain⟨d2,hd2⟩:∃x,x=intsV (dl.drop md):=⟨_,rfl⟩
 have hLF2:LitF us lit:=hlit▸hLF.trim hmZ
 have hDF2:DistF os dist:=hdist▸hDF.trim hdz
 have hml:m=lit.length:=by rw[hlit,List.length_take];omega
 have hmdl:md=dist.length:=by rw[hdist,List.length_take];omega
 have hl256b:0<lenOf lit 256:=by rw[hlit,lenOf_take hmZ];exact hl256
 refine Bx (L2:=[⟨lb,0,intsV lit++l2⟩,⟨db,0,intsV dist++d2⟩,f0,g0,⟨cb,0,[.slice na nn nc,.int .i64 (((at3):Nat):Int)]⟩]) (by rw[hlit,hdist,hl2,hd2,←intsV_append,←intsV_append,List.take_append_drop,List.take_append_drop])<|Du (M:=fun ee ll=>∃(ab:Nat),∃(ao:Nat),∃(ac:Nat),∃(acs:List Value),∃(all:List Nat),keeps ee [0,2,6,7,16]=some [(0,.pointer (some ⟨wb,0,none⟩)),(2,.pointer (some ⟨cb,0,none⟩)),(6,.slice (some ⟨lb,0,none⟩) m 286),(7,.slice (some ⟨db,0,none⟩) md dc),(16,.slice (some ⟨ab,ao,none⟩) all.length ac)]∧ll=[⟨ab,ao,intsV all++acs⟩,⟨lb,0,intsV lit++l2⟩,⟨db,0,intsV dist++d2⟩,f0,g0,⟨cb,0,[.slice na nn nc,.int .i64 (((at3):Nat):Int)]⟩]∧(all=lit++dist)∧(all.length+acs.length=ac)∧(ac≤9223372036854775807)) ?_ ?_
 ·refine Al<|Em U U ?_
  refine Ai (Fu (L:=[⟨lb,0,intsV lit++l2⟩,⟨db,0,intsV dist++d2⟩,f0,g0,⟨cb,0,[.slice na nn nc,.int .i64 (((at3):Nat):Int)]⟩]) (xs:=[]) (ys:=lit) (Lf:=[]) U U (Sl.nil 1) hml (.inr ⟨lb,0,rfl,Reads.mem (k:=0) (.head _) (by rw[List.drop_zero];exact List.take_left' rfl)⟩) (by simp only[List.length_nil];omega)) U ?_
  rintro v32 _⟨LfA,hslA,rfl⟩
  rw[List.nil_append]at hslA
  obtain⟨ab1,ao1,ac1,acs1,rfl,rfl,hac1,hacm1⟩:=hslA.ints1 (by omega)
  refine Er6 U<|Em U U ?_
  refine Ai (Fu (L:=[⟨lb,0,intsV lit++l2⟩,⟨db,0,intsV dist++d2⟩,f0,g0,⟨cb,0,[.slice na nn nc,.int .i64 (((at3):Nat):Int)]⟩]) (xs:=lit) (ys:=dist) (Lf:=[⟨ab1,ao1,intsV lit++acs1⟩]) U U (Sl.mkI U hac1 hacm1) hmdl (.inr ⟨db,0,rfl,Reads.mem (k:=0) (.tail _ (.tail _ (.head _))) (by rw[List.drop_zero];exact List.take_left' rfl)⟩) (by omega)) U ?_
  rintro v33 _⟨LfB,hslB,rfl⟩
  obtain⟨ab,ao,ac,acs,rfl,rfl,hac,hacm⟩:=hslB.ints1 (by rw[List.length_append];omega)
  refine Er6 U<|Ea U U<|Ek5 0 2 6 7 16 U ?_
  exact⟨_,_,_,_,lit++dist,rfl,rfl,rfl,hac,hacm⟩
 rintro _ _⟨ab,ao,ac,acs,all,hq33,rfl,hall,hac,hacm⟩
 refine Av _ hq33 ?_
 have hal:all.length=m+md:=by rw[hall,List.length_append];omega
 have hall15:∀x∈all,x≤15:=by
   rw[hall];intro x hx
   rcases List.mem_append.1 hx with h|h
   · exact hLF2.top x h
   · exact hDF2.top x h
 refine Cr<|Ea U U<|Ek6 0 2 6 7 16 17 U<|Am<|Cr<|Ea U U<|Ek7 0 2 6 7 16 17 18 U<|As<|Bw (fun mm ee ll=>∃(i:Nat),∃(tl2:List (Nat×Nat)),∃(tv2:Value),∃(Lf:Frags),∃(at4:Nat),keeps ee [0,2,6,7,16,17,18]=some [(0,.pointer (some ⟨wb,0,none⟩)),(2,.pointer (some ⟨cb,0,none⟩)),(6,.slice (some ⟨lb,0,none⟩) m 286),(7,.slice (some ⟨db,0,none⟩) md dc),(16,.slice (some ⟨ab,ao,none⟩) all.length ac),(17,tv2),(18,.int .i64 ((i:Nat):Int))]∧ll=[⟨ab,ao,intsV all++acs⟩,⟨lb,0,intsV lit++l2⟩,⟨db,0,intsV dist++d2⟩,f0,g0,⟨cb,0,[.slice na nn nc,.int .i64 (((at4):Nat):Int)]⟩]++Lf∧(i≤all.length)∧(ToldI all i tl2)∧(Sl 2 tv2 tl2.length (toldV tl2) Lf)∧(tl2.length≤i)∧(at4≤at3+8*i)∧(Star (ToldS K na nn all) (0,[],at3) (i,tl2,at4))∧mm=all.length-i) (_) ⟨0,[],.slice none 0 0,[],at3,rfl,rfl,Nat.zero_le _,ToldI.start all,Sl.nil 2,Nat.le_refl _,by omega,Star.refl _,rfl⟩ ?_
 rintro m4 _ _⟨i,tl2,tv2,Lf,at4,hk4,rfl,hi,hTI,hsl,htl2,hat4,hTS,hm4⟩
 refine Av _ hk4<|Am<|Cr<|Em U U<|Em U U<|Aa (Bc U Tu23) U<|Aa (Dl U U) U<|Ek8 0 2 6 7 16 17 18 145 U<|Bf U (fun h145=>?_) (fun h145=>?_)
 ·have hi2:i<all.length:=by omega
  have hx15:=hall15 _ (List.getElem_mem hi2)
  have hli:=Bp hi2
  refine Ap<|As<|Cr<|Ea U U<|Ek9 0 2 6 7 16 17 18 19 145 U<|Du (M:=fun ee ll=>∃(run:Nat),keeps ee [0,2,6,7,16,17,18,19]=some [(0,.pointer (some ⟨wb,0,none⟩)),(2,.pointer (some ⟨cb,0,none⟩)),(6,.slice (some ⟨lb,0,none⟩) m 286),(7,.slice (some ⟨db,0,none⟩) md dc),(16,.slice (some ⟨ab,ao,none⟩) all.length ac),(17,tv2),(18,.int .i64 ((i:Nat):Int)),(19,.int .i64 ((run:Nat):Int))]∧ll=[⟨ab,ao,intsV all++acs⟩,⟨lb,0,intsV lit++l2⟩,⟨db,0,intsV dist++d2⟩,f0,g0,⟨cb,0,[.slice na nn nc,.int .i64 (((at4):Nat):Int)]⟩]++Lf∧(1≤run)∧(i+run≤all.length)∧(∀k,k<run→lenOf all (i+k)=lenOf all i)∧(i+run=all.length∨lenOf all (i+run)≠lenOf all i)) ?_ ?_
  ·refine As ?_
   refine Bw (fun mm ee ll=>∃(run:Nat),keeps ee [0,2,6,7,16,17,18,19]=some [(0,.pointer (some ⟨wb,0,none⟩)),(2,.pointer (some ⟨cb,0,none⟩)),(6,.slice (some ⟨lb,0,none⟩) m 286),(7,.slice (some ⟨db,0,none⟩) md dc),(16,.slice (some ⟨ab,ao,none⟩) all.length ac),(17,tv2),(18,.int .i64 ((i:Nat):Int)),(19,.int .i64 ((run:Nat):Int))]∧ll=[⟨ab,ao,intsV all++acs⟩,⟨lb,0,intsV lit++l2⟩,⟨db,0,intsV dist++d2⟩,f0,g0,⟨cb,0,[.slice na nn nc,.int .i64 (((at4):Nat):Int)]⟩]++Lf∧(1≤run)∧(i+run≤all.length)∧(∀k,k<run→lenOf all (i+k)=lenOf all i)∧mm=all.length-run) (_) ⟨1,rfl,rfl,Nat.le_refl _,by omega,(fun k hk=>by rw[show k=0 by omega];rfl),rfl⟩ ?_
   rintro m5 _ _⟨run,hk5,rfl,hr1,hr2,hrun,hm5⟩
   refine Av _ hk5<|Am<|Am<|Bt [0,0,3,0,8,20,32,64,64,64,832,1216,2112,64,64,24640,32832,69696,131136] (.pure 0 26 (.pure 1 25 (.pure 2 27 (.pure 3 7 (.pure 4 15 (.pure 5 31 (.pure 6 63 (.pure 7 124799 (.pure 8 123647 (.pure 9 123391 (.pure 10 123903 (.pure 11 124927 (.pure 13 24575 (.pure 14 16383 (.pure 15 32767 (.seg [(12,126975),(16,65535),(17,131071),(18,262143)] .done)))))))))))))))) mixed (by decide+kernel)<|Dm U U U<|Dm U U U<|Ah U (Bl U U (N.add64 (by omega))) U<|Dm U U U<|Ah U (Bc U Tu23) U<|Ah U (Dl U U) U<|Dm U U U<|D.fork (fun g152=>?_) (fun g152=>?_)
   ·have hlt3:i+run<all.length:=by omega
    refine Gq 152 U U U (OpP.toK (Fp U)) U<|Gq 152 U U U (OpP.toK (Fp U)) U<|Gq 152 U U U (OpP.toK (Fp U)) U<|Gq 152 U U U (OpP.toK (Bl U U (N.add64 (by omega)))) U<|Gq 152 U U U (OpP.toK (Bm U U (by omega) Tu23 Tz3)) U<|Gq 152 U U U (OpP.toK (Fp U)) U<|Gq 152 U U U (OpP.toK (Fp U)) U<|Gq 152 U U U (OpP.toK (Bm U U (by omega) Tu23 Tz3)) U<|Dc (by decide)<|W.yes 152 U U U (Aj 0 (k:=(i+run)*1) U U (Ej hlt3) Ta3) U<|W.yes 152 U U U (Aj 0 (k:=i*1) U U (Ej hi2) Ta3) U<|W.yes 152 U U U (fun a w hf _=>(Ef U U) a w hf) U ?_
    refine Ba U (Bz U U) U<|Da<|Dk9 0 2 6 7 16 17 18 19 164 U<|Bf U (fun h164=>?_) (fun h164=>?_)
    ·have heq3:all[i+run]=all[i]:=by omega
     refine Ap<|As<|Al<|Em U U<|Aa (Bl (b:=((1:Nat):Int)) U U (N.add64 (by omega))) U<|Ea U U<|Ek9 0 2 6 7 16 17 18 19 164 U ?_
     refine⟨_,?_,run+1,rfl,rfl,by omega,by omega,(fun k hk=>by rcases Nat.lt_or_ge k run with h|h;(exact hrun k h);(rw[show k=run by omega,Bp hlt3,hli];exact heq3)),rfl⟩;omega
    refine Bu U ?_
    exact⟨run,rfl,rfl,hr1,hr2,hrun,(by first|exact .inl (by omega)|exact .inr (by rw[Bp (by omega),hli];omega))⟩
   refine Fb 152 false U U U U U<|Fb 152 false U U U U U<|Fb 152 false U U U U U<|Fb 152 false U U U U U<|Fb 152 false U U U U U<|Fb 152 false U U U U U<|Fb 152 false U U U U U<|Fb 152 false U U U U U<|Dc (by decide)<|Hz 152 false U U U U U<|Hz 152 false U U U U U<|Hz 152 false U U U U U ?_
   refine Ba U (Bk U U) U<|Da<|Dk9 0 2 6 7 16 17 18 19 164 U<|C.no U (rfl)<|Bu U ?_
   exact⟨run,rfl,rfl,hr1,hr2,hrun,(by first|exact .inl (by omega)|exact .inr (by rw[Bp (by omega),hli];omega))⟩
  rintro _ _⟨run,hq41,rfl,hr1,hr2,hrun,hrT⟩
  refine Av _ hq41<|As<|Du (M:=fun ee ll=>∃(q:Bool),∃(at5:Nat),keeps ee [0,2,6,7,16,17,18,19,177]=some [(0,.pointer (some ⟨wb,0,none⟩)),(2,.pointer (some ⟨cb,0,none⟩)),(6,.slice (some ⟨lb,0,none⟩) m 286),(7,.slice (some ⟨db,0,none⟩) md dc),(16,.slice (some ⟨ab,ao,none⟩) all.length ac),(17,tv2),(18,.int .i64 ((i:Nat):Int)),(19,.int .i64 ((run:Nat):Int)),(177,.bool q)]∧ll=[⟨ab,ao,intsV all++acs⟩,⟨lb,0,intsV lit++l2⟩,⟨db,0,intsV dist++d2⟩,f0,g0,⟨cb,0,[.slice na nn nc,.int .i64 (((at5):Nat):Int)]⟩]++Lf∧(q=true→lenOf all i=0∧11≤run)∧(at5≤at4+1)∧(CondN K na nn (lenOf all i=0∧11≤run) at4 q at5)) ?_ ?_
  ·refine Al<|Em U U<|Em U U<|Aa (Bm U U (by omega) Tu23 Tz3) U<|Ag (Aj 0 (k:=i*1) U U (Ej hi2) Ta3) U<|Aa (Ef (b:=((0:Nat):Int)) U U) U<|Em U U<|Ek (fun g183=>?_) (fun g183=>?_)
   ·have hz1:all[i]=0:=by omega
    refine Ak 183 U U<|Em U U<|Ak 183 U U<|Aa (S.ge (b:=((11:Nat):Int)) U U) U<|Aa (Bz U U) U<|Em U U<|Ek (fun g187=>?_) (fun g187=>?_)
    ·have hr11:11≤run:=by omega
     refine Ak 187 U U<|Em U U<|Ak 187 U U ?_
     refine Ai (OpX.pick [5] (F:=(_::_::_::_::_::_)) U (Ar U Tryz.call62 (Ho cb na nn nc hZ (at4) (2) (by omega) (by omega) (by omega)))) U ?_;rintro _ _⟨_,⟨q5,at5,rfl,hq5,hat5,hNat5,rfl⟩,rfl⟩;refine Et7 U ?_
     refine Dd [1,1,1,1,1,0] U<|Et7 U<|Ak 187 U U<|Aa (Ef (b:=((0:Nat):Int)) U U) U<|Aa (Bz U U) U<|Ea U U<|Ek9 0 2 6 7 16 17 18 19 177 U ?_
     exact⟨_,at5,rfl,rfl,(fun _=>⟨by rw[hli];exact hz1,hr11⟩),by omega,(.inl ⟨⟨by rw[hli];exact hz1,hr11⟩,q5,hNat5,⟨fun h=>by have:=of_decide_eq_true h;omega,fun h=>decide_eq_true (by omega)⟩⟩)⟩
    refine Ae 187 false U U U U<|Ae 187 false U U U U<|Ae 187 false U U U U<|Aa (Bk U U) U<|Ea U U<|Ek9 0 2 6 7 16 17 18 19 177 U ?_
    exact⟨_,at4,rfl,rfl,(fun h=>by cases h),by omega,(.inr ⟨fun h=>by rw[hli]at h;omega,rfl,rfl⟩)⟩
   refine Ae 183 false U U U U<|Ae 183 false U U U U<|Aa (Bk U U) U<|Em U U<|Ae 187 false U U U U<|Ae 187 false U U U U<|Ae 187 false U U U U<|Aa (Bk U U) U<|Ea U U<|Ek9 0 2 6 7 16 17 18 19 177 U ?_
   exact⟨_,at4,rfl,rfl,(fun h=>by cases h),by omega,(.inr ⟨fun h=>by rw[hli]at h;omega,rfl,rfl⟩)⟩
  rintro _ _⟨q,at5,hq42,rfl,hq,hat5,hC1⟩
  refine Av _ hq42<|Eg U (fun h177=>?_) (fun h177=>?_)
  ·have hq1:=hq h177
   have hRR:RunR all i run:=⟨hr1,hr2,hrun,hrT⟩
   refine Cr<|Em U U<|Em U U<|Aa (S.min2 U U) U<|An (v:=.int .i64 ((min run 138:Nat):Int)) (congrArg (Value.int .i64) (by omega))<|Aa (Dr (b:=((10:Nat):Int)) U U (N.sub64 (by omega) (by omega))) U ?_
   refine Ai (OpX.pick [5] (F:=(_::_::_::_::_::_)) U (Ar U Tryz.call62 (Ho cb na nn nc hZ (at5) (min run 138-10) (by omega) (by omega) (by omega)))) U ?_;rintro _ _⟨_,⟨q6,at6,rfl,hq6,hat6,hNat6,rfl⟩,rfl⟩;refine Et7 U ?_
   refine Dd [1,1,1,1,1,0] U<|Et7 U<|Aa (Bl (a:=((11:Nat):Int)) U U (N.add64 (by omega))) U<|Ea U U<|Ek10 0 2 6 7 16 17 18 19 20 177 U<|Cr<|Em U U<|Em U U<|Aa (Dr (b:=((11:Nat):Int)) U U (N.sub64 (by omega) (by omega))) U<|Aa (Et (v:=.agg #[.int .i64 18,.int .i64 (((11+q6)-11:Nat):Int)]) [(0,.int .i64 18),(1,.int .i64 (((11+q6)-11:Nat):Int))] U (fun w=>by simp[Instr.build,Instr.fill,Value.cells,Tryz.zeroValue147])) U<|Ai (Bn (vs:=[.int .i64 18,.int .i64 (((11+q6)-11:Nat):Int)]) (e:=147) [(0,.agg #[.int .i64 18,.int .i64 (((11+q6)-11:Nat):Int)])] U (pairRun _ _)) U ?_
   rintro _ _⟨yb,rfl,rfl⟩
   refine Ev (L2:=Lf++([⟨yb,0,[.int .i64 18,.int .i64 (((11+q6)-11:Nat):Int)]⟩,⟨ab,ao,intsV all++acs⟩,⟨lb,0,intsV lit++l2⟩,⟨db,0,intsV dist++d2⟩,f0,g0,⟨cb,0,[.slice na nn nc,.int .i64 (((at6):Nat):Int)]⟩])) (Same.perm (permF fun x=>by simp only[List.append_eq,List.count_append,List.count_cons,List.count_nil];omega)) ?_
   refine Ai (Hm (P:=Tryz.prog) (s:=2) (bytes:=16) (t:=146) (xs:=toldV tl2) (ys:=[.int .i64 18,.int .i64 (((11+q6)-11:Nat):Int)]) (Lf:=Lf) Tu146 infoP2 U U U U (by decide) U U hsl U (.inr ⟨yb,0,rfl,Reads.mem (k:=0) (List.mem_append_right _ (.head _)) U⟩) U (by omega) (by omega)) U ?_
   rintro v4 _⟨Lf2,hsl2,rfl⟩
   refine Gk (A:=[⟨ab,ao,intsV all++acs⟩,⟨lb,0,intsV lit++l2⟩,⟨db,0,intsV dist++d2⟩,f0,g0,⟨cb,0,[.slice na nn nc,.int .i64 (((at6):Nat):Int)]⟩]++Lf2) (F:=[⟨yb,0,[.int .i64 18,.int .i64 (((11+q6)-11:Nat):Int)]⟩]) (Same.perm (permF fun x=>by simp only[List.append_eq,List.count_append,List.count_cons,List.count_nil];omega)) ?_
   refine Ax (L2:=_::_::_::_::_::_::Lf2) U<|Ea U U<|Ek10 0 2 6 7 16 17 18 19 20 177 U<|Al<|Em U U<|Em U U<|Aa (Bl U U (N.add64 (by omega))) U<|Ea U U<|Ek10 0 2 6 7 16 17 18 19 20 177 U ?_
   refine⟨_,?_,i+(11+q6),tl2++[(18,(11+q6)-11)],_,_,at6,rfl,rfl,by omega,(hTI.rep (a:=18) (n:=(11+q6)) (v:=0) (by omega) (by show 11≤_;omega) (by show 11+q6-11<128;omega) (by omega) (fun k hk=>by rw[hrun k (by omega),hq1.1]) (fun h=>by omega) (fun _=>rfl)),(by rw[toldV_append,List.length_append];exact hsl2),(by rw[List.length_append,List.length_singleton];omega),by omega,(hTS.snoc ⟨hi2,run,true,at5,hRR,h177▸hC1,.inl ⟨rfl,q6,hNat6,rfl,rfl⟩⟩),rfl⟩;omega
  have hC1f:CondN K na nn (lenOf all i=0∧11≤run) at4 false at5:=by have e:q=false:=(by simpa using h177);rw[e]at hC1;exact hC1
  refine Du (M:=fun ee ll=>∃(q:Bool),∃(at5:Nat),keeps ee [0,2,6,7,16,17,18,19,207]=some [(0,.pointer (some ⟨wb,0,none⟩)),(2,.pointer (some ⟨cb,0,none⟩)),(6,.slice (some ⟨lb,0,none⟩) m 286),(7,.slice (some ⟨db,0,none⟩) md dc),(16,.slice (some ⟨ab,ao,none⟩) all.length ac),(17,tv2),(18,.int .i64 ((i:Nat):Int)),(19,.int .i64 ((run:Nat):Int)),(207,.bool q)]∧ll=[⟨ab,ao,intsV all++acs⟩,⟨lb,0,intsV lit++l2⟩,⟨db,0,intsV dist++d2⟩,f0,g0,⟨cb,0,[.slice na nn nc,.int .i64 (((at5):Nat):Int)]⟩]++Lf∧(q=true→lenOf all i=0∧3≤run)∧(at5≤at4+2)∧(∃a1,CondN K na nn (lenOf all i=0∧11≤run) at4 false a1∧CondN K na nn (lenOf all i=0∧3≤run) a1 q at5)) ?_ ?_
  ·refine Al<|Em U U<|Em U U<|Aa (Bm U U (by omega) Tu23 Tz3) U<|Ag (Aj 0 (k:=i*1) U U (Ej hi2) Ta3) U<|Aa (Ef (b:=((0:Nat):Int)) U U) U<|Em U U<|Ek (fun g213=>?_) (fun g213=>?_)
   ·have hz2:all[i]=0:=by omega
    refine Ak 213 U U<|Em U U<|Ak 213 U U<|Aa (S.ge (b:=((3:Nat):Int)) U U) U<|Aa (Bz U U) U<|Em U U<|Ek (fun g217=>?_) (fun g217=>?_)
    ·have hr3:3≤run:=by omega
     refine Ak 217 U U<|Em U U<|Ak 217 U U ?_
     refine Ai (OpX.pick [5] (F:=(_::_::_::_::_::_)) U (Ar U Tryz.call62 (Ho cb na nn nc hZ (at5) (2) (by omega) (by omega) (by omega)))) U ?_;rintro _ _⟨_,⟨q7,at7,rfl,hq7,hat7,hNat7,rfl⟩,rfl⟩;refine Et7 U ?_
     refine Dd [1,1,1,1,1,0] U<|Et7 U<|Ak 217 U U<|Aa (Ef (b:=((0:Nat):Int)) U U) U<|Aa (Bz U U) U<|Ea U U<|Ek10 0 2 6 7 16 17 18 19 177 207 U ?_
     exact⟨_,at7,rfl,rfl,(fun _=>⟨by rw[hli];exact hz2,hr3⟩),by omega,⟨at5,hC1f,.inl ⟨⟨by rw[hli];exact hz2,hr3⟩,q7,hNat7,⟨fun h=>by have:=of_decide_eq_true h;omega,fun h=>decide_eq_true (by omega)⟩⟩⟩⟩
    refine Ae 217 false U U U U<|Ae 217 false U U U U<|Ae 217 false U U U U<|Aa (Bk U U) U<|Ea U U<|Ek10 0 2 6 7 16 17 18 19 177 207 U ?_
    exact⟨_,at5,rfl,rfl,(fun h=>by cases h),by omega,⟨at5,hC1f,.inr ⟨fun h=>by rw[hli]at h;omega,rfl,rfl⟩⟩⟩
   refine Ae 213 false U U U U<|Ae 213 false U U U U<|Aa (Bk U U) U<|Em U U<|Ae 217 false U U U U<|Ae 217 false U U U U<|Ae 217 false U U U U<|Aa (Bk U U) U<|Ea U U<|Ek10 0 2 6 7 16 17 18 19 177 207 U ?_
   exact⟨_,at5,rfl,rfl,(fun h=>by cases h),by omega,⟨at5,hC1f,.inr ⟨fun h=>by rw[hli]at h;omega,rfl,rfl⟩⟩⟩
  rintro _ _⟨q,at5,hq46,rfl,hq,hat5,hC2⟩
  refine Av _ hq46<|Eg U (fun h207=>?_) (fun h207=>?_)
  ·have hq1:=hq h207
   have hRR:RunR all i run:=⟨hr1,hr2,hrun,hrT⟩
   refine Cr<|Em U U<|Em U U<|Aa (S.min2 U U) U<|An (v:=.int .i64 ((min run 10:Nat):Int)) (congrArg (Value.int .i64) (by omega))<|Aa (Dr (b:=((2:Nat):Int)) U U (N.sub64 (by omega) (by omega))) U ?_
   refine Ai (OpX.pick [5] (F:=(_::_::_::_::_::_)) U (Ar U Tryz.call62 (Ho cb na nn nc hZ (at5) (min run 10-2) (by omega) (by omega) (by omega)))) U ?_;rintro _ _⟨_,⟨q6,at6,rfl,hq6,hat6,hNat6,rfl⟩,rfl⟩;refine Et7 U ?_
   refine Dd [1,1,1,1,1,0] U<|Et7 U<|Aa (Bl (a:=((3:Nat):Int)) U U (N.add64 (by omega))) U<|Ea U U<|Ek10 0 2 6 7 16 17 18 19 21 207 U<|Cr<|Em U U<|Em U U<|Aa (Dr (b:=((3:Nat):Int)) U U (N.sub64 (by omega) (by omega))) U<|Aa (Et (v:=.agg #[.int .i64 17,.int .i64 (((3+q6)-3:Nat):Int)]) [(0,.int .i64 17),(1,.int .i64 (((3+q6)-3:Nat):Int))] U (fun w=>by simp[Instr.build,Instr.fill,Value.cells,Tryz.zeroValue147])) U<|Ai (Bn (vs:=[.int .i64 17,.int .i64 (((3+q6)-3:Nat):Int)]) (e:=147) [(0,.agg #[.int .i64 17,.int .i64 (((3+q6)-3:Nat):Int)])] U (pairRun _ _)) U ?_
   rintro _ _⟨yb,rfl,rfl⟩
   refine Ev (L2:=Lf++([⟨yb,0,[.int .i64 17,.int .i64 (((3+q6)-3:Nat):Int)]⟩,⟨ab,ao,intsV all++acs⟩,⟨lb,0,intsV lit++l2⟩,⟨db,0,intsV dist++d2⟩,f0,g0,⟨cb,0,[.slice na nn nc,.int .i64 (((at6):Nat):Int)]⟩])) (Same.perm (permF fun x=>by simp only[List.append_eq,List.count_append,List.count_cons,List.count_nil];omega)) ?_
   refine Ai (Hm (P:=Tryz.prog) (s:=2) (bytes:=16) (t:=146) (xs:=toldV tl2) (ys:=[.int .i64 17,.int .i64 (((3+q6)-3:Nat):Int)]) (Lf:=Lf) Tu146 infoP2 U U U U (by decide) U U hsl U (.inr ⟨yb,0,rfl,Reads.mem (k:=0) (List.mem_append_right _ (.head _)) U⟩) U (by omega) (by omega)) U ?_
   rintro v4 _⟨Lf2,hsl2,rfl⟩
   refine Gk (A:=[⟨ab,ao,intsV all++acs⟩,⟨lb,0,intsV lit++l2⟩,⟨db,0,intsV dist++d2⟩,f0,g0,⟨cb,0,[.slice na nn nc,.int .i64 (((at6):Nat):Int)]⟩]++Lf2) (F:=[⟨yb,0,[.int .i64 17,.int .i64 (((3+q6)-3:Nat):Int)]⟩]) (Same.perm (permF fun x=>by simp only[List.append_eq,List.count_append,List.count_cons,List.count_nil];omega)) ?_
   refine Ax (L2:=_::_::_::_::_::_::Lf2) U<|Ea U U<|Ek10 0 2 6 7 16 17 18 19 21 207 U<|Al<|Em U U<|Em U U<|Aa (Bl U U (N.add64 (by omega))) U<|Ea U U<|Ek10 0 2 6 7 16 17 18 19 21 207 U ?_
   refine⟨_,?_,i+(3+q6),tl2++[(17,(3+q6)-3)],_,_,at6,rfl,rfl,by omega,(hTI.rep (a:=17) (n:=(3+q6)) (v:=0) (by omega) (by show 3≤_;omega) (by show 3+q6-3<8;omega) (by omega) (fun k hk=>by rw[hrun k (by omega),hq1.1]) (fun h=>by omega) (fun _=>rfl)),(by rw[toldV_append,List.length_append];exact hsl2),(by rw[List.length_append,List.length_singleton];omega),by omega,(hC2.elim fun a1 hx=>hTS.snoc ⟨hi2,run,false,a1,hRR,hx.1,.inr ⟨rfl,true,at5,h207▸hx.2,.inl ⟨rfl,q6,hNat6,rfl,rfl⟩⟩⟩),rfl⟩;omega
  have hC2f:∃a1,CondN K na nn (lenOf all i=0∧11≤run) at4 false a1∧CondN K na nn (lenOf all i=0∧3≤run) a1 false at5:=by have e:q=false:=(by simpa using h207);rw[e]at hC2;exact hC2
  refine Du (M:=fun ee ll=>∃(q:Bool),∃(at5:Nat),keeps ee [0,2,6,7,16,17,18,19,237]=some [(0,.pointer (some ⟨wb,0,none⟩)),(2,.pointer (some ⟨cb,0,none⟩)),(6,.slice (some ⟨lb,0,none⟩) m 286),(7,.slice (some ⟨db,0,none⟩) md dc),(16,.slice (some ⟨ab,ao,none⟩) all.length ac),(17,tv2),(18,.int .i64 ((i:Nat):Int)),(19,.int .i64 ((run:Nat):Int)),(237,.bool q)]∧ll=[⟨ab,ao,intsV all++acs⟩,⟨lb,0,intsV lit++l2⟩,⟨db,0,intsV dist++d2⟩,f0,g0,⟨cb,0,[.slice na nn nc,.int .i64 (((at5):Nat):Int)]⟩]++Lf∧(q=true→0<i∧lenOf all i=lenOf all (i-1)∧3≤run)∧(at5≤at4+3)∧(∃a1 a2,CondN K na nn (lenOf all i=0∧11≤run) at4 false a1∧CondN K na nn (lenOf all i=0∧3≤run) a1 false a2∧CondN K na nn (0<i∧lenOf all i=lenOf all (i-1)∧3≤run) a2 q at5)) ?_ ?_
  ·refine Bt [0,1,2,4,4,28,36,4,4,260,644,1028,2116,4100,8196,16384,49152,81920,147456,262144,786432,1310720,2359296,5242880] (.pure 0 0 (.pure 1 1 (.pure 2 3 (.pure 3 3991 (.pure 4 3983 (.pure 5 3999 (.pure 7 895 (.pure 8 255 (.pure 9 511 (.pure 10 1023 (.seg [(6,4031),(11,2047),(12,4095),(13,8191),(14,16383),(15,32767),(16,65535),(17,131071),(18,262143),(19,524287)] (.alt 20 (.pure 21 2097151 (.pure 22 4194303 (.pure 23 8388607 .done))) .stop)))))))))))) mixed (by decide+kernel)<|Dm U U U<|Ah U (Fh (b:=((0:Nat):Int)) U U) U<|Dm U U U<|D.fork (fun g240=>?_) (fun g240=>?_)
   ·have hi0:0<i:=by omega
    refine Gq 240 U U U (OpP.toK (Fp U)) U<|Gq 240 U U U (OpP.toK (Fp U)) U<|Gq 240 U U U (OpP.toK (Bm U U (by omega) Tu23 Tz3)) U<|Gq 240 U U U (OpP.toK (Fp U)) U<|Gq 240 U U U (OpP.toK (Fp U)) U<|Gq 240 U U U (OpP.toK (Dr (b:=((1:Nat):Int)) U U (N.sub64 (by omega) (by omega)))) U<|Gq 240 U U U (OpP.toK (Bm U U (by omega) Tu23 Tz3)) U<|Dc (by decide)<|W.yes 240 U U U (Aj 0 (k:=i*1) U U (Ej hi2) Ta3) U<|W.yes 240 U U U (Aj 0 (k:=(i-1)*1) U U (Ej (by omega)) Ta3) U<|W.yes 240 U U U (fun a w hf _=>(Ef U U) a w hf) U<|Ba U (Bz U U) U ?_
    refine Ba U (Fp U) U<|W.fork (fun g252=>?_) (fun g252=>?_)
    ·have he1:all[i]=all[i-1]:=by omega
     refine W.yes 252 U U U (fun a w hf _=>(Fp U) a w hf) U<|W.yes 252 U U U (fun a w hf _=>(S.ge (b:=((3:Nat):Int)) U U) a w hf) U<|Ba U (Bz U U) U<|Ba U (Fp U) U<|W.fork (fun g256=>?_) (fun g256=>?_)
     ·have hr4:3≤run:=by omega
      refine W.yes 256 U U U (fun a w hf _=>(Fp U) a w hf) U<|Da<|By ?_
      refine O.yes 256 U U U (OpX.pick [5] (F:=(_::_::_::_::_::_)) U (Ar U Tryz.call62 (Ho cb na nn nc hZ (at5) (2) (by omega) (by omega) (by omega)))) U ?_;rintro _ _⟨_,⟨q8,at8,rfl,hq8,hat8,hNat8,rfl⟩,rfl⟩;refine Dt7 U ?_
      refine Hb [1,1,1,1,1,0] U<|Dt7 U<|Gq 256 U U U (OpP.toK (Ef (b:=((0:Nat):Int)) U U)) U<|Ah U (Bz U U) U<|Ah U (Az U) U<|Dk10 0 2 6 7 16 17 18 19 207 237 U ?_
      exact⟨_,at8,rfl,rfl,(fun _=>⟨hi0,by rw[hli,Bp (show i-1<all.length by omega)];exact he1,hr4⟩),by omega,(hC2f.elim fun a1 hx=>⟨a1,at5,hx.1,hx.2,.inl ⟨⟨hi0,by rw[hli,Bp (show i-1<all.length by omega)];exact he1,hr4⟩,q8,hNat8,⟨fun h=>by have:=of_decide_eq_true h;omega,fun h=>decide_eq_true (by omega)⟩⟩⟩)⟩
     refine Hz 256 false U U U U U<|Da<|By<|O.skip 256 false U U U U U<|Fb 256 false U U U U U<|Ah U (Bk U U) U<|Ah U (Az U) U<|Dk10 0 2 6 7 16 17 18 19 207 237 U ?_
     exact⟨_,at5,rfl,rfl,(fun h=>by cases h),by omega,(hC2f.elim fun a1 hx=>⟨a1,at5,hx.1,hx.2,.inr ⟨fun h=>by obtain⟨h1,h2,h3⟩:=h;rw[hli,Bp (show i-1<all.length by omega)]at h2;omega,rfl,rfl⟩⟩)⟩
    refine Hz 252 false U U U U U<|Hz 252 false U U U U U<|Ba U (Bk U U) U<|Ba U (Fp U) U<|Hz 256 false U U U U U<|Da<|By<|O.skip 256 false U U U U U<|Fb 256 false U U U U U<|Ah U (Bk U U) U<|Ah U (Az U) U<|Dk10 0 2 6 7 16 17 18 19 207 237 U ?_
    exact⟨_,at5,rfl,rfl,(fun h=>by cases h),by omega,(hC2f.elim fun a1 hx=>⟨a1,at5,hx.1,hx.2,.inr ⟨fun h=>by obtain⟨h1,h2,h3⟩:=h;rw[hli,Bp (show i-1<all.length by omega)]at h2;omega,rfl,rfl⟩⟩)⟩
   refine Fb 240 false U U U U U<|Fb 240 false U U U U U<|Fb 240 false U U U U U<|Fb 240 false U U U U U<|Fb 240 false U U U U U<|Fb 240 false U U U U U<|Fb 240 false U U U U U<|Dc (by decide)<|Hz 240 false U U U U U<|Hz 240 false U U U U U<|Hz 240 false U U U U U<|Ba U (Bk U U) U ?_
   refine Ba U (Fp U) U<|Hz 252 false U U U U U<|Hz 252 false U U U U U<|Ba U (Bk U U) U<|Ba U (Fp U) U<|Hz 256 false U U U U U<|Da<|By<|O.skip 256 false U U U U U<|Fb 256 false U U U U U<|Ah U (Bk U U) U<|Ah U (Az U) U ?_
   refine Dk10 0 2 6 7 16 17 18 19 207 237 U ?_
   exact⟨_,at5,rfl,rfl,(fun h=>by cases h),by omega,(hC2f.elim fun a1 hx=>⟨a1,at5,hx.1,hx.2,.inr ⟨fun h=>by obtain⟨h1,h2,h3⟩:=h;rw[hli,Bp (show i-1<all.length by omega)]at h2;omega,rfl,rfl⟩⟩)⟩
  rintro _ _⟨q,at5,hq50,rfl,hq,hat5,hC3⟩
  refine Av _ hq50<|Eg U (fun h237=>?_) (fun h237=>?_)
  ·have hq1:=hq h237
   have hRR:RunR all i run:=⟨hr1,hr2,hrun,hrT⟩
   refine Cr<|Em U U<|Em U U<|Aa (S.min2 U U) U<|An (v:=.int .i64 ((min run 6:Nat):Int)) (congrArg (Value.int .i64) (by omega))<|Aa (Dr (b:=((2:Nat):Int)) U U (N.sub64 (by omega) (by omega))) U ?_
   refine Ai (OpX.pick [5] (F:=(_::_::_::_::_::_)) U (Ar U Tryz.call62 (Ho cb na nn nc hZ (at5) (min run 6-2) (by omega) (by omega) (by omega)))) U ?_;rintro _ _⟨_,⟨q6,at6,rfl,hq6,hat6,hNat6,rfl⟩,rfl⟩;refine Et7 U ?_
   refine Dd [1,1,1,1,1,0] U<|Et7 U<|Aa (Bl (a:=((3:Nat):Int)) U U (N.add64 (by omega))) U<|Ea U U<|Ek10 0 2 6 7 16 17 18 19 22 237 U<|Cr<|Em U U<|Em U U<|Aa (Dr (b:=((3:Nat):Int)) U U (N.sub64 (by omega) (by omega))) U<|Aa (Et (v:=.agg #[.int .i64 16,.int .i64 (((3+q6)-3:Nat):Int)]) [(0,.int .i64 16),(1,.int .i64 (((3+q6)-3:Nat):Int))] U (fun w=>by simp[Instr.build,Instr.fill,Value.cells,Tryz.zeroValue147])) U<|Ai (Bn (vs:=[.int .i64 16,.int .i64 (((3+q6)-3:Nat):Int)]) (e:=147) [(0,.agg #[.int .i64 16,.int .i64 (((3+q6)-3:Nat):Int)])] U (pairRun _ _)) U ?_
   rintro _ _⟨yb,rfl,rfl⟩
   refine Ev (L2:=Lf++([⟨yb,0,[.int .i64 16,.int .i64 (((3+q6)-3:Nat):Int)]⟩,⟨ab,ao,intsV all++acs⟩,⟨lb,0,intsV lit++l2⟩,⟨db,0,intsV dist++d2⟩,f0,g0,⟨cb,0,[.slice na nn nc,.int .i64 (((at6):Nat):Int)]⟩])) (Same.perm (permF fun x=>by simp only[List.append_eq,List.count_append,List.count_cons,List.count_nil];omega)) ?_
   refine Ai (Hm (P:=Tryz.prog) (s:=2) (bytes:=16) (t:=146) (xs:=toldV tl2) (ys:=[.int .i64 16,.int .i64 (((3+q6)-3:Nat):Int)]) (Lf:=Lf) Tu146 infoP2 U U U U (by decide) U U hsl U (.inr ⟨yb,0,rfl,Reads.mem (k:=0) (List.mem_append_right _ (.head _)) U⟩) U (by omega) (by omega)) U ?_
   rintro v4 _⟨Lf2,hsl2,rfl⟩
   refine Gk (A:=[⟨ab,ao,intsV all++acs⟩,⟨lb,0,intsV lit++l2⟩,⟨db,0,intsV dist++d2⟩,f0,g0,⟨cb,0,[.slice na nn nc,.int .i64 (((at6):Nat):Int)]⟩]++Lf2) (F:=[⟨yb,0,[.int .i64 16,.int .i64 (((3+q6)-3:Nat):Int)]⟩]) (Same.perm (permF fun x=>by simp only[List.append_eq,List.count_append,List.count_cons,List.count_nil];omega)) ?_
   refine Ax (L2:=_::_::_::_::_::_::Lf2) U<|Ea U U<|Ek10 0 2 6 7 16 17 18 19 22 237 U<|Al<|Em U U<|Em U U<|Aa (Bl U U (N.add64 (by omega))) U<|Ea U U<|Ek10 0 2 6 7 16 17 18 19 22 237 U ?_
   refine⟨_,?_,i+(3+q6),tl2++[(16,(3+q6)-3)],_,_,at6,rfl,rfl,by omega,(hTI.rep (a:=16) (n:=(3+q6)) (v:=lenOf all i) (by omega) (by show 3≤_;omega) (by show 3+q6-3<4;omega) (by omega) (fun k hk=>hrun k (by omega)) (fun _=>⟨hq1.1,hq1.2.1.symm⟩) (fun h=>absurd U h)),(by rw[toldV_append,List.length_append];exact hsl2),(by rw[List.length_append,List.length_singleton];omega),by omega,(hC3.elim fun a1 hy=>hy.elim fun a2 hx=>hTS.snoc ⟨hi2,run,false,a1,hRR,hx.1,.inr ⟨rfl,false,a2,hx.2.1,.inr ⟨rfl,true,at5,h237▸hx.2.2,.inl ⟨rfl,q6,hNat6,rfl,rfl⟩⟩⟩⟩),rfl⟩;omega
  have hRR:RunR all i run:=⟨hr1,hr2,hrun,hrT⟩
  have e237:q=false:=by simpa using h237
  refine Cr<|Em U U<|Em U U<|Em U U<|Aa (Bm U U (by omega) Tu23 Tz3) U<|Ag (Aj 0 (k:=i*1) U U (Ej hi2) Ta3) U<|Aa (Et (v:=.agg #[.int .i64 ((all[i]:Nat):Int),.int .i64 0]) [(0,.int .i64 ((all[i]:Nat):Int)),(1,.int .i64 0)] U (fun w=>by simp[Instr.build,Instr.fill,Value.cells,Tryz.zeroValue147])) U<|Ai (Bn (vs:=[.int .i64 ((all[i]:Nat):Int),.int .i64 0]) (e:=147) [(0,.agg #[.int .i64 ((all[i]:Nat):Int),.int .i64 0])] U (pairRun _ _)) U ?_
  rintro _ _⟨yb,rfl,rfl⟩
  refine Ev (L2:=Lf++([⟨yb,0,[.int .i64 ((all[i]:Nat):Int),.int .i64 0]⟩,⟨ab,ao,intsV all++acs⟩,⟨lb,0,intsV lit++l2⟩,⟨db,0,intsV dist++d2⟩,f0,g0,⟨cb,0,[.slice na nn nc,.int .i64 (((at5):Nat):Int)]⟩])) (Same.perm (permF fun x=>by simp only[List.append_eq,List.count_append,List.count_cons,List.count_nil];omega)) ?_
  refine Ai (Hm (P:=Tryz.prog) (s:=2) (bytes:=16) (t:=146) (xs:=toldV tl2) (ys:=[.int .i64 ((all[i]:Nat):Int),.int .i64 0]) (Lf:=Lf) Tu146 infoP2 U U U U (by decide) U U hsl U (.inr ⟨yb,0,rfl,Reads.mem (k:=0) (List.mem_append_right _ (.head _)) U⟩) U (by omega) (by omega)) U ?_
  rintro v4 _⟨Lf2,hsl2,rfl⟩
  refine Gk (A:=[⟨ab,ao,intsV all++acs⟩,⟨lb,0,intsV lit++l2⟩,⟨db,0,intsV dist++d2⟩,f0,g0,⟨cb,0,[.slice na nn nc,.int .i64 (((at5):Nat):Int)]⟩]++Lf2) (F:=[⟨yb,0,[.int .i64 ((all[i]:Nat):Int),.int .i64 0]⟩]) (Same.perm (permF fun x=>by simp only[List.append_eq,List.count_append,List.count_cons,List.count_nil];omega)) ?_
  refine Ax (L2:=_::_::_::_::_::_::Lf2) U<|Ea U U<|Ek9 0 2 6 7 16 17 18 19 237 U<|Al<|Em U U<|Aa (Bl (b:=((1:Nat):Int)) U U (N.add64 (by omega))) U<|Ea U U<|Ek9 0 2 6 7 16 17 18 19 237 U ?_
  refine⟨_,?_,i+1,tl2++[(all[i],0)],_,_,at5,rfl,rfl,by omega,(hTI.lit hi2 (by omega)),(by rw[toldV_append,List.length_append];exact hsl2),(by rw[List.length_append,List.length_singleton];omega),by omega,(hC3.elim fun a1 hy=>hy.elim fun a2 hx=>hTS.snoc ⟨hi2,run,false,a1,hRR,hx.1,.inr ⟨rfl,false,a2,hx.2.1,.inr ⟨rfl,false,at5,e237▸hx.2.2,.inr ⟨rfl,by rw[hli]⟩⟩⟩⟩),rfl⟩;omega
 have hi2:i=all.length:=by omega
 rw[hi2]at hTI hTS
 have hTSf:Star (ToldS K na nn all) (0,[],at3) (all.length,tl2,at4):=hTS
 have htl0:0<tl2.length:=by
   rcases Nat.eq_zero_or_pos tl2.length with h|h
   · exfalso
     have e:=hTI.exp
     rw[List.eq_nil_of_length_eq_zero h,List.take_length]at e
     have:=congrArg List.length e
     simp at this
     omega
   · exact h
 obtain⟨tb2,to2,tc2,tcs0,rfl,rfl,k1,k2,k3,k4⟩:=hsl.one htl0
 obtain⟨tcs,htcs⟩:∃x,tcs0=toldV tl2++x:=⟨tcs0.drop (tl2.length*2),by rw[←k4];exact(List.take_append_drop _ _).symm⟩
 subst htcs
 refine Bx (L2:=[_,_,_,_,_,_,⟨tb2,to2,toldV tl2++tcs⟩]) U<|C.shed [0] (A:=[_]) (F:=[_,_,_,_,_,_]) U<|Bu U<|Cr ?_
 refine Ai (Hx (l:=19) (c:=19) (bytes:=1) Tu108 infoBo (z:=.bool false) U U U U U U (Nat.le_refl _) (by decide) (by decide)) U ?_;rintro _ _⟨qb,rfl,rfl⟩;refine Er7 U ?_
 refine Ea U U<|Ek9 0 2 6 7 16 17 18 23 145 U<|Am<|Cr<|Em U U<|Aa (Bc U Tu146) U<|Em U U<|Ek12 0 2 6 7 16 17 18 23 145 277 278 279 U<|As ?_
 refine Bw (fun mm ee ll=>∃(j:Nat),∃(use:List Bool),keeps ee [0,2,6,7,17,23,277,278,279]=some [(0,.pointer (some ⟨wb,0,none⟩)),(2,.pointer (some ⟨cb,0,none⟩)),(6,.slice (some ⟨lb,0,none⟩) m 286),(7,.slice (some ⟨db,0,none⟩) md dc),(17,.slice (some ⟨tb2,to2,none⟩) tl2.length tc2),(23,.slice (some ⟨qb,0,none⟩) 19 19),(277,.slice (some ⟨tb2,to2,none⟩) tl2.length tc2),(278,.int .i64 ((tl2.length:Nat):Int)),(279,.int .i64 ((j:Nat):Int))]∧ll=[⟨qb,0,boolsV (use)⟩,⟨lb,0,intsV lit++l2⟩,⟨db,0,intsV dist++d2⟩,f0,g0,⟨cb,0,[.slice na nn nc,.int .i64 (((at4):Nat):Int)]⟩,⟨tb2,to2,toldV tl2++tcs⟩]∧(j≤tl2.length)∧(use.length=19)∧(∀t∈tl2.take j,use.getD t.1 false=true)∧(use=(tl2.take j).foldl (fun u t=>u.set t.1 true) (List.replicate 19 false))∧mm=tl2.length-j) (_) ⟨0,List.replicate 19 false,rfl,(by rw[bools_rep]),Nat.zero_le _,(by rw[List.length_replicate]),(fun t ht=>by simp at ht),(by rw[List.take_zero];rfl),rfl⟩ ?_
 rintro m6 _ _⟨j,use,hk6,rfl,hj,hql,hum,huF,hm6⟩
 refine Av _ hk6<|Cr<|Aa (Dl U U) U<|Ek10 0 2 6 7 17 23 277 278 279 280 U<|Am<|Bf U (fun h280=>?_) (fun h280=>?_)
 ·have hj2:j<tl2.length:=by omega
  obtain⟨t2,ht2⟩:∃t,tl2[j]? =some t:=⟨_,List.getElem?_eq_getElem hj2⟩
  have hrt:=hTI.rng t2 (List.mem_of_getElem? ht2)
  refine Ap<|Am<|As<|Cr<|Aa (Bm U U (by omega) Tu146 Tryz.sizeOf147) U<|Ag (De 6 (k:=j*2) U U (toldV_get ht2) U Tryz.isAgg147 Tryz.sizeOf147) U ?_
  refine Ai (Dq Tryz.zeroValue147) U ?_;rintro _ _⟨b25,rfl,rfl⟩;refine Er8 U ?_
  refine Ax (L2:=⟨b25,0,[.int .i64 0,.int .i64 0]⟩::[⟨qb,0,boolsV (use)⟩,⟨lb,0,intsV lit++l2⟩,⟨db,0,intsV dist++d2⟩,f0,g0,⟨cb,0,[.slice na nn nc,.int .i64 (((at4):Nat):Int)]⟩,⟨tb2,to2,toldV tl2++tcs⟩]) (by kernel_rfl) ?_
  refine Ao (Bq 0 (k:=0) U U U U U U Tryz.sizeOf147 U) ?_;rintro _ _⟨rfl,rfl⟩;refine Er8 U ?_
  refine Ek11 0 2 6 7 17 23 25 277 278 279 280 U<|Al<|Em U U<|Aa (Bj (i:=0) U U (by omega) Tu147 Tz3) U<|Ag (Aj 0 (k:=0) U U U Ta3) U<|Aa (Bm U U (by omega) Tu108 Tz4) U ?_
  refine Ao (Aq 1 (k:=t2.1*1) U U U U (by rw[Nat.blt_eq,Gj];omega) Tz4) ?_
  rintro _ _⟨rfl,rfl⟩
  refine Ax (L2:=[_,⟨qb,0,boolsV (use.set t2.1 true)⟩,_,_,_,_,_,_]) (by show [_,(⟨_,0,(boolsV _).set _ _⟩:Frag),_,_,_,_,_,_]=_;rw[bools_set]) ?_
  refine Ds [1,1,1,1,1,1,1] (A:=[_,_,_,_,_,_,_]) U<|Ek11 0 2 6 7 17 23 25 277 278 279 280 U<|Al<|Aa (Bl (b:=((1:Nat):Int)) U U (N.add64 (by omega))) U<|Em U U<|Ek11 0 2 6 7 17 23 25 277 278 279 280 U ?_
  refine⟨_,?_,j+1,use.set t2.1 true,rfl,rfl,by omega,(by rw[List.length_set];exact hql),(fun t ht=>by rw[List.take_add_one,ht2]at ht;rcases List.mem_append.1 ht with h|h;(exact Ft (by omega) (hum t h));(rw[show t=t2 by simpa using h,Hq (by omega),if_pos rfl])),(by rw[List.take_add_one,ht2,List.foldl_append,←huF];rfl),rfl⟩;omega
 have hj2:j=tl2.length:=by omega
 rw[hj2,List.take_length]at hum huF
 refine Bu U<|Cr<|Ea U U<|Ek11 0 2 6 7 10 17 23 277 278 279 280 U<|Am<|Cr<|Em U U<|Aa (Bc U Tu108) U<|Em U U<|Ek14 0 2 6 7 10 17 23 277 278 279 280 288 289 290 U<|As ?_
 refine Bw (fun mm ee ll=>∃(i:Nat),∃(nu:Nat),keeps ee [0,2,6,7,17,10,23,288,289,290]=some [(0,.pointer (some ⟨wb,0,none⟩)),(2,.pointer (some ⟨cb,0,none⟩)),(6,.slice (some ⟨lb,0,none⟩) m 286),(7,.slice (some ⟨db,0,none⟩) md dc),(17,.slice (some ⟨tb2,to2,none⟩) tl2.length tc2),(10,.int .i64 ((nu:Nat):Int)),(23,.slice (some ⟨qb,0,none⟩) 19 19),(288,.slice (some ⟨qb,0,none⟩) 19 19),(289,.int .i64 ((19:Nat):Int)),(290,.int .i64 ((i:Nat):Int))]∧ll=[⟨qb,0,boolsV (use)⟩,⟨lb,0,intsV lit++l2⟩,⟨db,0,intsV dist++d2⟩,f0,g0,⟨cb,0,[.slice na nn nc,.int .i64 (((at4):Nat):Int)]⟩,⟨tb2,to2,toldV tl2++tcs⟩]∧(i≤19)∧(nu=(use.take i).count true)∧mm=19-i) (_) ⟨0,0,rfl,rfl,Nat.zero_le _,(by rw[List.take_zero];rfl),rfl⟩ ?_
 rintro m7 _ _⟨i,nu,hk7,rfl,hi,hnu,hm7⟩
 refine Av _ hk7<|Cr<|Aa (Dl U U) U<|Ek11 0 2 6 7 10 17 23 288 289 290 291 U<|Am<|Bf U (fun h291=>?_) (fun h291=>?_)
 ·have hi2:i<use.length:=by omega
  have hnl:nu≤i:=by rw[hnu];exact Nat.le_trans List.count_le_length (by rw[List.length_take];omega)
  refine Ap<|Du (M:=fun ee ll=>∃(nu2:Nat),keeps ee [0,2,6,7,17,10,23,288,289,290]=some [(0,.pointer (some ⟨wb,0,none⟩)),(2,.pointer (some ⟨cb,0,none⟩)),(6,.slice (some ⟨lb,0,none⟩) m 286),(7,.slice (some ⟨db,0,none⟩) md dc),(17,.slice (some ⟨tb2,to2,none⟩) tl2.length tc2),(10,.int .i64 ((nu2:Nat):Int)),(23,.slice (some ⟨qb,0,none⟩) 19 19),(288,.slice (some ⟨qb,0,none⟩) 19 19),(289,.int .i64 ((19:Nat):Int)),(290,.int .i64 ((i:Nat):Int))]∧ll=[⟨qb,0,boolsV (use)⟩,⟨lb,0,intsV lit++l2⟩,⟨db,0,intsV dist++d2⟩,f0,g0,⟨cb,0,[.slice na nn nc,.int .i64 (((at4):Nat):Int)]⟩,⟨tb2,to2,toldV tl2++tcs⟩]∧(nu2=(use.take (i+1)).count true)) ?_ ?_
  ·refine As<|Cr<|Aa (Bm U U (by omega) Tu108 Tz4) U<|Ag (Aj 0 (k:=i*1) U U (boolsV_get hi2) Ta4) U<|Ea U U<|Ek12 0 2 6 7 10 17 23 27 288 289 290 291 U<|Cr<|Em U U<|Ek13 0 2 6 7 10 17 23 27 288 289 290 291 294 U<|Eg U (fun h294=>?_) (fun h294=>?_)
   ·refine Al<|Em U U<|Aa (Bl (b:=((1:Nat):Int)) U U (N.add64 (by omega))) U<|Ea U U<|Ek13 0 2 6 7 10 17 23 27 288 289 290 291 294 U ?_
    exact⟨_,rfl,rfl,(by rw[count_step hi2,if_pos h294,hnu])⟩
   refine Ap ?_
   exact⟨_,rfl,rfl,(by rw[count_step hi2,if_neg (by rw[h294];decide),hnu];rfl)⟩
  rintro _ _⟨nu2,hq65,rfl,hnu2⟩
  refine Av _ hq65<|Al<|Aa (Bl (b:=((1:Nat):Int)) U U (N.add64 (by omega))) U<|Em U U<|Ek10 0 2 6 7 10 17 23 288 289 290 U ?_
  refine⟨_,?_,i+1,nu2,rfl,rfl,by omega,hnu2,rfl⟩;omega
 have hi2:i=19:=by omega
 rw[hi2,List.take_of_length_le (by omega)]at hnu
 refine Bu U<|Am<|Cr<|Ea U U<|Ek12 0 2 6 7 10 17 23 28 288 289 290 291 U<|As ?_
 refine Bw (fun mm ee ll=>∃(i:Nat),∃(use2:List Bool),∃(nu:Nat),keeps ee [0,2,6,7,17,10,23,28]=some [(0,.pointer (some ⟨wb,0,none⟩)),(2,.pointer (some ⟨cb,0,none⟩)),(6,.slice (some ⟨lb,0,none⟩) m 286),(7,.slice (some ⟨db,0,none⟩) md dc),(17,.slice (some ⟨tb2,to2,none⟩) tl2.length tc2),(10,.int .i64 ((nu:Nat):Int)),(23,.slice (some ⟨qb,0,none⟩) 19 19),(28,.int .i64 ((i:Nat):Int))]∧ll=[⟨qb,0,boolsV (use2)⟩,⟨lb,0,intsV lit++l2⟩,⟨db,0,intsV dist++d2⟩,f0,g0,⟨cb,0,[.slice na nn nc,.int .i64 (((at4):Nat):Int)]⟩,⟨tb2,to2,toldV tl2++tcs⟩]∧(i≤19)∧(use2.length=19)∧(nu=use2.count true)∧(∀j,j<i→use2.getD j false=true)∧(∀t∈tl2,use2.getD t.1 false=true)∧(Star FixS (0,useF tl2) (i,use2))∧mm=19-i) (_) ⟨0,use,nu,rfl,rfl,Nat.zero_le _,hql,hnu,(fun j hj=>by omega),hum,(by rw[←show use=useF tl2 from huF];exact Star.refl _),rfl⟩ ?_
 rintro m8 _ _⟨i,use2,nu,hk8,rfl,hi,hu1,hu2,hu3,hu4,hFx,hm8⟩
 refine Av _ hk8<|Am<|Cr<|Em U U<|Aa (Dl (b:=((2:Nat):Int)) U U) U<|Ek9 0 2 6 7 10 17 23 28 299 U<|Bf U (fun h299=>?_) (fun h299=>?_)
 ·have hin:=count_prefix (us:=use2) (i:=i) (by omega) hu3
  have hlt:i<use2.length:=by omega
  refine Ap<|Du (M:=fun ee ll=>∃(use3:List Bool),∃(nu3:Nat),keeps ee [0,2,6,7,17,10,23,28]=some [(0,.pointer (some ⟨wb,0,none⟩)),(2,.pointer (some ⟨cb,0,none⟩)),(6,.slice (some ⟨lb,0,none⟩) m 286),(7,.slice (some ⟨db,0,none⟩) md dc),(17,.slice (some ⟨tb2,to2,none⟩) tl2.length tc2),(10,.int .i64 ((nu3:Nat):Int)),(23,.slice (some ⟨qb,0,none⟩) 19 19),(28,.int .i64 ((i:Nat):Int))]∧ll=[⟨qb,0,boolsV (use3)⟩,⟨lb,0,intsV lit++l2⟩,⟨db,0,intsV dist++d2⟩,f0,g0,⟨cb,0,[.slice na nn nc,.int .i64 (((at4):Nat):Int)]⟩,⟨tb2,to2,toldV tl2++tcs⟩]∧(use3.length=19)∧(nu3=use3.count true)∧(∀j,j<i+1→use3.getD j false=true)∧(∀t∈tl2,use3.getD t.1 false=true)∧(Star FixS (0,useF tl2) (i+1,use3))) ?_ ?_
  ·refine As<|Cr<|Em U U<|Em U U<|Aa (Bm U U (by omega) Tu108 Tz4) U<|Ag (Aj 0 (k:=i*1) U U (boolsV_get hlt) Ta4) U<|Aa (Gc U) U<|Ek10 0 2 6 7 10 17 23 28 299 306 U<|Eg U (fun h306=>?_) (fun h306=>?_)
   ·refine Cr<|Em U U<|Em U U<|Aa (Bm U U (by omega) Tu108 Tz4) U ?_
    refine Ao (Aq 0 (k:=i*1) U U U U (by rw[Nat.blt_eq,Gj];omega) Tz4) ?_
    rintro _ _⟨rfl,rfl⟩
    refine Ax (L2:=[⟨qb,0,boolsV (use2.set i true)⟩,_,_,_,_,_,_]) (by show [(⟨_,0,(boolsV _).set _ _⟩:Frag),_,_,_,_,_,_]=_;rw[bools_set]) ?_
    refine Ek10 0 2 6 7 10 17 23 28 299 306 U<|Al<|Em U U<|Aa (Bl (b:=((1:Nat):Int)) U U (N.add64 (by omega))) U<|Ea U U<|Ek10 0 2 6 7 10 17 23 28 299 306 U ?_
    exact⟨_,_,rfl,rfl,(by rw[List.length_set];exact hu1),(by rw[count_set hlt (by simpa using h306),hu2]),(fun j hj=>by rcases Nat.lt_or_ge j i with h|h;(exact Ft hlt (hu3 j h));(rw[show j=i by omega,Hq hlt,if_pos rfl])),(fun t ht=>Ft hlt (hu4 t ht)),(hFx.snoc ⟨(by show use2.count true<2;omega),rfl⟩)⟩
   refine Ap ?_
   exact⟨_,_,rfl,rfl,hu1,hu2,(fun j hj=>by rcases Nat.lt_or_ge j i with h|h;(exact hu3 j h);(rw[show j=i by omega,Gp hlt];simpa using h306)),hu4,(hFx.snoc ⟨(by show use2.count true<2;omega),congrArg (Prod.mk _) (setB_same (l:=use2) (by rw[Gp hlt];simpa using h306)).symm⟩)⟩
  rintro _ _⟨use3,nu3,hq68,rfl,hv1,hv2,hv3,hv4,hFx3⟩
  refine Av _ hq68<|Al<|Em U U<|Aa (Bl (b:=((1:Nat):Int)) U U (N.add64 (by omega))) U<|Ea U U<|Ek8 0 2 6 7 10 17 23 28 U ?_
  refine⟨_,?_,i+1,use3,nu3,rfl,rfl,by omega,hv1,hv2,hv3,hv4,hFx3,rfl⟩;omega
 have hFxf:∃i2,Star FixS (0,useF tl2) (i2,use2):=⟨_,hFx⟩
 have hnf:¬use2.count true<2:=by omega
 have hun:use2.count true≤19:=by rw[←hu1];exact List.count_le_length
 refine Bu U<|Cr<|Em U U<|Em U U<|An (v:=.slice (some ⟨qb,0,none⟩) use2.length 19) (by rw[hu1]) ?_
 refine Ai (OpX.pick [5,0] (F:=[_,_,_,_,_]) U (Ar U Tryz.call63 (lens_spec cb na nn nc hZ at4 (by omega) qb 0 19 use2 7 nu (by omega) hu2.symm (by omega) (by show _≤128;omega) (by decide) (by decide)))) U ?_;rintro _ _⟨_,⟨kb,cl,at5,rfl,hLC,hat5,hLD3,rfl⟩,rfl⟩;refine Er8 U ?_
 refine An (v:=.slice (some ⟨kb,0,none⟩) 19 19) (by rw[hu1]) ?_
 have hcl:cl.length=19:=hLC.len.trans hu1
 have hcl7:=hLC.top
 have hcl15:∀x∈cl,x≤15:=fun x hx=>by have:=hcl7 x hx;omega
 have hclk:okLens cl:=ok_of_full hcl15 hLC.full
 have hclu:∀t∈tl2,0<lenOf cl t.1:=fun t ht=>hLC.use (hu4 t ht)
 refine Ds [0,2,2,2,2,2] (A:=[_,_,_,_,_,_]) U<|Ea U U<|Ek10 0 2 6 7 10 17 23 28 29 299 U<|Cr<|Ea U U<|Ek11 0 2 6 7 10 17 23 28 29 30 299 U<|Du (M:=fun ee ll=>∃(cnt:Nat),keeps ee [0,6,7,17,29,30]=some [(0,.pointer (some ⟨wb,0,none⟩)),(6,.slice (some ⟨lb,0,none⟩) m 286),(7,.slice (some ⟨db,0,none⟩) md dc),(17,.slice (some ⟨tb2,to2,none⟩) tl2.length tc2),(29,.slice (some ⟨kb,0,none⟩) 19 19),(30,.int .i64 ((cnt:Nat):Int))]∧ll=[⟨kb,0,intsV cl⟩,⟨lb,0,intsV lit++l2⟩,⟨db,0,intsV dist++d2⟩,f0,g0,⟨tb2,to2,toldV tl2++tcs⟩]∧(4≤cnt)∧(cnt≤19)∧(∀i,cnt≤i→i<19→lenOf cl (ordL.getD i 0)=0)∧(cnt=4∨lenOf cl (ordL.getD (cnt-1) 0)≠0)) ?_ ?_
 ·refine As<|Bw (fun mm ee ll=>∃(cnt:Nat),keeps ee [0,6,7,17,29,30]=some [(0,.pointer (some ⟨wb,0,none⟩)),(6,.slice (some ⟨lb,0,none⟩) m 286),(7,.slice (some ⟨db,0,none⟩) md dc),(17,.slice (some ⟨tb2,to2,none⟩) tl2.length tc2),(29,.slice (some ⟨kb,0,none⟩) 19 19),(30,.int .i64 ((cnt:Nat):Int))]∧ll=[⟨kb,0,intsV cl⟩,⟨lb,0,intsV lit++l2⟩,⟨db,0,intsV dist++d2⟩,f0,g0,⟨tb2,to2,toldV tl2++tcs⟩]∧(4≤cnt)∧(cnt≤19)∧(∀i,cnt≤i→i<19→lenOf cl (ordL.getD i 0)=0)∧mm=cnt) (_) ⟨19,rfl,rfl,by decide,Nat.le_refl _,(fun i h1 h2=>by omega),rfl⟩ ?_
  rintro m9 _ _⟨cnt,hk9,rfl,hc4,hc19,hcz,hm9⟩
  refine Av _ hk9<|Am<|Cr<|Em U U<|Aa (Fh (b:=((4:Nat):Int)) U U) U<|Em U U<|Ek (fun g317=>?_) (fun g317=>?_)
  ·have hgt:4<cnt:=by omega
   have ho:=(ord_idx (cnt-1) (by omega)).2
   refine Ak 317 U U<|Em U U<|Ak 317 U U<|Ag (Be U hO Ta23) U<|Ak 317 U U<|Em U U<|Ak 317 U U<|Aa (Dr (b:=((1:Nat):Int)) U U (N.sub64 (by omega) (by omega))) U<|Ak 317 U U<|Aa (Bm U U (by omega) Tu23 Tz3) U<|Ak 317 U U<|Ag (Be U (hOc (cnt-1) (by omega)) Ta3) U ?_
   refine Ak 317 U U<|Aa (Bm U U (by omega) Tu23 Tz3) U<|Ak 317 U U<|Ag (Aj 0 (k:=ordL.getD (cnt-1) 0*1) U U (ints_get1 (by omega)) Ta3) U<|Ak 317 U U<|Aa (Ef (b:=((0:Nat):Int)) U U) U<|Aa (Bz U U) U<|Ek7 0 6 7 17 29 30 327 U<|Bf U (fun h327=>?_) (fun h327=>?_)
   ·have hz0:lenOf cl (ordL.getD (cnt-1) 0)=0:=by rw[Bp (by omega)];omega
    refine Ap<|As<|Al<|Em U U<|Aa (Dr (b:=((1:Nat):Int)) U U (N.sub64 (by omega) (by omega))) U<|Ea U U<|Ek7 0 6 7 17 29 30 327 U ?_
    refine⟨_,?_,cnt-1,rfl,rfl,by omega,by omega,(fun i h1 h2=>by rcases Nat.lt_or_ge i cnt with h|h;(rw[show i=cnt-1 by omega];exact hz0);(exact hcz i h h2)),rfl⟩;omega
   refine Bu U ?_
   exact⟨cnt,rfl,rfl,hc4,hc19,hcz,(by first|exact .inl (by omega)|exact .inr (by rw[Bp (by omega)];omega))⟩
  refine Ae 317 false U U U U<|Ae 317 false U U U U<|Ae 317 false U U U U<|Ae 317 false U U U U<|Ae 317 false U U U U<|Ae 317 false U U U U<|Ae 317 false U U U U<|Ae 317 false U U U U<|Ae 317 false U U U U<|Aa (Bk U U) U<|Ek7 0 6 7 17 29 30 327 U<|C.no U (rfl) ?_
  refine Bu U ?_
  exact⟨cnt,rfl,rfl,hc4,hc19,hcz,(by first|exact .inl (by omega)|exact .inr (by rw[Bp (by omega)];omega))⟩
 rintro _ _⟨cnt,hq76,rfl,hc4,hc19,hcz,hcT⟩
 refine Av _ hq76 ?_
 have hs3:(wput (wput (wput s (m-257) 5) (md-1) 5) (cnt-4) 4).2=s.2+14:=by simp only[wput]
 refine Cr<|Em U U<|Em U U<|Aa (Bc U Tu23) U<|Aa (Dr (b:=((257:Nat):Int)) U U (N.sub64 (by omega) (by omega))) U ?_
 refine Ai (OpX.pick [3,3] (F:=[_,_,_,_]) U (Ar U Tryz.call41 (Gd hW0 (m-257) 5 (by omega) (by decide) (by omega)))) U ?_;rintro _ _⟨_,⟨f1,g1,rfl,hW1,rfl⟩,rfl⟩;refine Er6 U ?_
 refine Dd [2,2,2,0,0,0] U<|Er6 U<|Ek6 0 6 7 17 29 30 U<|Cr<|Em U U<|Em U U<|Aa (Bc U Tu23) U<|Aa (Dr (b:=((1:Nat):Int)) U U (N.sub64 (by omega) (by omega))) U ?_
 refine Ai (OpX.pick [3,3] (F:=[_,_,_,_]) U (Ar U Tryz.call41 (Gd hW1 (md-1) 5 (by omega) (by decide) (by simp only[wput];omega)))) U ?_;rintro _ _⟨_,⟨f2,g2,rfl,hW2,rfl⟩,rfl⟩;refine Er6 U ?_
 refine Dd [2,2,2,0,0,0] U<|Er6 U<|Ek6 0 6 7 17 29 30 U<|Cr<|Em U U<|Em U U<|Aa (Dr (b:=((4:Nat):Int)) U U (N.sub64 (by omega) (by omega))) U ?_
 refine Ai (OpX.pick [3,3] (F:=[_,_,_,_]) U (Ar U Tryz.call41 (Gd hW2 (cnt-4) 4 (by omega) (by decide) (by simp only[wput];omega)))) U ?_;rintro _ _⟨_,⟨f3,g3,rfl,hW3,rfl⟩,rfl⟩;refine Er6 U ?_
 refine Dd [2,2,2,0,0,0] U<|Er6 U<|Ek6 0 6 7 17 29 30 U<|Am<|Cr<|Ag (Be U hO Ta23) U<|Em U U<|Aa (S.slH U U (by omega) Tu23 Tz3) U<|Aa (Bc U Tu23) U<|Em U U<|Ek9 0 6 7 17 29 30 346 347 348 U<|As ?_
 refine Bw (fun mm ee ll=>∃(j:Nat),∃(f:Frag),∃(g:Frag),keeps ee [0,6,7,17,29,346,347,348]=some [(0,.pointer (some ⟨wb,0,none⟩)),(6,.slice (some ⟨lb,0,none⟩) m 286),(7,.slice (some ⟨db,0,none⟩) md dc),(17,.slice (some ⟨tb2,to2,none⟩) tl2.length tc2),(29,.slice (some ⟨kb,0,none⟩) 19 19),(346,.slice (some ⟨gb,go,none⟩) cnt gc),(347,.int .i64 ((cnt:Nat):Int)),(348,.int .i64 ((j:Nat):Int))]∧ll=[⟨kb,0,intsV cl⟩,⟨lb,0,intsV lit++l2⟩,⟨db,0,intsV dist++d2⟩,f,g,⟨tb2,to2,toldV tl2++tcs⟩]∧(j≤cnt)∧(WAt wb (clPut (lenOf cl) ((ordL.take cnt).take j) (wput (wput (wput s (m-257) 5) (md-1) 5) (cnt-4) 4)) f g)∧mm=cnt-j) (_) ⟨0,f3,g3,rfl,rfl,Nat.zero_le _,(by rw[List.take_zero];exact hW3),rfl⟩ ?_
 rintro m10 _ _⟨j,f,g,hk10,rfl,hj,hW,hm10⟩
 refine Av _ hk10<|Cr<|Aa (Dl U U) U<|Ek9 0 6 7 17 29 346 347 348 349 U<|Am<|Bf U (fun h349=>?_) (fun h349=>?_)
 ·have hj2:j<cnt:=by omega
  have ho:=(ord_idx j (by omega)).2
  have hoj:(ordL.take cnt)[j]? =some (ordL.getD j 0):=by rw[List.getElem?_take,if_pos hj2,List.getD_eq_getElem?_getD,List.getElem?_eq_getElem (by omega)];rfl
  have h7:lenOf cl (ordL.getD j 0)≤7:=by rw[Bp (by omega)];exact hcl7 _ (List.getElem_mem _)
  have hb4:=clPut_at (f:=lenOf cl) (l:=(ordL.take cnt).take j) (s:=wput (wput (wput s (m-257) 5) (md-1) 5) (cnt-4) 4)
  rw[hs3]at hb4
  rw[List.length_take,List.length_take]at hb4
  refine Ap<|Am<|As<|Cr<|Aa (Bm U U (by omega) Tu23 Tz3) U<|Ag (Be U (hOc j (by omega)) Ta3) U<|Ea U U<|Ek10 0 6 7 17 29 32 346 347 348 349 U<|Al<|Em U U<|Em U U<|Em U U ?_
  refine Aa (Bm U U (by omega) Tu23 Tz3) U<|Ag (Aj 0 (k:=ordL.getD j 0*1) U U (ints_get1 (by omega)) Ta3) U<|An (v:=.int .i64 ((lenOf cl (ordL.getD j 0):Nat):Int)) (by rw[Bp]) ?_
  refine Ai (OpX.pick [3,3] (F:=[_,_,_,_]) U (Ar U Tryz.call41 (Gd hW (lenOf cl (ordL.getD j 0)) 3 (by omega) (by decide) (by omega)))) U ?_;rintro _ _⟨_,⟨f4,g4,rfl,hW4,rfl⟩,rfl⟩;refine Er6 U ?_
  refine Dd [2,2,2,0,0,0] U<|Er6 U<|Ek10 0 6 7 17 29 32 346 347 348 349 U<|Al<|Aa (Bl (b:=((1:Nat):Int)) U U (N.add64 (by omega))) U<|Em U U<|Ek10 0 6 7 17 29 32 346 347 348 349 U ?_
  refine⟨_,?_,j+1,f4,g4,rfl,rfl,by omega,(by rw[clP_snoc hoj];exact hW4),rfl⟩;omega
 have hj2:j=cnt:=by omega
 rw[hj2,List.take_of_length_le (show(ordL.take cnt).length≤cnt by rw[List.length_take];omega)]at hW
 refine Bu U<|Cr<|Em U U<|An (v:=.slice (some ⟨kb,0,none⟩) cl.length 19) (by rw[hcl])<|Ax (L2:=[⟨kb,0,intsV cl++[]⟩,_,_,_,_,_]) (by rw[List.append_nil]) ?_
 refine Ai (OpX.pick [0] (F:=[_,_,_,_,_]) U (Ar U Tryz.call59 (codes_spec kb 0 19 [] cl hcl15 (by omega)))) U ?_;rintro _ _⟨_,⟨hb,rfl,rfl⟩,rfl⟩;refine Er7 U ?_
 refine Ea U U<|Ek10 0 6 7 17 29 33 346 347 348 349 U<|Am<|Cr<|Em U U<|Aa (Bc U Tu146) U<|Em U U<|Ek13 0 6 7 17 29 33 346 347 348 349 361 362 363 U<|As ?_
 refine Bw (fun mm ee ll=>∃(j:Nat),∃(f:Frag),∃(g:Frag),keeps ee [0,6,7,29,33,361,362,363]=some [(0,.pointer (some ⟨wb,0,none⟩)),(6,.slice (some ⟨lb,0,none⟩) m 286),(7,.slice (some ⟨db,0,none⟩) md dc),(29,.slice (some ⟨kb,0,none⟩) 19 19),(33,.slice (some ⟨hb,0,none⟩) cl.length cl.length),(361,.slice (some ⟨tb2,to2,none⟩) tl2.length tc2),(362,.int .i64 ((tl2.length:Nat):Int)),(363,.int .i64 ((j:Nat):Int))]∧ll=[⟨hb,0,cellsI cl.length (codesF cl cl.length)⟩,⟨kb,0,intsV cl++[]⟩,⟨lb,0,intsV lit++l2⟩,⟨db,0,intsV dist++d2⟩,f,g,⟨tb2,to2,toldV tl2++tcs⟩]∧(j≤tl2.length)∧(WAt wb ((tl2.take j).foldl (tPut cl) (clPut (lenOf cl) (ordL.take cnt) (wput (wput (wput s (m-257) 5) (md-1) 5) (cnt-4) 4))) f g)∧mm=tl2.length-j) (_) ⟨0,f,g,rfl,rfl,Nat.zero_le _,(by rw[List.take_zero];exact hW),rfl⟩ ?_
 rintro m11 _ _⟨j,f,g,hk11,rfl,hj,hW,hm11⟩
 refine Av _ hk11<|Cr<|Aa (Dl U U) U<|Ek9 0 6 7 29 33 361 362 363 364 U<|Am<|Bf U (fun h364=>?_) (fun h364=>?_)
 ·have hj2:j<tl2.length:=by omega
  obtain⟨t2,ht2⟩:∃t,tl2[j]? =some t:=⟨_,List.getElem?_eq_getElem hj2⟩
  have hmt:=List.mem_of_getElem? ht2
  have hrt:=hTI.rng t2 hmt
  have hut:=hclu t2 hmt
  have hc1:=code_small hclk hcl15 hut
  have hlt1:=Dx hut
  have hb4:=clPut_at (f:=lenOf cl) (l:=ordL.take cnt) (s:=wput (wput (wput s (m-257) 5) (md-1) 5) (cnt-4) 4)
  rw[hs3]at hb4
  rw[List.length_take]at hb4
  have hb5:=tsPut_room hcl7 (l:=tl2.take j) (s:=clPut (lenOf cl) (ordL.take cnt) (wput (wput (wput s (m-257) 5) (md-1) 5) (cnt-4) 4))
  rw[List.length_take]at hb5
  refine Ap<|Du (M:=fun ee ll=>∃(f5:Frag),∃(g5:Frag),keeps ee [0,6,7,29,33,361,362,363]=some [(0,.pointer (some ⟨wb,0,none⟩)),(6,.slice (some ⟨lb,0,none⟩) m 286),(7,.slice (some ⟨db,0,none⟩) md dc),(29,.slice (some ⟨kb,0,none⟩) 19 19),(33,.slice (some ⟨hb,0,none⟩) cl.length cl.length),(361,.slice (some ⟨tb2,to2,none⟩) tl2.length tc2),(362,.int .i64 ((tl2.length:Nat):Int)),(363,.int .i64 ((j:Nat):Int))]∧ll=[⟨hb,0,cellsI cl.length (codesF cl cl.length)⟩,⟨kb,0,intsV cl++[]⟩,⟨lb,0,intsV lit++l2⟩,⟨db,0,intsV dist++d2⟩,f5,g5,⟨tb2,to2,toldV tl2++tcs⟩]∧(WAt wb (tPut cl ((tl2.take j).foldl (tPut cl) (clPut (lenOf cl) (ordL.take cnt) (wput (wput (wput s (m-257) 5) (md-1) 5) (cnt-4) 4))) t2) f5 g5)) ?_ ?_
  ·refine As<|Cr<|Aa (Bm U U (by omega) Tu146 Tryz.sizeOf147) U<|Ag (De 6 (k:=j*2) U U (toldV_get ht2) U Tryz.isAgg147 Tryz.sizeOf147) U ?_
   refine Ai (Dq Tryz.zeroValue147) U ?_;rintro _ _⟨b35,rfl,rfl⟩;refine Er8 U ?_
   refine Ax (L2:=⟨b35,0,[.int .i64 0,.int .i64 0]⟩::[⟨hb,0,cellsI cl.length (codesF cl cl.length)⟩,⟨kb,0,intsV cl++[]⟩,⟨lb,0,intsV lit++l2⟩,⟨db,0,intsV dist++d2⟩,f,g,⟨tb2,to2,toldV tl2++tcs⟩]) (by kernel_rfl) ?_
   refine Ao (Bq 0 (k:=0) U U U U U U Tryz.sizeOf147 U) ?_;rintro _ _⟨rfl,rfl⟩;refine Er8 U ?_
   refine Ek10 0 6 7 29 33 35 361 362 363 364 U<|Am<|Bt [0,0,0,4,10,16,0,0,128,320,512,1057] (.pure 0 2046 (.pure 1 1997 (.pure 2 1987 (.pure 6 447 (.pure 7 127 (.seg [(3,1991),(4,1999),(5,2015),(8,255),(9,511),(10,1023)] (.alt 11 .done .stop))))))) mixed (by decide+kernel)<|Dm U U U<|Dm U U U<|Ah U (Bj (i:=0) U U (by omega) Tu147 Tz3) U<|Dm U U U<|Ah U (Bj (i:=0) U U (by omega) Tu147 Tz3) U<|Dc (by decide)<|Au U (Aj 0 (k:=0) U U U Ta3) U<|Ba U (Bm U U (by omega) Tu23 Tz3) U<|Au U (Aj 1 (k:=t2.1*1) U U (codes_get hut) Ta3) U ?_
   refine Au U (Aj 0 (k:=0) U U U Ta3) U<|Ba U (Bm U U (by omega) Tu23 Tz3) U<|Au U (Aj 2 (k:=t2.1*1) U U (lens_get hut) Ta3) U<|Da<|By ?_
   refine Bo U (OpX.pick [5,5] (F:=[_,_,_,_,_,_]) U (Ar U Tryz.call60 (code_spec hW cl t2.1 (by omega) hc1.2 (by omega)))) U ?_;rintro _ _⟨_,⟨fc,gc2,rfl,hWc,rfl⟩,rfl⟩;refine Dr8 U ?_
   refine Hb [2,2,2,2,2,0,0,0] U<|Dr8 U<|Dk10 0 6 7 29 33 35 361 362 363 364 U<|Cr<|Aa (Bj (i:=0) U U (by omega) Tu147 Tz3) U<|Ag (Aj 0 (k:=0) U U U Ta3) U<|Ek11 0 6 7 29 33 35 361 362 363 364 380 U<|As<|Cr<|Aa (Ef (b:=((16:Nat):Int)) U U) U<|Ea U U<|Ek12 0 6 7 29 33 35 361 362 363 364 380 381 U ?_
   refine Bf U (fun h381=>?_) (fun h381=>?_)
   ·have hrep:repN t2.1=2:=by unfold repN;rw[if_pos (by omega)]
    refine Al<|Em U U<|Aa (Bj (i:=1) U U (by omega) Tu147 Tz3) U<|Ag (Aj 0 (k:=1) U U U Ta3) U ?_
    refine Ai (OpX.pick [5,5] (F:=[_,_,_,_,_,_]) U (Ar U Tryz.call41 (Gd hWc t2.2 2 (by omega) (by decide) (by show((tl2.take j).foldl (tPut cl) (clPut (lenOf cl) (ordL.take cnt) (wput (wput (wput s (m-257) 5) (md-1) 5) (cnt-4) 4))).2+lenOf cl t2.1≤_;omega)))) U ?_;rintro _ _⟨_,⟨fp,gp,rfl,hWp,rfl⟩,rfl⟩;refine Er8 U ?_
    refine Dd [2,2,2,2,2,0,0,0] U<|Er8 U<|Ds [1,1,1,1,1,1,1] (A:=[_,_,_,_,_,_,_]) U<|Ek12 0 6 7 29 33 35 361 362 363 364 380 381 U ?_
    exact⟨_,_,rfl,rfl,(by rw[tPut_rep (by omega),hrep];exact hWp)⟩
   refine Cr<|Aa (Ef (b:=((17:Nat):Int)) U U) U<|Ea U U<|Ek13 0 6 7 29 33 35 361 362 363 364 380 381 387 U<|Bf U (fun h387=>?_) (fun h387=>?_)
   ·have hrep:repN t2.1=3:=by unfold repN;rw[if_neg (by omega),if_pos (by omega)]
    refine Al<|Em U U<|Aa (Bj (i:=1) U U (by omega) Tu147 Tz3) U<|Ag (Aj 0 (k:=1) U U U Ta3) U ?_
    refine Ai (OpX.pick [5,5] (F:=[_,_,_,_,_,_]) U (Ar U Tryz.call41 (Gd hWc t2.2 3 (by omega) (by decide) (by show((tl2.take j).foldl (tPut cl) (clPut (lenOf cl) (ordL.take cnt) (wput (wput (wput s (m-257) 5) (md-1) 5) (cnt-4) 4))).2+lenOf cl t2.1≤_;omega)))) U ?_;rintro _ _⟨_,⟨fp,gp,rfl,hWp,rfl⟩,rfl⟩;refine Er8 U ?_
    refine Dd [2,2,2,2,2,0,0,0] U<|Er8 U<|Ds [1,1,1,1,1,1,1] (A:=[_,_,_,_,_,_,_]) U<|Ek13 0 6 7 29 33 35 361 362 363 364 380 381 387 U ?_
    exact⟨_,_,rfl,rfl,(by rw[tPut_rep (by omega),hrep];exact hWp)⟩
   refine Cr<|Aa (Ef (b:=((18:Nat):Int)) U U) U<|Ea U U<|Ek14 0 6 7 29 33 35 361 362 363 364 380 381 387 393 U<|Bf U (fun h393=>?_) (fun h393=>?_)
   ·have hrep:repN t2.1=7:=by unfold repN;rw[if_neg (by omega),if_neg (by omega)]
    refine Al<|Em U U<|Aa (Bj (i:=1) U U (by omega) Tu147 Tz3) U<|Ag (Aj 0 (k:=1) U U U Ta3) U ?_
    refine Ai (OpX.pick [5,5] (F:=[_,_,_,_,_,_]) U (Ar U Tryz.call41 (Gd hWc t2.2 7 (by omega) (by decide) (by show((tl2.take j).foldl (tPut cl) (clPut (lenOf cl) (ordL.take cnt) (wput (wput (wput s (m-257) 5) (md-1) 5) (cnt-4) 4))).2+lenOf cl t2.1≤_;omega)))) U ?_;rintro _ _⟨_,⟨fp,gp,rfl,hWp,rfl⟩,rfl⟩;refine Er8 U ?_
    refine Dd [2,2,2,2,2,0,0,0] U<|Er8 U<|Ds [1,1,1,1,1,1,1] (A:=[_,_,_,_,_,_,_]) U<|Ek14 0 6 7 29 33 35 361 362 363 364 380 381 387 393 U ?_
    exact⟨_,_,rfl,rfl,(by rw[tPut_rep (by omega),hrep];exact hWp)⟩
   refine C.forget [1,1,1,1,1,1,1] (A:=[_,_,_,_,_,_,_]) U<|Ap ?_
   exact⟨_,_,rfl,rfl,(by rw[tPut_lit (by omega)];exact hWc)⟩
  rintro _ _⟨f5,g5,hq96,rfl,hW5⟩
  refine Av _ hq96<|Al<|Aa (Bl (b:=((1:Nat):Int)) U U (N.add64 (by omega))) U<|Em U U<|Ek8 0 6 7 29 33 361 362 363 U ?_
  refine⟨_,?_,j+1,f5,g5,rfl,rfl,by omega,(by rw[foldP_snoc ht2];exact hW5),rfl⟩;omega
 have hj2:j=tl2.length:=by omega
 rw[hj2,List.take_length]at hW
 obtain⟨ifx,hFxf⟩:=hFxf
 have hOD:OwnD K na nn (tl.map tkOf) at_ s lit dist (tl2.foldl (tPut cl) (clPut (lenOf cl) (ordL.take cnt) (wput (wput (wput s (m-257) 5) (md-1) 5) (cnt-4) 4))):=⟨r,at1,ls,at2,dl,at3,m,md,at4,tl2,ifx,use2,cl,at5,cnt,hNat1,by rw[←hMF];exact hLD1,by rw[←hMF];exact hDD,⟨hmA,hmB,fun k h _=>hmZ k h,hmT⟩,⟨hda,hdb,fun k h _=>hdz k h,hdT⟩,hlit,hdist,by rw[←hall];exact hTSf,hFxf,hnf,hLD3,⟨hc4,hc19,hcz,hcT⟩,rfl⟩
 have hb4:=clPut_at (f:=lenOf cl) (l:=ordL.take cnt) (s:=wput (wput (wput s (m-257) 5) (md-1) 5) (cnt-4) 4)
 rw[hs3]at hb4
 rw[List.length_take]at hb4
 have hb5:=tsPut_room hcl7 (l:=tl2) (s:=clPut (lenOf cl) (ordL.take cnt) (wput (wput (wput s (m-257) 5) (md-1) 5) (cnt-4) 4))
 refine Bu U<|Cr<|Em U U<|Em U U<|Ea U U<|Ea U U<|Ek9 0 6 7 29 33 361 362 363 364 U<|Bb ?_
 refine⟨_,_,rfl,rfl,[_,_,_,_],[_,_,_],Same.perm (Br (A:=[_,_,_,_]) (F:=[_,_,_]) (is:=[4,4,2,2]) U),lit,dist,lb,l2,db,d2,dc,_,f,g,by rw[hml,hmdl],hW,?_,hLF2.okL,hDF2.okL,hLF2.top,hDF2.top,by omega,by omega,hl256b,fun k hk=>(hmk k hk).use hLF2 hDF2,by omega,hOD,rfl⟩
 rw[hml,hmdl]
 exact own_read hws (by omega) (by omega) (by omega) (by omega) hLF2.okL hDF2.okL hclk hcl hcl7 hc4 hc19 hcz hclu hTI.ok (by rw[hTI.exp,List.take_length,hall])
set_option maxHeartbeats 1000000
set_option maxHeartbeats 1000000
set_option maxHeartbeats 1000000
structure PB where
  what:Int
  bytes:List UInt8
  toks:List TokM
  na:Option Addr
  nn:Nat
def badTok(out:List UInt8)(t:TokM):Prop:=t.2.1<3∨258<t.2.1∨t.2.2<1∨32768<t.2.2∨(out.length:Int)<t.2.2
instance (out:List UInt8)(t:TokM):Decidable (badTok out t):=inferInstanceAs (Decidable (_∨_∨_∨_∨_))
def toksD:List UInt8→List TokM→Option (List UInt8)
  |out,[]=>some out
  |out,t::r=>if t.2.1=0 then toksD (out++[t.1]) r else if badTok out t then none else toksD (copyN out t.2.2.toNat t.2.1.toNat) r
def blkD(out:List UInt8)(b:PB):Option (List UInt8):=
  if b.what=0 then(if 65535<b.bytes.length then none else some (out++b.bytes))else if b.what=1∨b.what=2 then toksD out b.toks else none
def dataGo:List UInt8→List PB→Option (List UInt8)
  |out,[]=>some out
  |out,b::r=>match blkD out b with
    |none=>none
    |some o=>dataGo o r
theorem toksD_ok:∀{l:List TokM} {out o:List UInt8},toksD out l=some o→(∀t∈l,TokOk t)∧tksOk out (l.map tkOf)∧tksOut out (l.map tkOf)=o
  | [],out,o,h=>by
    simp only[toksD,Option.some.injEq]at h
    exact⟨fun _ h=>(by cases h),trivial,h⟩
  |t::r,out,o,h=>by
    rw[toksD]at h
    split at h
    · rename_i h0
      obtain⟨a,b,c⟩:=toksD_ok h
      have e:tkOf t=.lit t.1:=if_pos h0
      refine⟨fun x hx=>?_,?_,?_⟩
      · rcases List.mem_cons.1 hx with rfl|hx
        · exact .inl h0
        · exact a x hx
      · rw[List.map_cons,e];exact⟨trivial,b⟩
      · rw[List.map_cons,e];exact c
    · rename_i h0
      split at h
      · cases h
      · rename_i hb
        unfold badTok at hb
        obtain⟨a,b,c⟩:=toksD_ok h
        have e:tkOf t=.copy t.2.1.toNat t.2.2.toNat:=if_neg h0
        refine⟨fun x hx=>?_,?_,?_⟩
        · rcases List.mem_cons.1 hx with rfl|hx
          · exact .inr ⟨x.2.1.toNat,x.2.2.toNat,by omega,by omega,by omega,by omega,by omega,by omega⟩
          · exact a x hx
        · rw[List.map_cons,e];exact⟨⟨by omega,by omega,by omega,by omega,by omega⟩,b⟩
        · rw[List.map_cons,e];exact c
def wtB(b:PB):Nat:=b.bytes.length+b.toks.length+1
def wtL(l:List PB):Nat:=(l.map wtB).sum
theorem wtL_cons(b:PB)(l:List PB):wtL (b::l)=wtB b+wtL l:=by simp[wtL]
theorem wtL_take_succ{l:List PB}{i:Nat}(h:i<l.length):wtL (l.take (i+1))=wtL (l.take i)+wtB l[i]:=by
  unfold wtL
  rw[List.take_add_one,List.getElem?_eq_getElem h,List.map_append,List.sum_append];simp
theorem wtL_take_le(l:List PB)(i:Nat):wtL (l.take i)≤wtL l:=by
  have e:wtL (l.take i++l.drop i)=wtL (l.take i)+wtL (l.drop i):=by unfold wtL;rw[List.map_append,List.sum_append]
  rw[List.take_append_drop]at e
  omega
def BlkA(K:Known)(cs:List Value)(p:PB):Prop:=∃ba bc tv na nn nc,cs=[.int .i64 p.what,.slice ba p.bytes.length bc,tv,.slice na nn nc]∧BA K (.slice ba p.bytes.length bc) p.bytes∧TokA K tv p.toks∧SzA K (.slice na nn nc)∧na=p.na∧nn=p.nn
def BlocksB(K:Known)(v:Value)(l:List PB):Prop:=∃a c,v=.slice a l.length c∧(l=[]∨∃b o,a=some ⟨b,o,none⟩∧∀i (h:i<l.length),∃cs,BlkA K cs l[i]∧∀j u,cs[j]? =some u→cellAt K b (o+i*4+j)=some u)
theorem dataGo_at{l:List PB}{i:Nat}{out:List UInt8}(h:i<l.length):dataGo out (l.drop i)=match blkD out l[i]with
    |none=>none
    |some o=>dataGo o (l.drop (i+1)):=by rw[List.drop_eq_getElem_cons h,dataGo]
theorem toksD_at{l:List TokM}{i:Nat}{out:List UInt8}(h:i<l.length):toksD out (l.drop i)=if l[i].2.1=0 then toksD (out++[l[i].1]) (l.drop (i+1))else if badTok out l[i]then none else toksD (copyN out l[i].2.2.toNat l[i].2.1.toNat) (l.drop (i+1)):=by rw[List.drop_eq_getElem_cons h,toksD]
theorem BA.rb{K:Known}{a:Option Addr}{n c:Nat}{l:List UInt8}(h:BA K (.slice a n c) l)(L:Frags):l=[]∨∃b o,a=some ⟨b,o,none⟩∧Reads K L b o (bytesV l):=by
  rcases h with⟨_,rfl⟩|⟨_,_,_,rfl⟩|⟨pb,po,cap,e,_,h⟩
  · exact .inl U
  · exact .inl U
  · injection e with e1 _ _;exact .inr ⟨pb,po,e1,h.reads⟩
theorem copyN_next{out:List UInt8}{d q:Nat}(h:(copyN out d q).length-d<(copyN out d q).length):copyN out d (q+1)=copyN out d q++[(copyN out d q)[(copyN out d q).length-d]]:=by
  rw[copyN,Gp h]
def DataR(l:List PB)(r:Value)(L:Frags):Prop:=∃v,r=.tuple #[v,.bool (dataGo [] l).isSome]∧Sl 1 v ((dataGo [] l).getD []).length (bytesV ((dataGo [] l).getD [])) L
theorem data_none{l:List PB}(h:dataGo [] l=none):DataR l (.tuple #[.slice none 0 0,.bool false]) []:=⟨_,by rw[h];rfl,by rw[h];exact Sl.nil 1⟩
theorem data_some{l:List PB}{out:List UInt8}{v:Value}{Lf:Frags}(h:dataGo [] l=some out)(hs:Sl 1 v out.length (bytesV out) Lf):DataR l (.tuple #[v,.bool true]) Lf:=⟨v,by rw[h];rfl,by rw[h];exact hs⟩
theorem data_walk{K:Known}(l:List PB)(a:Option Addr)(c:Nat)(hBl:l=[]∨∃b o,a=some ⟨b,o,none⟩∧∀i (h:i<l.length),∃cs,BlkA K cs l[i]∧∀j u,cs[j]? =some u→cellAt K b (o+i*4+j)=some u)(hlen:wtL l≤1099511627)(hll:l.length≤1099511627):Fn Tryz.prog K 11 #[.slice a l.length c] ([]) (fun r L=>∃L2 J,Same L (L2++J)∧DataR l r L2):=by
 refine Fn.intro (args:=[.slice a l.length c]) (RR:=Ret2 2 3 _) Tryz.func11 rfl rfl Tryz.ntmps11 (res2 Tryz.results11) ?_
 refine Bi (env2:=[(0,.slice a l.length c)]) U<|Cr<|Ea U U<|Ea U U<|Ek3 0 2 3 U<|Cr<|Ea U U<|Ek4 0 2 3 4 U<|Am<|Cr<|Em U U<|Aa (Bc U Tu33) U ?_
 refine Em U U<|Ek6 2 3 4 9 10 11 U<|As<|Bw (fun mm ee ll=>∃(i:Nat),∃(out:List UInt8),∃(v:Value),∃(Lf:Frags),keeps ee [4,9,10,11]=some [(4,v),(9,.slice a l.length c),(10,.int .i64 ((l.length:Nat):Int)),(11,.int .i64 ((i:Nat):Int))]∧ll=[]++Lf∧(i≤l.length)∧(dataGo [] l=dataGo out (l.drop i))∧(Sl 1 v out.length (bytesV out) Lf)∧(out.length≤300*wtL (l.take i))∧mm=l.length-i) (_) ⟨0,[],.slice none 0 0,[],rfl,rfl,Nat.zero_le _,(by rw[List.drop_zero]),Sl.nil 1,Nat.zero_le _,rfl⟩ ?_
 rintro m0 _ Lf⟨i,out,v,_,hk0,rfl,hi,hgo,hsl,hol,hm0⟩
 refine Av _ hk0<|Cr<|Aa (Dl U U) U<|Ek5 4 9 10 11 12 U<|Am<|Bf U (fun h12=>?_) (fun h12=>?_)
 ·have hi2:i<l.length:=by omega
  obtain⟨p,hp⟩:∃p,p=l[i]:=⟨_,rfl⟩
  obtain⟨bb,bo,ha,hB⟩:=hBl.resolve_left (fun h=>by rw[h]at hi2;simp at hi2)
  obtain⟨cells,⟨ba,bc,tv,na,nn,nc,rfl,hBA,⟨ta,tc,rfl,hTa⟩,hZ,hna,hnn⟩,hcell⟩:=hB i hi2
  rw[←hp]at hBA hcell hTa
  have hwt:=wtL_take_succ hi2
  rw[←hp]at hwt
  have hw1:wtB p=p.bytes.length+p.toks.length+1:=rfl
  have hwl:=wtL_take_le l (i+1)
  refine Ap<|Du (M:=fun ee ll=>∃(out5:List UInt8),∃(v5:Value),∃(Lf5:Frags),keeps ee [4,9,10,11]=some [(4,v5),(9,.slice a l.length c),(10,.int .i64 ((l.length:Nat):Int)),(11,.int .i64 ((i:Nat):Int))]∧ll=[]++Lf5∧(dataGo [] l=dataGo out5 (l.drop (i+1)))∧(Sl 1 v5 out5.length (bytesV out5) Lf5)∧(out5.length≤300*wtL (l.take (i+1)))) ?_ ?_
  ·refine As<|Cr ?_
   refine Aa (Bm (b:=bb) (o:=bo) (l:=l.length) (c:=c) (i:=i) (k:=.i64) (by rw[←ha];rfl) U hi2 Tu33 Tz73) U ?_
   refine Ag (Gg (vs:=[.int .i64 p.what,.slice ba p.bytes.length bc,.slice ta p.toks.length tc,.slice na nn nc]) U hcell U Tryz.isAgg73 Tz73) U ?_
   refine Ai (Dq Tryz.zeroValue73) U ?_;rintro _ _⟨b6,rfl,rfl⟩;refine Et2 U ?_
   refine Ax (L2:=⟨b6,0,[.int .i64 0,.slice none 0 0,.slice none 0 0,.slice none 0 0]⟩::Lf) (by kernel_rfl) ?_
   refine Ao (Bq 0 (k:=0) U U U U U U Tz73 U) ?_;rintro _ _⟨rfl,rfl⟩;refine Et2 U ?_
   refine Ek6 4 6 9 10 11 12 U<|Cr<|Aa (Ab U fa73_0) U<|Ag (Aj 0 (k:=0) U U U Ta3) U<|Ek7 4 6 9 10 11 12 16 U<|As<|Cr<|Aa (Ef (b:=((0:Nat):Int)) U U) U<|Ea U U<|Ek8 4 6 9 10 11 12 16 17 U<|Bf U (fun h17=>?_) (fun h17=>?_)
   ·refine Am<|Cr<|Aa (Ab U fa73_1) U<|Ag (Aj 0 (k:=1) U U U Ta25) U<|Aa (Bc U Tu25) U<|Aa (Fh (b:=((65535:Nat):Int)) U U) U<|Ek9 4 6 9 10 11 12 16 17 22 U<|Bf U (fun h22=>?_) (fun h22=>?_)
    ·refine Cr<|Ea U U<|Ea U U<|Ek11 2 3 4 6 9 10 11 12 16 17 22 U<|Bb ?_
     exact⟨_,_,rfl,rfl,[],_,Same.refl _,data_none (hgo.trans (by rw[dataGo_at hi2,←hp,blkD,if_pos (by omega),if_pos (by omega)]))⟩
    refine Ap<|Al<|Em U U<|Aa (Ab U fa73_1) U<|Ag (Aj 0 (k:=1) U U U Ta25) U<|Ai (OpX.perm (L2:=Lf++[_]) (List.perm_append_comm (l₁:=[_]) (l₂:=Lf)) (Jm (xs:=out) (ys:=p.bytes) (L:=[_]) U U hsl U (hBA.rb _) (by omega))) U ?_
    rintro v4 _⟨Lf4,hsl4,rfl⟩
    refine Ev (Same.perm (List.perm_append_comm (l₁:=Lf4) (l₂:=[_])))<|Ax (L2:=_::Lf4) U<|Ea U U<|E.shed [0] (A:=[_]) (F:=Lf4) U<|Ek9 4 6 9 10 11 12 16 17 22 U ?_
    exact⟨_,_,_,rfl,rfl,(hgo.trans (by rw[dataGo_at hi2,←hp,blkD,if_pos (by omega),if_neg (by omega)])),hsl4,(by rw[hwt,List.length_append];omega)⟩
   refine Du (M:=fun ee ll=>∃(q:Bool),keeps ee [4,9,10,11,6,27]=some [(4,v),(9,.slice a l.length c),(10,.int .i64 ((l.length:Nat):Int)),(11,.int .i64 ((i:Nat):Int)),(6,.pointer (some ⟨b6,0,none⟩)),(27,.bool q)]∧ll=[⟨b6,0,[.int .i64 p.what,.slice ba p.bytes.length bc,.slice ta p.toks.length tc,.slice na nn nc]⟩]++Lf∧(q=true↔(p.what=1∨p.what=2))) ?_ ?_
   ·refine Cr<|Aa (Ef (b:=((1:Nat):Int)) U U) U<|Ea U U<|Ek9 4 6 9 10 11 12 16 17 27 U<|Bf U (fun h27=>?_) (fun h27=>?_)
    ·refine Ap ?_
     exact⟨_,rfl,rfl,⟨fun _=>.inl h27,fun _=>decide_eq_true h27⟩⟩
    refine Al<|Aa (Ef (b:=((2:Nat):Int)) U U) U<|Ea U U<|Ek9 4 6 9 10 11 12 16 17 27 U ?_
    exact⟨_,rfl,rfl,⟨fun h=>.inr (of_decide_eq_true h),fun h=>decide_eq_true (h.resolve_left h27)⟩⟩
   rintro _ _⟨q,hq13,rfl,hq⟩
   refine Av _ hq13<|Eg U (fun h27=>?_) (fun h27=>?_)
   ·have hw12:=hq.1 h27
    obtain⟨out0,ho0⟩:∃x,x=out:=⟨_,rfl⟩
    rw[←ho0]at hsl hgo hol
    have hbN:toksD out0 p.toks=none→dataGo out0 (l.drop i)=none:=fun hx=>by rw[dataGo_at hi2,←hp,blkD,if_neg (by omega),if_pos hw12,hx]
    have hbS:∀{o},toksD out0 p.toks=some o→dataGo out0 (l.drop i)=dataGo o (l.drop (i+1)):=fun hx=>by rw[dataGo_at hi2,←hp,blkD,if_neg (by omega),if_pos hw12,hx]
    refine Cr<|Aa (Ab U fa73_2) U<|Ag (Aj 0 (k:=2) U U U Tryz.isAgg71) U<|Aa (Bc U Tu71) U<|Em U U<|Ek9 4 6 9 10 11 27 31 32 33 U<|As<|Bw (fun mm ee ll=>∃(k:Nat),∃(out:List UInt8),∃(v:Value),∃(Lf:Frags),keeps ee [4,9,10,11,6,31,32,33]=some [(4,v),(9,.slice a l.length c),(10,.int .i64 ((l.length:Nat):Int)),(11,.int .i64 ((i:Nat):Int)),(6,.pointer (some ⟨b6,0,none⟩)),(31,.slice ta p.toks.length tc),(32,.int .i64 ((p.toks.length:Nat):Int)),(33,.int .i64 ((k:Nat):Int))]∧ll=[⟨b6,0,[.int .i64 p.what,.slice ba p.bytes.length bc,.slice ta p.toks.length tc,.slice na nn nc]⟩]++Lf∧(k≤p.toks.length)∧(toksD out0 p.toks=toksD out (p.toks.drop k))∧(Sl 1 v out.length (bytesV out) Lf)∧(out.length≤out0.length+300*k)∧mm=p.toks.length-k) (_) ⟨0,out0,_,_,rfl,rfl,Nat.zero_le _,(by rw[List.drop_zero]),hsl,(by omega),rfl⟩ ?_
    rintro m1 _ _⟨k,out,v,Lf,hk1,rfl,hk,htg,hsl,hol,hm1⟩
    refine Av _ hk1<|Cr<|Aa (Dl U U) U<|Ek9 4 6 9 10 11 31 32 33 34 U<|Am<|Bf U (fun h34=>?_) (fun h34=>?_)
    ·have hkk:k<p.toks.length:=by omega
     obtain⟨t,ht⟩:∃t,t=p.toks[k]:=⟨_,rfl⟩
     obtain⟨tb,to,hta,hTc⟩:=hTa.resolve_left (fun h=>by rw[h]at hkk;simp at hkk)
     have hTc2:=hTc k hkk
     rw[←ht]at hTc2
     refine Ap<|Du (M:=fun ee ll=>∃(out6:List UInt8),∃(v6:Value),∃(Lf6:Frags),keeps ee [4,9,10,11,6,31,32,33]=some [(4,v6),(9,.slice a l.length c),(10,.int .i64 ((l.length:Nat):Int)),(11,.int .i64 ((i:Nat):Int)),(6,.pointer (some ⟨b6,0,none⟩)),(31,.slice ta p.toks.length tc),(32,.int .i64 ((p.toks.length:Nat):Int)),(33,.int .i64 ((k:Nat):Int))]∧ll=[⟨b6,0,[.int .i64 p.what,.slice ba p.bytes.length bc,.slice ta p.toks.length tc,.slice na nn nc]⟩]++Lf6∧(toksD out0 p.toks=toksD out6 (p.toks.drop (k+1)))∧(Sl 1 v6 out6.length (bytesV out6) Lf6)∧(out6.length≤out0.length+300*(k+1))) ?_ ?_
     ·refine As<|Cr ?_
      refine Aa (Bm (b:=tb) (o:=to) (l:=p.toks.length) (c:=tc) (i:=k) (k:=.i64) (by rw[←hta];rfl) U hkk Tu71 Tz75) U ?_
      refine Ag (Gg (vs:=tokCells t) U hTc2 U Tryz.isAgg75 Tz75) U ?_
      refine Ai (Dq Tryz.zeroValue75) U ?_;rintro _ _⟨b8,rfl,rfl⟩;refine Et3 U ?_
      refine Ax (L2:=⟨b8,0,[.int .u8 0,.int .i64 0,.int .i64 0]⟩::⟨b6,0,[.int .i64 p.what,.slice ba p.bytes.length bc,.slice ta p.toks.length tc,.slice na nn nc]⟩::Lf) (by kernel_rfl) ?_
      refine Ao (Bq 0 (k:=0) U U U U U U Tz75 U) ?_;rintro _ _⟨rfl,rfl⟩;refine Et3 U ?_
      refine Ek10 4 6 8 9 10 11 31 32 33 34 U<|Am<|Cr<|Aa (Ab U fa75_1) U<|Ag (Aj 0 (k:=1) U U U Ta3) U<|Aa (Ef (b:=((0:Nat):Int)) U U) U<|Ek11 4 6 8 9 10 11 31 32 33 34 39 U<|Bf U (fun h39=>?_) (fun h39=>?_)
      ·have hz:t.2.1=0:=by omega
       refine Cr<|Em U U<|Aa (Ab U fa75_0) U<|Ag (Aj 0 (k:=0) U U U Ta5) U ?_
       refine Ai (Bn (vs:=[u8 t.1]) (e:=5) [(0,u8 t.1)] U (fun w=>by simp[Instr.buildSlice,Instr.fill,Value.cells,newRow,Tryz.runUnderlying25,Tryz.typeInfo5];rw[arr1])) U ?_
       rintro _ _⟨yb,rfl,rfl⟩
       refine Ax (L2:=⟨yb,0,[u8 t.1]⟩::⟨b8,0,[u8 t.1,.int .i64 t.2.1,.int .i64 t.2.2]⟩::⟨b6,0,[.int .i64 p.what,.slice ba p.bytes.length bc,.slice ta p.toks.length tc,.slice na nn nc]⟩::Lf) U ?_
       refine Ev (L2:=Lf++[⟨yb,0,[u8 t.1]⟩,⟨b8,0,[u8 t.1,.int .i64 t.2.1,.int .i64 t.2.2]⟩,⟨b6,0,[.int .i64 p.what,.slice ba p.bytes.length bc,.slice ta p.toks.length tc,.slice na nn nc]⟩]) (Same.perm (permF fun x=>by simp only[List.append_eq,List.count_append,List.count_cons,List.count_nil];omega)) ?_
       refine Ai (Jm (xs:=out) (ys:=[t.1]) (Lf:=Lf) U U hsl U (.inr ⟨yb,0,rfl,Reads.mem (k:=0) (List.mem_append_right _ (.head _)) U⟩) (by simp only[List.length_cons,List.length_nil];omega)) U ?_
       rintro v4 _⟨Lf4,hsl4,rfl⟩
       refine Gk (A:=[⟨b8,0,[u8 t.1,.int .i64 t.2.1,.int .i64 t.2.2]⟩,⟨b6,0,[.int .i64 p.what,.slice ba p.bytes.length bc,.slice ta p.toks.length tc,.slice na nn nc]⟩]++Lf4) (F:=[⟨yb,0,[u8 t.1]⟩]) (Same.perm (permF fun x=>by simp only[List.append_eq,List.count_append,List.count_cons,List.count_nil];omega)) ?_
       refine Ax (L2:=_::_::Lf4) U<|Ea U U<|E.shed [0] (A:=[_]) (F:=_::Lf4) U<|Ek11 4 6 8 9 10 11 31 32 33 34 39 U<|Bu U ?_
       exact⟨_,_,_,rfl,rfl,(htg.trans (by rw[toksD_at hkk,←ht,if_pos hz])),hsl4,(by rw[List.length_append,List.length_singleton];omega)⟩
      obtain⟨a4,c4,rfl⟩:=hsl.form
      refine Ap<|Am<|Cr<|Aa (Ab U fa75_1) U<|Ag (Aj 0 (k:=1) U U U Ta3) U<|Aa (Dl (b:=((3:Nat):Int)) U U) U<|Em U U<|Ek (fun g48=>?_) (fun g48=>?_)
      ·refine Ae 48 true U U U U<|Ae 48 true U U U U<|Ae 48 true U U U U<|Aa (Bz U U) U<|Em U U<|Ae 53 true U U U U<|Ae 53 true U U U U<|Ae 53 true U U U U<|Aa (Bz U U) U<|Em U U<|Ae 58 true U U U U<|Ae 58 true U U U U ?_
       refine Ae 58 true U U U U<|Aa (Bz U U) U<|Em U U<|Ae 63 true U U U U<|Ae 63 true U U U U<|Ae 63 true U U U U<|Ae 63 true U U U U<|Ae 63 true U U U U<|Aa (Bz U U) U<|Ek12 4 6 8 9 10 11 31 32 33 34 39 69 U<|He U (rfl)<|Cr ?_
       refine Ea U U<|Ea U U<|Ek14 2 3 4 6 8 9 10 11 31 32 33 34 39 69 U<|Bb ?_
       have hbad:badTok out t:=by unfold badTok;omega
       exact⟨_,_,rfl,rfl,[],_,Same.refl _,data_none (hgo.trans (hbN (htg.trans (by rw[toksD_at hkk,←ht,if_neg (by omega),if_pos hbad]))))⟩
      refine Ak 48 U U<|Aa (Ab U fa75_1) U<|Ak 48 U U<|Ag (Aj 0 (k:=1) U U U Ta3) U<|Ak 48 U U<|Aa (Fh (b:=((258:Nat):Int)) U U) U<|Aa (Bk U U) U<|Em U U<|Ek (fun g53=>?_) (fun g53=>?_)
      ·refine Ae 53 true U U U U<|Ae 53 true U U U U<|Ae 53 true U U U U<|Aa (Bz U U) U<|Em U U<|Ae 58 true U U U U<|Ae 58 true U U U U<|Ae 58 true U U U U<|Aa (Bz U U) U<|Em U U<|Ae 63 true U U U U<|Ae 63 true U U U U ?_
       refine Ae 63 true U U U U<|Ae 63 true U U U U<|Ae 63 true U U U U<|Aa (Bz U U) U<|Ek12 4 6 8 9 10 11 31 32 33 34 39 69 U<|He U (rfl)<|Cr<|Ea U U<|Ea U U<|Ek14 2 3 4 6 8 9 10 11 31 32 33 34 39 69 U<|Bb ?_
       have hbad:badTok out t:=by unfold badTok;omega
       exact⟨_,_,rfl,rfl,[],_,Same.refl _,data_none (hgo.trans (hbN (htg.trans (by rw[toksD_at hkk,←ht,if_neg (by omega),if_pos hbad]))))⟩
      refine Ak 53 U U<|Aa (Ab U fa75_2) U<|Ak 53 U U<|Ag (Aj 0 (k:=2) U U U Ta3) U<|Ak 53 U U<|Aa (Dl (b:=((1:Nat):Int)) U U) U<|Aa (Bk U U) U<|Em U U<|Ek (fun g58=>?_) (fun g58=>?_)
      ·refine Ae 58 true U U U U<|Ae 58 true U U U U<|Ae 58 true U U U U<|Aa (Bz U U) U<|Em U U<|Ae 63 true U U U U<|Ae 63 true U U U U<|Ae 63 true U U U U<|Ae 63 true U U U U<|Ae 63 true U U U U<|Aa (Bz U U) U<|Ek12 4 6 8 9 10 11 31 32 33 34 39 69 U ?_
       refine He U (rfl)<|Cr<|Ea U U<|Ea U U<|Ek14 2 3 4 6 8 9 10 11 31 32 33 34 39 69 U<|Bb ?_
       have hbad:badTok out t:=by unfold badTok;omega
       exact⟨_,_,rfl,rfl,[],_,Same.refl _,data_none (hgo.trans (hbN (htg.trans (by rw[toksD_at hkk,←ht,if_neg (by omega),if_pos hbad]))))⟩
      refine Ak 58 U U<|Aa (Ab U fa75_2) U<|Ak 58 U U<|Ag (Aj 0 (k:=2) U U U Ta3) U<|Ak 58 U U<|Aa (Fh (b:=((32768:Nat):Int)) U U) U<|Aa (Bk U U) U<|Em U U<|Ek (fun g63=>?_) (fun g63=>?_)
      ·refine Ae 63 true U U U U<|Ae 63 true U U U U<|Ae 63 true U U U U<|Ae 63 true U U U U<|Ae 63 true U U U U<|Aa (Bz U U) U<|Ek12 4 6 8 9 10 11 31 32 33 34 39 69 U<|He U (rfl)<|Cr<|Ea U U<|Ea U U<|Ek14 2 3 4 6 8 9 10 11 31 32 33 34 39 69 U ?_
       refine Bb ?_
       have hbad:badTok out t:=by unfold badTok;omega
       exact⟨_,_,rfl,rfl,[],_,Same.refl _,data_none (hgo.trans (hbN (htg.trans (by rw[toksD_at hkk,←ht,if_neg (by omega),if_pos hbad]))))⟩
      refine Ak 63 U U<|Aa (Ab U fa75_2) U<|Ak 63 U U<|Ag (Aj 0 (k:=2) U U U Ta3) U<|Ak 63 U U<|Em U U<|Ak 63 U U<|Aa (Bc U Tu25) U<|Ak 63 U U<|Aa (Fh U U) U<|Aa (Bk U U) U<|Ek12 4 6 8 9 10 11 31 32 33 34 39 69 U ?_
      refine Bf U (fun h69=>?_) (fun h69=>?_)
      ·have hbad:badTok out t:=by unfold badTok;omega
       refine Cr<|Ea U U<|Ea U U<|Ek14 2 3 4 6 8 9 10 11 31 32 33 34 39 69 U<|Bb ?_
       have hbad:badTok out t:=by unfold badTok;omega
       exact⟨_,_,rfl,rfl,[],_,Same.refl _,data_none (hgo.trans (hbN (htg.trans (by rw[toksD_at hkk,←ht,if_neg (by omega),if_pos hbad]))))⟩
      have hbad:¬badTok out t:=by unfold badTok;omega
      obtain⟨n,hn⟩:∃n:Nat,t.2.1=(n:Int):=⟨t.2.1.toNat,by omega⟩
      obtain⟨d,hd⟩:∃d:Nat,t.2.2=(d:Int):=⟨t.2.2.toNat,by omega⟩
      have hnd:t.2.1.toNat=n:=by omega
      have hdd:t.2.2.toNat=d:=by omega
      have hd0:0<out.length:=by omega
      obtain⟨b0,o0,c0,cs0,hv0,rfl,hcc,hcm⟩:∃b o c cs,(.slice a4 out.length c4:Value)=.slice (some ⟨b,o,none⟩) out.length c∧Lf=[⟨b,o,bytesV out++cs⟩]∧out.length+cs.length=c∧c≤9223372036854775807:=by
        obtain⟨b,o,c,cs,e1,e2,e3,e4,e5,e6⟩:=hsl.one hd0
        rw[Nat.mul_one]at e6 e3
        exact⟨b,o,c,cs.drop out.length,e1,by rw[e2,←e6,List.take_append_drop],by rw[List.length_drop];omega,e5⟩
      injection hv0 with hv1 _ hv2
      subst hv1 hv2
      refine Ap<|Cr<|Aa (Ab U fa75_1) U<|Ag (Aj 0 (k:=1) U U U Ta3) U<|An (v:=.int .i64 ((n:Nat):Int)) (by rw[hn])<|Em U U<|Ek14 4 6 8 9 10 11 31 32 33 34 39 69 71 72 U<|As<|Bw (fun mm ee ll=>∃(q:Nat),∃(b:Nat),∃(o:Nat),∃(c4:Nat),∃(cs:List Value),keeps ee [4,9,10,11,6,31,32,33,8,71,72]=some [(4,.slice (some ⟨b,o,none⟩) (copyN out d q).length c4),(9,.slice a l.length c),(10,.int .i64 ((l.length:Nat):Int)),(11,.int .i64 ((i:Nat):Int)),(6,.pointer (some ⟨b6,0,none⟩)),(31,.slice ta p.toks.length tc),(32,.int .i64 ((p.toks.length:Nat):Int)),(33,.int .i64 ((k:Nat):Int)),(8,.pointer (some ⟨b8,0,none⟩)),(71,.int .i64 ((n:Nat):Int)),(72,.int .i64 ((q:Nat):Int))]∧ll=[⟨b8,0,[u8 t.1,.int .i64 t.2.1,.int .i64 t.2.2]⟩,⟨b6,0,[.int .i64 p.what,.slice ba p.bytes.length bc,.slice ta p.toks.length tc,.slice na nn nc]⟩,⟨b,o,bytesV (copyN out d q)++cs⟩]∧(q≤n)∧((copyN out d q).length+cs.length=c4)∧(c4≤9223372036854775807)∧mm=n-q) (_) ⟨0,_,_,_,_,rfl,rfl,Nat.zero_le _,hcc,hcm,rfl⟩ ?_
      rintro m2 _ _⟨q,b,o,c4,cs,hk2,rfl,hq,hcc,hcm,hm2⟩
      refine Av _ hk2<|Cr<|Aa (Dl U U) U<|Ek12 4 6 8 9 10 11 31 32 33 71 72 73 U<|Am<|Bf U (fun h73=>?_) (fun h73=>?_)
      ·have hcl:=Eu out d q
       have hxl:(copyN out d q).length-d<(copyN out d q).length:=by omega
       refine Ap<|Am<|As<|Al<|Em U U<|Em U U<|Em U U<|Aa (Bc U Tu25) U<|Aa (Ab U fa75_2) U<|Ag (Aj 0 (k:=2) U U U Ta3) U<|An (v:=.int .i64 ((d:Nat):Int)) (by rw[hd])<|Aa (Dr U U (N.sub64 (by omega) (by omega))) U ?_
       refine Aa (Bm U U (by omega) Tu25 Tz5) U ?_
       refine Ag (Aj 2 (k:=((copyN out d q).length-d)*1) U U (by rw[Nat.mul_one];exact bytes_get hxl) Ta5) U ?_
       refine Ai (Bn (vs:=[u8 (copyN out d q)[(copyN out d q).length-d]]) (e:=5) [(0,u8 (copyN out d q)[(copyN out d q).length-d])] U (fun w=>by simp[Instr.buildSlice,Instr.fill,Value.cells,newRow,Tryz.runUnderlying25,Tryz.typeInfo5];rw[arr1])) U ?_
       rintro _ _⟨yb,rfl,rfl⟩
       refine Dd [3,0,0,0] (A:=[_,_,_,_]) (F:=[]) U<|Ax (L2:=[_]++[_,_,_]) U ?_
       refine Ai (Jm (xs:=copyN out d q) (ys:=[(copyN out d q)[(copyN out d q).length-d]]) U U (Sl.mkS U hcc hcm) U (.inr ⟨yb,0,rfl,Reads.mem (k:=0) (.tail _ (.head _)) U⟩) (by simp only[List.length_cons,List.length_nil];omega)) U ?_
       rintro v5 _⟨Lf5,hsl5,rfl⟩
       obtain⟨b5,o5,c5,cs5,rfl,rfl,hcc5,hcm5⟩:∃b o c cs,v5=.slice (some ⟨b,o,none⟩) (copyN out d (q+1)).length c∧Lf5=[⟨b,o,bytesV (copyN out d (q+1))++cs⟩]∧(copyN out d (q+1)).length+cs.length=c∧c≤9223372036854775807:=by
         rw[←copyN_next hxl]at hsl5
         obtain⟨b,o,c,cs,e1,e2,e3,e4,e5,e6⟩:=hsl5.one (by rw[Eu];omega)
         rw[Nat.mul_one]at e6 e3
         exact⟨b,o,c,cs.drop _,e1,by rw[e2,←e6,List.take_append_drop],by rw[List.length_drop];omega,e5⟩
       refine Ds [2,2,0] (A:=[_,_,_]) U<|Ea U U<|Ek12 4 6 8 9 10 11 31 32 33 71 72 73 U<|Al<|Aa (Bl (b:=((1:Nat):Int)) U U (N.add64 (by omega))) U<|Em U U<|Ek12 4 6 8 9 10 11 31 32 33 71 72 73 U ?_
       refine⟨_,?_,q+1,_,_,_,_,rfl,rfl,by omega,hcc5,hcm5,rfl⟩;omega
      have hqn:q=n:=by omega
      subst hqn
      refine C.shed [0] (A:=[_]) (F:=[_,_]) U<|Bu U ?_
      exact⟨copyN out d q,_,[_],rfl,rfl,(htg.trans (by rw[toksD_at hkk,←ht,if_neg (by omega),if_neg hbad,hdd,hnd])),(Sl.mkS U hcc hcm),(by rw[Eu];omega)⟩
     rintro _ _⟨out6,v6,Lf6,hq24,rfl,htg6,hsl6,hol6⟩
     refine Av _ hq24<|Al<|Aa (Bl (b:=((1:Nat):Int)) U U (N.add64 (by omega))) U<|Em U U<|Ek8 4 6 9 10 11 31 32 33 U ?_
     refine⟨_,?_,k+1,out6,v6,Lf6,rfl,rfl,by omega,htg6,hsl6,hol6,rfl⟩;omega
    have hkk:k=p.toks.length:=by omega
    rw[hkk,List.drop_length,toksD]at htg
    refine C.shed [0] (A:=[_]) (F:=Lf) U<|Bu U ?_
    exact⟨_,_,_,rfl,rfl,(hgo.trans (hbS htg)),hsl,(by rw[hwt];omega)⟩
   refine Cr<|Ea U U<|Ea U U<|Ek8 2 3 4 6 9 10 11 27 U<|Bb ?_
   exact⟨_,_,rfl,rfl,[],_,Same.refl _,data_none (hgo.trans (by rw[dataGo_at hi2,←hp,blkD,if_neg (by omega),if_neg (by have:=hq.2;intro h;rw[this h]at h27;cases h27)]))⟩
  rintro _ Lf5⟨out5,v5,_,hq25,rfl,hgo5,hsl5,hol5⟩
  refine Av _ hq25<|Al<|Aa (Bl (b:=((1:Nat):Int)) U U (N.add64 (by omega))) U<|Em U U<|Ek4 4 9 10 11 U ?_
  refine⟨_,?_,i+1,out5,v5,Lf5,rfl,rfl,by omega,hgo5,hsl5,hol5,rfl⟩;omega
 have hi2:i=l.length:=by omega
 rw[hi2,List.drop_length]at hgo
 refine Bu U<|Cr<|Em U U<|Ea U U<|Ea U U<|Ek7 2 3 4 9 10 11 12 U<|Bb ?_
 exact⟨_,_,rfl,rfl,Lf,[],Same.of_eq (List.append_nil _).symm,data_some hgo hsl⟩
set_option maxHeartbeats 1000000
theorem own_spec{K:Known}(hS:SpT K)(hOC:CapS K 7)(wb:Nat)(s:Wr)(cb:Nat)(na:Option Addr)(nn nc:Nat)(hZ:SzA K (.slice na nn nc))(at_:Nat)(hat:at_≤1048576)(tv:Value)(tl:List TokM)(hT:TokA K tv tl)(htl:tl.length≤1099511627)(hto:∀t∈tl,TokOk t)(hk:s.2≤1099511627776)(f0 g0:Frag)(hW0:WAt wb s f0 g0):
    Fn Tryz.prog K 44 #[.pointer (some ⟨wb,0,none⟩),tv,.pointer (some ⟨cb,0,none⟩)] [f0,g0,⟨cb,0,[.slice na nn nc,.int .i64 ((at_:Nat):Int)]⟩] fun r L=>OwnE K na nn at_ wb s tl r L:=by
  refine Fn.lose (own_walk hS hOC wb s cb na nn nc hZ at_ hat tv tl hT htl hto hk f0 g0 hW0) ?_
  rintro r L⟨L2,J,hS,h⟩
  exact⟨L2,J,hS,h⟩
theorem fixK1:okLens fixLit:=by decide+kernel
theorem fixK2:okLens Ex:=by decide+kernel
theorem fix15:∀x∈fixLit,x≤15:=by decide+kernel
theorem fixd15:∀x∈Ex,x≤15:=by decide+kernel
theorem lastN_le(b:Bool):lastN b≤1:=by cases b<;>decide
theorem Bs.form{v:Value}{xs:List UInt8}{g:Frag}(h:Bs v xs g):∃a c,v=.slice a xs.length c:=by
  rcases h with⟨rfl,rfl,_⟩|h
  · exact⟨_,_,rfl⟩
  · exact h.form
theorem WAt.ok{wb:Nat}{s:Wr}{f g:Frag}(h:WAt wb s f g):WrOk s:=by obtain⟨_,_,_,_,_,_,h⟩:=h;exact h
theorem blkD_what{out o:List UInt8}{p:PB}(h:blkD out p=some o):∃w:Nat,p.what=(w:Int)∧w≤2:=by
  unfold blkD at h
  split at h
  · exact⟨0,by assumption,by decide⟩
  · split at h
    · rename_i h2
      rcases h2 with h2|h2
      · exact⟨1,h2,by decide⟩
      · exact⟨2,h2,by decide⟩
    · cases h
theorem blkD_zero{out o:List UInt8}{p:PB}(h:blkD out p=some o)(hw:p.what=0):p.bytes.length≤65535∧o=out++p.bytes:=by
  rw[blkD,if_pos hw]at h
  split at h
  · cases h
  · injection h with h;exact⟨by omega,h.symm⟩
theorem blkD_tok{out o:List UInt8}{p:PB}(h:blkD out p=some o)(hw:p.what=1∨p.what=2):toksD out p.toks=some o:=by
  rw[blkD,if_neg (by omega),if_pos hw]at h;exact h
def StD(bl:List PB)(data:List UInt8)(s:Wr)(out:List UInt8)(i:Nat):Prop:=(i<bl.length∧PreR s out)∨(i=bl.length∧∀b,leN b=s.1→b.length=(s.2+7)/8→DeflOk b data)
theorem blk_next{bl:List PB}{i:Nat}{last:Bool}{s s5:Wr}{out out2 data:List UInt8}(hl:last=true↔i+1=bl.length)(hi:i<bl.length)(hP:PreR s out)(hok:WrOk s5)(hb:BlkR last s s5 out out2)(hgo:dataGo out2 (bl.drop (i+1))=some data):StD bl data s5 out2 (i+1):=by
  cases last with
  |true=>
    have h1:=hl.1 rfl
    rw[h1,List.drop_length,dataGo]at hgo
    injection hgo with hgo
    subst hgo
    exact .inr ⟨h1,fun b hv hln=>hP.defl hb hv hln hok⟩
  |false=>
    refine .inl ⟨?_,hP.blk hok hb⟩
    have:¬i+1=bl.length:=fun h=>by cases hl.2 h
    omega
theorem data_next{bl:List PB}{i:Nat}{out data:List UInt8}(hi:i<bl.length)(h:dataGo out (bl.drop i)=some data):∃o,blkD out bl[i]=some o∧dataGo o (bl.drop (i+1))=some data:=by
  rw[dataGo_at hi]at h
  split at h
  · cases h
  · exact⟨_,by assumption,h⟩
def BlocksE(K:Known)(z:Frag)(b o:Nat)(bl:List PB):Prop:=∀i (h:i<bl.length),∃cs,BlkA K cs bl[i]∧∀L:Frags,z∈L→Reads K L b (o+i*4) cs
theorem BlocksB.e{K:Known}{b o:Nat}{bl:List PB}(h:∀i (h:i<bl.length),∃cs,BlkA K cs bl[i]∧∀j u,cs[j]? =some u→cellAt K b (o+i*4+j)=some u)(z:Frag):BlocksE K z b o bl:=fun i hi=>by
  obtain⟨cs,h1,h2⟩:=h i hi
  exact⟨cs,h1,fun L _=>Reads.known h2⟩
def ZB:PB:=⟨0,[],[],none,0⟩
def zcells:List Value:=[.int .i64 0,.slice none 0 0,.slice none 0 0,.slice none 0 0]
theorem BlocksE.zero(K:Known)(yb:Nat):BlocksE K ⟨yb,0,zcells⟩ yb 0 [ZB]:=fun i hi=>by
  obtain rfl:i=0:=by simp only[List.length_cons,List.length_nil]at hi;omega
  exact⟨zcells,⟨none,0,.slice none 0 0,none,0,0,rfl,.inl ⟨rfl,rfl⟩,⟨none,0,rfl,.inl U⟩,SzA.nil K,rfl,rfl⟩,fun L hz=>Reads.mem (k:=0) hz U⟩
def BlkS(K:Known)(last:Bool)(s:Wr)(p:PB)(s2:Wr):Prop:=
  (p.what=0∧s2=wstored (whead s last 0) p.bytes)∨(p.what=1∧s2=wcode (tksPut fixLit Ex (whead s last 1) (p.toks.map tkOf)) fixLit 256)∨
    (p.what=2∧∃lit dist s3,OwnD K p.na p.nn (p.toks.map tkOf) 0 (whead s last 2) lit dist s3∧s2=wcode (tksPut lit dist s3 (p.toks.map tkOf)) lit 256)
theorem BlkS.det{K:Known}{last:Bool}{s a b:Wr}{p:PB}(h:BlkS K last s p a)(h2:BlkS K last s p b):a=b:=by
  rcases h with⟨e,rfl⟩|⟨e,rfl⟩|⟨e,lit,dist,s3,h,rfl⟩
  · rcases h2 with⟨_,rfl⟩|⟨e2,_⟩|⟨e2,_⟩
    · rfl
    · omega
    · omega
  · rcases h2 with⟨e2,_⟩|⟨_,rfl⟩|⟨e2,_⟩
    · omega
    · rfl
    · omega
  · rcases h2 with⟨e2,_⟩|⟨e2,_⟩|⟨_,lit2,dist2,s4,h2,rfl⟩
    · omega
    · omega
    · obtain⟨rfl,rfl,rfl⟩:=h.det h2
      rfl
def DeflS(K:Known)(bl:List PB)(a b:Nat×Wr):Prop:=a.1<bl.length∧b.1=a.1+1∧∃p last,bl[a.1]? =some p∧(last=true↔a.1+1=bl.length)∧BlkS K last a.2 p b.2
theorem DeflS.det{K:Known}{bl:List PB}{a b c:Nat×Wr}(h:DeflS K bl a b)(h2:DeflS K bl a c):b=c:=by
  obtain⟨_,e,p,last,h3,h4,h5⟩:=h
  obtain⟨_,e2,p2,last2,h6,h7,h8⟩:=h2
  have:=Option.some.inj (h3.symm.trans h6)
  subst this
  have:last=last2:=by
    have:=h4.trans h7.symm
    cases last<;>cases last2<;>simp_all
  subst this
  exact Prod.ext (e.trans e2.symm) (h5.det h8)
def blN(l:List PB):List PB:=if l=[]then [ZB]else l
def DeflD(K:Known)(l:List PB)(b:List UInt8):Prop:=∃s,Star (DeflS K (blN l)) (0,(0,0)) ((blN l).length,s)∧leN b=s.1∧b.length=(s.2+7)/8
theorem DeflD.det{K:Known}{l:List PB}{a b:List UInt8}(h:DeflD K l a)(h2:DeflD K l b):a=b:=by
  obtain⟨s,h3,h4,h5⟩:=h
  obtain⟨s2,h6,h7,h8⟩:=h2
  have e:=Star.det (R:=DeflS K (blN l)) (fun a b=>DeflS.det a b) h3 h6 (fun x hx=>Nat.lt_irrefl _ hx.1) (fun x hx=>Nat.lt_irrefl _ hx.1)
  injection e with _ e
  subst e
  exact leN_inj (h5.trans h8.symm) (h4.trans h7.symm)
theorem sum_toks{lit dist:List Nat}{s:Wr}{out o:List UInt8}{l:List TokM}(h1:∀x∈lit,x≤15)(h2:∀x∈dist,x≤15)(h:toksD out l=some o)(h256:lenOf lit 256≤15):(wcode (tksPut lit dist s (l.map tkOf)) lit 256).2≤s.2+48*l.length+15:=by
  have:=tks_room h1 h2 (s:=s) (toksD_ok h).2.1
  rw[List.length_map]at this
  simp only[wcode,wput]at this⊢
  omega
theorem zbRun(w:World):(Instr.buildSlice 33 1 [(0,Value.agg zcells.toArray)].toArray).run Tryz.prog w=.ok (.slice (some ⟨w.heap.size,0,none⟩) 1 1) (w.alloc (.cells zcells.toArray 73)):=by
  simp[Instr.buildSlice,Instr.fill,Value.cells,newRow,Tryz.runUnderlying33,Tryz.typeInfo73,zcells]
  rw[show Array.range 4=#[0,1,2,3] by decide];simp
def DeflE(K:Known)(l:List PB)(data:List UInt8)(r:Value)(L:Frags):Prop:=∃v b g,r=v∧Sl 1 v b.length (bytesV b) [g]∧0<b.length∧b.length≤1250*(wtL l+2)∧DeflOk b data∧DeflD K l b∧L=[g]
theorem deflated_walk{K:Known}(hS:SpT K)(hOC:CapS K 7)(bl0:List PB)(a:Option Addr)(c:Nat)(hBl:bl0=[]∨∃b o,a=some ⟨b,o,none⟩∧∀i (h:i<bl0.length),∃cs,BlkA K cs bl0[i]∧∀j u,cs[j]? =some u→cellAt K b (o+i*4+j)=some u)(hlen:wtL bl0≤10000000)(hll:bl0.length≤10000000)(data:List UInt8)(hdata:dataGo [] bl0=some data):Fn Tryz.prog K 26 #[.slice a bl0.length c] ([]) (fun r L=>∃L2 J,Same L (L2++J)∧DeflE K bl0 data r L2):=by
 refine Fn.intro (args:=[.slice a bl0.length c]) (RR:=Ret1 2 _) Tryz.func26 rfl rfl Tryz.ntmps26 (res1 Tryz.results26) ?_
 refine Bi (env2:=[(0,.slice a bl0.length c)]) U<|Cr ?_
 have hSz:∀i,wtL (bl0.take i)≤wtL bl0:=fun i=>wtL_take_le bl0 i
 refine Ea U U<|Ek2 0 2 U<|Cr<|Aa (Et (v:=.agg #[.slice none 0 0,.int .i64 0]) [] U (fun w=>by simp[Instr.build,Instr.fill,Value.cells,Tryz.zeroValue111])) U ?_
 refine Ai (X.box U) U ?_;rintro _ _⟨b12,rfl,rfl⟩;refine Er1 U ?_
 obtain⟨wb,hwb0⟩:∃x,x=b12:=⟨_,rfl⟩
 subst hwb0
 refine Ax (L2:=[⟨wb,0,[.slice none 0 0,.int .i64 0]⟩]) U<|Ev (L2:=[⟨wb,0,[.slice none 0 0,.int .i64 0]⟩,⟨wb,0,[]⟩,⟨wb,0,[]⟩]) ((Same.empty wb 0 0 _ []).trans (Same.empty wb 0 0 _ _)) ?_
 have hWz:WAt wb (0,0) ⟨wb,0,[.slice none 0 0,.int .i64 0]⟩ ⟨wb,0,[]⟩:=⟨_,[],rfl,.inl ⟨rfl,rfl,rfl⟩,rfl,rfl,by show(0:Nat)<1;decide⟩
 refine Ea U U<|Ek3 0 2 3 U<|Du (M:=fun ee ll=>∃(bb:Nat),∃(bo:Nat),∃(bc0:Nat),∃(bl:List PB),∃(f0:Frag),∃(g0:Frag),∃(z:Frag),keeps ee [0,3]=some [(0,.slice (some ⟨bb,bo,none⟩) bl.length bc0),(3,.pointer (some ⟨wb,0,none⟩))]∧ll=[f0,g0,z]∧(WAt wb (0,0) f0 g0)∧(0<bl.length)∧(dataGo [] bl=some data)∧(wtL bl≤wtL bl0+1)∧(bl.length≤bl0.length+1)∧(BlocksE K z bb bo bl)∧(bl=blN bl0)) ?_ ?_
 ·refine Cr<|Em U U<|Aa (Bc U Tu33) U<|Aa (Ef (b:=((0:Nat):Int)) U U) U<|Ek4 0 2 3 15 U<|Bf U (fun h15=>?_) (fun h15=>?_)
  ·refine Al<|Aa (Et (v:=.agg #[.int .i64 0,.slice none 0 0,.slice none 0 0,.slice none 0 0]) [] U (fun w=>by simp[Instr.build,Instr.fill,Value.cells,Tryz.zeroValue73])) U ?_
   refine Ai (Bn (vs:=zcells) (e:=73) [(0,.agg zcells.toArray)] U zbRun) U ?_;rintro _ _⟨yb,rfl,rfl⟩;refine Er4 U ?_
   refine Ds [1,1,0] (A:=[_,_,_]) U<|Ea U U<|Ek4 0 2 3 15 U ?_
   exact⟨yb,0,1,[ZB],_,_,_,rfl,rfl,hWz,(by decide),(by rw[show bl0=[]from List.eq_nil_of_length_eq_zero (by omega)]at hdata;exact hdata),(by show 1≤_;omega),(by show 1≤_;omega),(BlocksE.zero K yb),(by unfold blN;rw[if_pos (List.eq_nil_of_length_eq_zero (by omega))])⟩
  obtain⟨bb1,bo1,ha,hcell⟩:=hBl.resolve_left (fun h=>by rw[h]at h15;exact h15 rfl)
  subst ha
  refine Ap ?_
  exact⟨bb1,bo1,c,bl0,_,_,_,rfl,rfl,hWz,(by omega),hdata,(by omega),(by omega),(BlocksB.e hcell _),(by unfold blN;rw[if_neg (fun h=>by rw[h]at h15;exact h15 U)])⟩
 rintro _ _⟨bb,bo,bc0,bl,f0,g0,z,hq4,rfl,hW0,hbl0,hdat,hwb,hln,hBE,hblN⟩
 refine Av _ hq4<|Am<|Cr<|Em U U<|Aa (Bc U Tu33) U<|Em U U<|Ek5 0 3 18 19 20 U<|As ?_
 refine Bw (fun mm ee ll=>∃(i:Nat),∃(out:List UInt8),∃(s:Wr),∃(f:Frag),∃(g:Frag),keeps ee [0,3,18,19,20]=some [(0,.slice (some ⟨bb,bo,none⟩) bl.length bc0),(3,.pointer (some ⟨wb,0,none⟩)),(18,.slice (some ⟨bb,bo,none⟩) bl.length bc0),(19,.int .i64 ((bl.length:Nat):Int)),(20,.int .i64 ((i:Nat):Int))]∧ll=[f,g,z]∧(i≤bl.length)∧(dataGo out (bl.drop i)=some data)∧(WAt wb s f g)∧(StD bl data s out i)∧(s.2≤10000*wtL (bl.take i))∧(0<i→0<s.2)∧(Star (DeflS K bl) (0,(0,0)) (i,s))∧mm=bl.length-i) (_) ⟨0,[],(0,0),_,_,rfl,rfl,Nat.zero_le _,(by rw[List.drop_zero];exact hdat),hW0,(.inl ⟨hbl0,PreR.zero⟩),Nat.zero_le _,(fun h=>absurd h (by decide)),Star.refl _,rfl⟩ ?_
 rintro m0 _ _⟨i,out,s,f,g,hk0,rfl,hi,hgo,hW,hst,hsz,hs0,hSD,hm0⟩
 refine Av _ hk0<|Cr<|Aa (Dl U U) U<|Ek6 0 3 18 19 20 21 U<|Am<|Bf U (fun h21=>?_) (fun h21=>?_)
 ·have hi2:i<bl.length:=by omega
  obtain⟨out2,ho2,hgo2⟩:=data_next hi2 hgo
  have hPre:PreR s out:=(hst.resolve_right (by omega)).2
  obtain⟨cells,⟨ba,bc,tv,na,nn,nc,rfl,hBA,hTA,hZ,hna,hnn⟩,hrd⟩:=hBE i hi2
  obtain⟨p,hp⟩:∃p,p=bl[i]:=⟨_,rfl⟩
  rw[←hp]at hBA hrd hTA ho2 hna hnn
  obtain⟨ta,tc,htv,_⟩:=id hTA
  subst htv
  have hbi:bl[i]? =some p:=by rw[List.getElem?_eq_getElem hi2,←hp]
  have hwt:=wtL_take_succ hi2
  rw[←hp]at hwt
  have hw1:wtB p=p.bytes.length+p.toks.length+1:=rfl
  have hwl:=wtL_take_le bl (i+1)
  obtain⟨wh,hwh,hwh3⟩:=blkD_what ho2
  refine Ap<|Du (M:=fun ee ll=>∃(out5:List UInt8),∃(s5:Wr),∃(f5:Frag),∃(g5:Frag),keeps ee [0,3,18,19,20]=some [(0,.slice (some ⟨bb,bo,none⟩) bl.length bc0),(3,.pointer (some ⟨wb,0,none⟩)),(18,.slice (some ⟨bb,bo,none⟩) bl.length bc0),(19,.int .i64 ((bl.length:Nat):Int)),(20,.int .i64 ((i:Nat):Int))]∧ll=[f5,g5,z]∧(WAt wb s5 f5 g5)∧(dataGo out5 (bl.drop (i+1))=some data)∧(StD bl data s5 out5 (i+1))∧(s5.2≤10000*wtL (bl.take (i+1)))∧(0<s5.2)∧(Star (DeflS K bl) (0,(0,0)) (i+1,s5))) ?_ ?_
  ·refine As<|Cr<|Em U U<|Aa (Bm (b:=bb) (o:=bo) (l:=bl.length) (c:=bc0) (i:=i) (k:=.i64) U U hi2 Tu33 Tz73) U<|Ag (S.loadAR (k:=0) (m:=4) (cs:=[.int .i64 p.what,.slice ba p.bytes.length bc,.slice ta p.toks.length tc,.slice na nn nc]) (hrd _ (.tail _ (.tail _ (.head _)))) U U U Tryz.isAgg73 Tz73) U ?_
   refine Ai (Dq Tryz.zeroValue73) U ?_;rintro _ _⟨b5,rfl,rfl⟩;refine Er4 U ?_
   refine Ax (L2:=⟨b5,0,[.int .i64 0,.slice none 0 0,.slice none 0 0,.slice none 0 0]⟩::[f,g,z]) (by kernel_rfl)<|Ea U U ?_
   refine Ao (Bq 0 (k:=0) U U U U U U Tz73 U) ?_;rintro _ _⟨rfl,rfl⟩;refine Er4 U ?_
   refine Ek8 0 3 4 5 18 19 20 21 U<|Cr<|Ea U U<|Ek9 0 3 4 5 6 18 19 20 21 U<|Du (M:=fun ee ll=>∃(last:Bool),keeps ee [0,3,5,6,18,19,20]=some [(0,.slice (some ⟨bb,bo,none⟩) bl.length bc0),(3,.pointer (some ⟨wb,0,none⟩)),(5,.pointer (some ⟨b5,0,none⟩)),(6,.int .i64 ((lastN last:Nat):Int)),(18,.slice (some ⟨bb,bo,none⟩) bl.length bc0),(19,.int .i64 ((bl.length:Nat):Int)),(20,.int .i64 ((i:Nat):Int))]∧ll=[⟨b5,0,[.int .i64 p.what,.slice ba p.bytes.length bc,.slice ta p.toks.length tc,.slice na nn nc]⟩,f,g,z]∧(last=true↔i+1=bl.length)) ?_ ?_
   ·refine Cr<|Em U U<|Em U U<|Aa (Bc U Tu33) U<|Aa (Dr (b:=((1:Nat):Int)) U U (N.sub64 (by omega) (by omega))) U<|Aa (Ef U U) U<|Ek10 0 3 4 5 6 18 19 20 21 29 U<|Bf U (fun h29=>?_) (fun h29=>?_)
    ·refine Al<|Ea U U<|Ek10 0 3 4 5 6 18 19 20 21 29 U ?_
     exact⟨true,rfl,rfl,⟨fun _=>by omega,fun _=>rfl⟩⟩
    refine Ap ?_
    exact⟨false,rfl,rfl,⟨fun h=>(by cases h),fun h=>absurd h (by omega)⟩⟩
   rintro _ _⟨last,hq10,rfl,hlast⟩
   refine Av _ hq10<|Cr<|Em U U<|Em U U ?_
   refine Ai (OpX.pick [1,1] (F:=[_,_]) U (Ar U Tryz.call41 (Gd hW (lastN last) 1 (Nat.lt_of_le_of_lt (lastN_le last) (by decide)) (by decide) (by omega)))) U ?_;rintro _ _⟨_,⟨f1,g1,rfl,hW1,rfl⟩,rfl⟩;refine Er4 U ?_
   refine Dd [2,0,0,0] U<|Er4 U<|Ek7 0 3 5 6 18 19 20 U<|Cr<|Em U U<|Aa (Ab U fa73_0) U<|Ag (Aj 0 (k:=0) U U U Ta3) U<|An (v:=.int .i64 ((wh:Nat):Int)) (by rw[hwh]) ?_
   refine Ai (OpX.pick [1,1] (F:=[_,_]) U (Ar U Tryz.call41 (Gd hW1 wh 2 (by omega) (by decide) (by simp only[wput];omega)))) U ?_;rintro _ _⟨_,⟨f2,g2,rfl,hW2,rfl⟩,rfl⟩;refine Er4 U ?_
   refine Dd [2,0,0,0] U<|Er4 U<|Ek7 0 3 5 6 18 19 20 U<|Cr<|Aa (Ab U fa73_0) U<|Ag (Aj 0 (k:=0) U U U Ta3) U<|Ek8 0 3 5 6 18 19 20 38 U<|As<|Cr<|Aa (Ef (b:=((0:Nat):Int)) U U) U<|Ea U U<|Ek9 0 3 5 6 18 19 20 38 56 U ?_
   refine Bf U (fun h56=>?_) (fun h56=>?_)
   ·have hw0:wh=0:=by omega
    subst hw0
    obtain⟨hbl,rfl⟩:=blkD_zero ho2 (by omega)
    have hok2:=hW2.ok
    have hW2h:WAt wb (whead s last 0) f2 g2:=hW2
    clear hW2
    obtain⟨v2,bs2,rfl,hB2,hv2,hl2,_⟩:=hW2h
    obtain⟨a2,c2,rfl⟩:=hB2.form
    have hwa:(walign (whead s last 0)).2=8*bs2.length:=by show 8*_=_;rw[hl2]
    have hwh2:(whead s last 0).2=s.2+3:=rfl
    refine Cr<|Em U U<|Em U U<|Aa (Ad U) U<|Aa (Ab U fa111_0) U<|Ag (Aj 1 (k:=0) U U U Ta25) U<|Aa (Bc U Tu25) U<|Aa (S.mul (a:=((8:Nat):Int)) U U (N.mul64 (by omega))) U<|An (v:=.int .i64 (((walign (whead s last 0)).2:Nat):Int)) (by rw[hwa])<|Aa (Ad U) U<|Aa (Ab U fa111_1) U ?_
    refine Ao (Aq 1 (k:=1) U U U U U Tz3) ?_;rintro _ _⟨rfl,rfl⟩;refine Er4 U ?_
    refine Ax (L2:=[⟨b5,0,[.int .i64 p.what,.slice ba p.bytes.length bc,.slice ta p.toks.length tc,.slice na nn nc]⟩,⟨wb,0,[.slice a2 bs2.length c2,.int .i64 (((walign (whead s last 0)).2:Nat):Int)]⟩,g2,z]) U ?_
    have hW3:WAt wb (walign (whead s last 0)) ⟨wb,0,[.slice a2 bs2.length c2,.int .i64 (((walign (whead s last 0)).2:Nat):Int)]⟩ g2:=⟨_,bs2,rfl,hB2,hv2,(by rw[hwa];omega),walign_ok hok2⟩
    refine Ek9 0 3 5 6 18 19 20 38 56 U<|Cr<|Em U U<|Aa (Ab U fa73_1) U<|Ag (Aj 0 (k:=1) U U U Ta25) U<|Aa (Bc U Tu25) U ?_
    refine Ai (OpX.pick [1,1] (F:=[_,_]) U (Ar U Tryz.call41 (Gd hW3 p.bytes.length 16 (by omega) (by decide) (by rw[hwa,hl2];omega)))) U ?_;rintro _ _⟨_,⟨f3,g3,rfl,hW3,rfl⟩,rfl⟩;refine Er4 U ?_
    refine Dd [2,0,0,0] U<|Er4 U<|Ek9 0 3 5 6 18 19 20 38 56 U<|Cr<|Em U U<|Aa (Ab U fa73_1) U<|Ag (Aj 0 (k:=1) U U U Ta25) U<|Aa (Bc U Tu25) U<|Aa (Dr (a:=((65535:Nat):Int)) U U (N.sub64 (by omega) (by omega))) U ?_
    refine Ai (OpX.pick [1,1] (F:=[_,_]) U (Ar U Tryz.call41 (Gd hW3 (65535-p.bytes.length) 16 (by omega) (by decide) (by simp only[wput];rw[hwa,hl2];omega)))) U ?_;rintro _ _⟨_,⟨f4,g4,rfl,hW4,rfl⟩,rfl⟩;refine Er4 U ?_
    refine Dd [2,0,0,0] U<|Er4 U ?_
    obtain⟨v4,bs4,rfl,hB4,hv4,hl4,ho4⟩:=hW4
    obtain⟨a4,c4,rfl⟩:=hB4.form
    have h24:(wput (wput (walign (whead s last 0)) p.bytes.length 16) (65535-p.bytes.length) 16).2=8*bs2.length+32:=by simp only[wput];rw[hwa]
    have hl4b:8*bs4.length=8*bs2.length+32:=by rw[hl4,h24];omega
    have hb2l:bs2.length≤140737488000:=by rw[hl2];omega
    have hla:(bs4++p.bytes).length=bs4.length+p.bytes.length:=List.length_append
    refine Ek9 0 3 5 6 18 19 20 38 56 U<|Am<|Bt [0,0,2,4,8,0,32,80,255,511,767] (.pure 0 254 (.pure 1 97 (.pure 2 99 (.pure 3 103 (.pure 5 31 (.seg [(4,111),(6,63)] (.alt 7 (.pure 8 255 (.pure 9 511 (.alt 10 .done .stop))) .stop))))))) mixed (by decide+kernel)<|Dm U U U<|Dm U U U<|Ah U (Ad U) U<|Ah U (Ab U fa111_0) U<|Ah U (Ab U fa73_1) U<|Dc (by decide)<|Au U (Aj 1 (k:=0) U U U Ta25) U<|Au U (Aj 0 (k:=1) U U U Ta25) U<|Da ?_
    refine By ?_
    refine Bo U (OpX.pick [2] (F:=[_,_,_]) U (X.appendBs (F:=[]) U U hB4 U (by omega) (hBA.rb _) (by omega))) U ?_;rintro _ _⟨_,⟨g6,hs6,rfl⟩,rfl⟩;refine Dr4 U ?_
    refine Hb [1,1,0,0] U<|Dr4 U ?_
    obtain⟨a6,c6,rfl⟩:=hs6.form
    refine Ah U (Ad U) U<|Ah U (Ab U fa111_0) U<|By ?_
    refine Di U (Aq 1 (k:=0) U U U U U Tz25) ?_;rintro _ _⟨rfl,rfl⟩;refine Dr4 U ?_
    refine Dk9 0 3 5 6 18 19 20 38 56 U<|Al<|Em U U<|Em U U<|Aa (Ad U) U<|Aa (Ab U fa111_0) U<|Ag (Aj 1 (k:=0) U U U Ta25) U<|Aa (Bc U Tu25) U<|Aa (S.mul (a:=((8:Nat):Int)) U U (N.mul64 (by omega))) U ?_
    have hst2:(wstored (whead s last 0) p.bytes).2=8*(bs4++p.bytes).length:=by show _+8*p.bytes.length=_;rw[h24,List.length_append];omega
    refine An (v:=.int .i64 (((wstored (whead s last 0) p.bytes).2:Nat):Int)) (by rw[hst2,Int.natCast_mul])<|Aa (Ad U) U<|Aa (Ab U fa111_1) U ?_
    refine Ao (Aq 1 (k:=1) U U U U U Tz3) ?_;rintro _ _⟨rfl,rfl⟩;refine Er4 U ?_
    refine Ds [1,1,1] (A:=[_,_,_]) U<|Ax (L2:=[⟨wb,0,[.slice a6 (bs4++p.bytes).length c6,.int .i64 (((wstored (whead s last 0) p.bytes).2:Nat):Int)]⟩,g6,z]) U ?_
    have hW6:WAt wb (wstored (whead s last 0) p.bytes) ⟨wb,0,[.slice a6 (bs4++p.bytes).length c6,.int .i64 (((wstored (whead s last 0) p.bytes).2:Nat):Int)]⟩ g6:=⟨_,bs4++p.bytes,rfl,.inr hs6,(by rw[leN_append,hv4];show _=_+2^_*_;rw[h24,←hl4b]),(by rw[hst2];omega),wstored_ok hok2 _⟩
    rw[List.length_append]at hst2
    refine Ek9 0 3 5 6 18 19 20 38 56 U ?_
    exact⟨_,(wstored (whead s last 0) p.bytes),_,_,rfl,rfl,hW6,hgo2,(blk_next hlast hi2 hPre hW6.ok (blk_stored hPre.1 hbl) hgo2),(by rw[hwt,hw1,hst2];omega),(by rw[hst2];omega),(hSD.snoc ⟨hi2,rfl,p,last,hbi,hlast,.inl ⟨by omega,rfl⟩⟩)⟩
   have hw12:p.what=1∨p.what=2:=by omega
   have htko:=toksD_ok (blkD_tok ho2 hw12)
   have htd:=blkD_tok ho2 hw12
   refine Cr<|Aa (Ef (b:=((1:Nat):Int)) U U) U<|Ea U U<|Ek10 0 3 5 6 18 19 20 38 56 97 U<|Bf U (fun h97=>?_) (fun h97=>?_)
   ·have hw0:wh=1:=by omega
    subst hw0
    have hW2h:WAt wb (whead s last 1) f2 g2:=hW2
    have hwh2:(whead s last 1).2=s.2+3:=rfl
    have hfx:lenOf fixLit 256=7:=by decide+kernel
    have hroom:=sum_toks (s:=whead s last 1) fix15 fixd15 htd (by rw[hfx];decide)
    refine Cr ?_
    refine Ai (OpX.pick [] (F:=[_,_,_,_]) U (Ar U Tryz.call42 fixed_spec)) U ?_;rintro _ _⟨_,⟨lb,lo,lc,ls,db,do_,dc,ds,rfl,rfl⟩,rfl⟩;refine Er6 U ?_
    refine Em U U<|Aa (Bg U U) U<|Aa (Bg U U) U<|Ea U U<|Ea U U<|Ek12 0 3 5 6 7 8 18 19 20 38 56 97 U<|Al<|Em U U<|Aa (Ab U fa73_2) U<|Ag (Aj 2 (k:=2) U U U Tryz.isAgg71) U<|Em U U<|Em U U ?_
    refine Ai (OpX.pick [3,3,0,0] (F:=[_,_]) U (Ar U Tryz.call43 (tokens_spec hS wb (whead s last 1) lb lo lc db do_ dc _ _ fixLit Ex fixK1 fixK2 fix15 fixd15 (by decide) (by decide) (by rw[hfx];decide) _ p.toks hTA (by omega) htko.1 out htko.2.1 (tks_fixed htko.2.1) (by omega) _ _ hW2h))) U ?_;rintro _ _⟨_,⟨f6,g6,rfl,hW6,rfl⟩,rfl⟩;refine Er6 U ?_
    refine Ds [0,0,3] (A:=[f6,g6,z]) U<|Ek12 0 3 5 6 7 8 18 19 20 38 56 97 U ?_
    exact⟨_,(wcode (tksPut fixLit Ex (whead s last 1) (p.toks.map tkOf)) fixLit 256),_,_,rfl,rfl,hW6,hgo2,(blk_next hlast hi2 hPre hW6.ok (htko.2.2▸blk_fixed hPre.1 htko.2.1) hgo2),(by rw[hwt,hw1];omega),(Nat.lt_of_lt_of_le (by rw[hfx];decide) (Nat.le_add_left _ _)),(hSD.snoc ⟨hi2,rfl,p,last,hbi,hlast,.inr (.inl ⟨by omega,rfl⟩)⟩)⟩
   have hw0:wh=2:=by omega
   subst hw0
   have hW2h:WAt wb (whead s last 2) f2 g2:=hW2
   have hwh2:(whead s last 2).2=s.2+3:=rfl
   refine Cr<|Em U U<|Aa (Ab U fa73_2) U<|Ag (Aj 0 (k:=2) U U U Tryz.isAgg71) U<|Aa (Ab U fa73_3) U<|Ag (Aj 0 (k:=3) U U U Ta23) U<|Aa (Et (v:=.agg #[.slice na nn nc,.int .i64 0]) [(0,.slice na nn nc)] U (fun w=>by simp[Instr.build,Instr.fill,Value.cells,Tryz.zeroValue119])) U ?_
   refine Ai (X.box U) U ?_;rintro _ _⟨b46,rfl,rfl⟩;refine Er5 U ?_
   refine Ai (OpX.pick [2,2,0] (F:=[_,_]) U (Ar U Tryz.call44 (own_spec hS hOC wb (whead s last 2) b46 na nn nc hZ 0 (by decide) _ p.toks hTA (by omega) htko.1 (by omega) _ _ hW2h))) U ?_;rintro _ _⟨_,⟨lit,dist,lb,l2,db,d2,dc,s3,f3,g3,rfl,hW3,hO,ok1,ok2,h15a,h15b,hl1,hl2,h256,hu,hs3,hOD,rfl⟩,rfl⟩;refine Er6 U ?_
   have hl15:=(code_small ok1 h15a h256).2
   have hroom:=sum_toks (s:=s3) h15a h15b htd hl15
   refine Em U U<|Aa (Bg U U) U<|Aa (Bg U U) U<|Ea U U<|Ea U U<|Ek12 0 3 5 6 9 10 18 19 20 38 56 97 U<|Al<|Em U U<|Aa (Ab U fa73_2) U<|Ag (Aj 4 (k:=2) U U U Tryz.isAgg71) U<|Em U U<|Em U U ?_
   refine Ai (OpX.pick [0,0,0,0] (F:=[_,_]) U (Ar U Tryz.call43 (tokens_spec hS wb s3 lb 0 286 db 0 dc _ _ lit dist ok1 ok2 h15a h15b hl1 hl2 h256 _ p.toks hTA (by omega) htko.1 out htko.2.1 hu (by omega) _ _ hW3))) U ?_;rintro _ _⟨_,⟨f6,g6,rfl,hW6,rfl⟩,rfl⟩;refine Er6 U ?_
   refine Ds [0,0,3] (A:=[f6,g6,z]) U<|Ek12 0 3 5 6 9 10 18 19 20 38 56 97 U ?_
   exact⟨_,(wcode (tksPut lit dist s3 (p.toks.map tkOf)) lit 256),_,_,rfl,rfl,hW6,hgo2,(blk_next hlast hi2 hPre hW6.ok (htko.2.2▸blk_own hPre.1 hO ok1 ok2 h256 htko.2.1 hu) hgo2),(by rw[hwt,hw1];omega),(Nat.lt_of_lt_of_le h256 (Nat.le_add_left _ _)),(hSD.snoc ⟨hi2,rfl,p,last,hbi,hlast,.inr (.inr ⟨by omega,lit,dist,s3,by rw[←hna,←hnn];exact hOD,rfl⟩)⟩)⟩
  rintro _ _⟨out5,s5,f5,g5,hq24,rfl,hW5,hgo5,hst5,hsz5,hp5,hSD5⟩
  refine Av _ hq24<|Al<|Aa (Bl (b:=((1:Nat):Int)) U U (N.add64 (by omega))) U<|Em U U<|Ek5 0 3 18 19 20 U ?_
  refine⟨_,?_,i+1,out5,s5,f5,g5,rfl,rfl,by omega,hgo5,hW5,hst5,hsz5,(fun _=>hp5),hSD5,rfl⟩;omega
 have hi2:i=bl.length:=by omega
 obtain⟨v9,bs9,rfl,hB9,hv9,hl9,ho9⟩:=hW
 have hwl:=wtL_take_le bl i
 refine Bu U<|Cr<|Em U U<|Aa (Ad U) U<|Aa (Ab U fa111_0) U<|Ag (Aj 0 (k:=0) U U U Ta25) U<|Ea U U<|Ek7 0 2 3 18 19 20 21 U<|Bb ?_
 refine⟨_,rfl,[_],[_,_],Same.perm (Br (A:=[_]) (F:=[_,_]) (is:=[1]) U),v9,bs9,g,rfl,hB9.sl ?_,?_,?_,?_,⟨s,by rw[←hblN,←hi2];exact hSD,hv9,hl9⟩,rfl⟩
 · rw[hl9];have:=hs0 (by omega);omega
 · rw[hl9];have:=hs0 (by omega);omega
 · rw[hl9];omega
 · exact(hst.resolve_left (by omega)).2 bs9 hv9 hl9
structure PM where
  hd:Hd
  data:List UInt8
  left:Nat
def memR(l:List UInt8)(h:Hd)(out rest:List UInt8):Prop:=(Ac l).1=.none∧(Ac l).2.2=h∧gzR false (Ac l).2.1=(out,1,rest)
def Chain:List UInt8→List PM→List UInt8→Prop
  |l,[],l2=>l=l2
  |l,m::r,l2=>∃rest,memR l m.hd m.data rest∧m.left=rest.length∧Chain rest r l2
def allD(ms:List PM):List UInt8:=ms.flatMap PM.data
theorem allD_cons(ms:List PM)(m:PM):allD (m::ms)=m.data++allD ms:=by unfold allD;rw[List.flatMap_cons]
theorem gzR_cases(l:List UInt8):
    (∃q,(run l .next [] 0).2=.done q∧¬(l.drop q).length<8∧fits (run l .next [] 0).1 (l.drop q)∧∀ms,gzR ms l=((run l .next [] 0).1++(gzT ms l).1,(gzT ms l).2))∨
    (((gzR false l).2.1=5∨(gzR false l).2.1=3)∧gzR true l=gzR false l∧(gzR false l).1=(run l .next [] 0).1):=by
  cases h:(run l .next [] 0).2 with
  |bad=>
    right
    rw[gzR_eq,gzR_eq,gzT_bad h,gzT_bad h]
    exact⟨.inl U,rfl,List.append_nil _⟩
  |done q=>
    by_cases h1:(l.drop q).length<8
    · right
      rw[gzR_eq,gzR_eq,gzT_short h h1,gzT_short h h1]
      exact⟨.inl U,rfl,List.append_nil _⟩
    · by_cases h2:fits (run l .next [] 0).1 (l.drop q)
      · exact .inl ⟨q,rfl,h1,h2,fun ms=>gzR_eq⟩
      · right
        rw[gzR_eq,gzR_eq,gzT_sum h h1 h2,gzT_sum h h1 h2]
        exact⟨.inr U,rfl,List.append_nil _⟩
theorem gz_good{l out:List UInt8}{q:Nat}(h:run l .next [] 0=(out,.done q))(h1:¬(l.drop q).length<8)(h2:fits out (l.drop q)):gzR false l=(out,1,(l.drop q).drop 8):=by
  rw[gzR_eq,gzT_one (by rw[h]) h1 (by rw[h];exact h2) rfl,h]
  simp
def RB(K:Known)(L:Frags)(a:Option Addr)(l:List UInt8):Prop:=l=[]∨∃b o,a=some ⟨b,o,none⟩∧Reads K L b o (bytesV l)
theorem str_toList(l:List UInt8):(ByteArray.mk l.toArray).toList=l:=by
  rw[ByteArray.toList_eq]
theorem str_beq(l m:List UInt8):((ByteArray.mk l.toArray).toList==(ByteArray.mk m.toArray).toList)=decide (l=m):=by
  rw[str_toList,str_toList]
  by_cases h:l=m
  · subst h;simp
  · simp[h]
theorem bytesEqual_known{K:Known}(a1 a2:Option Addr)(c1 c2:Nat)(l1 l2:List UInt8)(h1:RB K [] a1 l1)(h2:RB K [] a2 l2):Fn Tryz.prog K 13 #[.slice a1 l1.length c1,.slice a2 l2.length c2] ([]) (fun v _=>v=.bool (decide (l1=l2))):=by
 refine Fn.intro (args:=[.slice a1 l1.length c1,.slice a2 l2.length c2]) (RR:=Ret1 4 _) Tryz.func13 rfl rfl Tryz.ntmps13 (res1 Tryz.results13) ?_
 refine Bi (env2:=[(0,.slice a1 l1.length c1),(1,.slice a2 l2.length c2)]) U<|Cr<|Ea U U<|Ek3 0 1 4 U<|Cr<|Em U U<|Ag (S.bytesStr (l:=l1) Tu25 Tu5 Tu9 U h1) U<|Em U U<|Ag (S.bytesStr (l:=l2) Tu25 Tu5 Tu9 U h2) U<|Aa (S.eqStr U U) U<|Ea U U<|Ek1 4 U ?_
 refine Bb ?_
 exact⟨_,rfl,by first|(rw[←str_beq];done)|(rw[←str_beq];rfl)⟩
theorem RB.still{K:Known}{L:Frags}{a:Option Addr}{l:List UInt8}(h:RB K L a l){w:World}(hw:Agree K L w.heap):RB (fun b=>w.heap[b]?) [] a l:=by
  rcases h with h|⟨b,o,h1,h2⟩
  · exact .inl h
  · exact .inr ⟨b,o,h1,(h2.kb hw).reads⟩
theorem RB.lift{K:Known}{L:Frags}{a:Option Addr}{l:List UInt8}(h:RB K [] a l):RB K L a l:=by
  rcases h with h|⟨b,o,h1,h2⟩
  · exact .inl h
  · exact .inr ⟨b,o,h1,fun w hw=>h2 w ⟨hw.base,(fun f hf=>by cases hf),(fun f hf=>by cases hf),List.Pairwise.nil⟩⟩
theorem bytesEqual_spec{K:Known}{L:Frags}(a1 a2:Option Addr)(c1 c2:Nat)(l1 l2:List UInt8)(h1:RB K L a1 l1)(h2:RB K L a2 l2):
    Fn Tryz.prog K 13 #[.slice a1 l1.length c1,.slice a2 l2.length c2] L (fun v L'=>v=.bool (decide (l1=l2))∧L'=L):=
  Fn.stillR fun w hw=>bytesEqual_known a1 a2 c1 c2 l1 l2 (h1.still hw) (h2.still hw)
theorem text_beq(s u:ByteArray):(s.toList==u.toList)=decide (s=u):=by
  rw[ByteArray.toList_eq,ByteArray.toList_eq]
  by_cases h:s=u
  · subst h;simp
  · have:s.data.toList≠u.data.toList:=fun e=>h (by
      cases s with|mk x=>cases u with|mk y=>exact congrArg ByteArray.mk (Array.ext' e))
    rw[decide_eq_false h];exact beq_false_of_ne this
theorem same_known{K:Known}(n1 n2 c1 c2:ByteArray)(a1 a2:Option Addr)(k1 k2:Nat)(l1 l2:List UInt8)(m1 m2 o1 o2:Nat)(h1:RB K [] a1 l1)(h2:RB K [] a2 l2):Fn Tryz.prog K 12 #[.agg #[.string n1,.string c1,.slice a1 l1.length k1,.int .i64 ((m1:Nat):Int),.int .u8 ((o1:Nat):Int)],.agg #[.string n2,.string c2,.slice a2 l2.length k2,.int .i64 ((m2:Nat):Int),.int .u8 ((o2:Nat):Int)]] ([]) (fun v _=>v=.bool (decide (n1=n2∧c1=c2∧l1=l2∧m1=m2∧o1=o2))):=by
 refine Fn.intro (args:=[.agg #[.string n1,.string c1,.slice a1 l1.length k1,.int .i64 ((m1:Nat):Int),.int .u8 ((o1:Nat):Int)],.agg #[.string n2,.string c2,.slice a2 l2.length k2,.int .i64 ((m2:Nat):Int),.int .u8 ((o2:Nat):Int)]]) (RR:=Ret1 4 _) Tryz.func12 rfl rfl Tryz.ntmps12 (res1 Tryz.results12) ?_
 refine Bi (env2:=[(0,.agg #[.string n1,.string c1,.slice a1 l1.length k1,.int .i64 ((m1:Nat):Int),.int .u8 ((o1:Nat):Int)]),(1,.agg #[.string n2,.string c2,.slice a2 l2.length k2,.int .i64 ((m2:Nat):Int),.int .u8 ((o2:Nat):Int)])]) U<|Cr ?_
 refine Ai (X.box U) U ?_;rintro _ _⟨b2,rfl,rfl⟩;refine Er1 U ?_
 refine Ai (X.box U) U ?_;rintro _ _⟨b3,rfl,rfl⟩;refine Er2 U ?_
 refine Ea U U<|Ek3 2 3 4 U<|Cr<|Aa (Ab U fa27_0) U<|Ag (Aj 1 (k:=0) U U U Ta9) U<|Aa (Ab U fa32_0) U<|Ag (Aj 0 (k:=0) U U U Ta9) U<|Aa (S.eqStr U U) U<|An (v:=.bool (decide (n1=n2))) (congrArg Value.bool (text_beq n1 n2))<|Em U U<|Ek (fun g10=>?_) (fun g10=>?_)
 ·refine Ak 10 U U<|Aa (Ab U fa27_1) U<|Ak 10 U U<|Ag (Aj 1 (k:=1) U U U Ta9) U<|Ak 10 U U<|Aa (Ab U fa32_1) U<|Ak 10 U U<|Ag (Aj 0 (k:=1) U U U Ta9) U<|Ak 10 U U<|Aa (S.eqStr U U) U<|An (v:=.bool (decide (c1=c2))) (congrArg Value.bool (text_beq c1 c2))<|Aa (Bz U U) U ?_
  refine Em U U<|Ek (fun g17=>?_) (fun g17=>?_)
  ·refine Ak 17 U U<|Aa (Ab U fa27_2) U<|Ak 17 U U<|Ag (Aj 1 (k:=2) U U U Ta25) U<|Ak 17 U U<|Aa (Ab U fa32_2) U<|Ak 17 U U<|Ag (Aj 0 (k:=2) U U U Ta25) U<|Ak 17 U U ?_
   refine Ai (Ar U Tryz.call13 (bytesEqual_spec a1 a2 k1 k2 l1 l2 h1.lift h2.lift)) U ?_;rintro _ _⟨rfl,rfl⟩;refine Er2 U ?_
   refine Aa (Bz U U) U<|Em U U<|Ek (fun g24=>?_) (fun g24=>?_)
   ·refine Ak 24 U U<|Aa (Ab U fa27_3) U<|Ak 24 U U<|Ag (Aj 1 (k:=3) U U U Ta2) U<|Ak 24 U U<|Aa (Ab U fa32_3) U<|Ak 24 U U<|Ag (Aj 0 (k:=3) U U U Ta2) U<|Ak 24 U U<|Aa (Ef U U) U<|Aa (Bz U U) U<|Em U U ?_
    refine Ek (fun g31=>?_) (fun g31=>?_)
    ·refine Ak 31 U U<|Aa (Ab U fa27_4) U<|Ak 31 U U<|Ag (Aj 1 (k:=4) U U U Ta5) U<|Ak 31 U U<|Aa (Ab U fa32_4) U<|Ak 31 U U<|Ag (Aj 0 (k:=4) U U U Ta5) U<|Ak 31 U U<|Aa (Ef U U) U<|Aa (Bz U U) U<|Ea U U ?_
     refine Ek3 2 3 4 U<|Bb ?_
     refine⟨_,rfl,?_⟩
     exact congrArg Value.bool (decide_eq_decide.2 ⟨fun h=>⟨g10,g17,g24,by omega,by omega⟩,fun h=>by have:=h.2.2.2.2;omega⟩)
    refine Ae 31 false U U U U<|Ae 31 false U U U U<|Ae 31 false U U U U<|Ae 31 false U U U U<|Ae 31 false U U U U<|Aa (Bk U U) U<|Ea U U<|Ek3 2 3 4 U<|Bb ?_
    refine⟨_,rfl,?_⟩
    exact congrArg Value.bool (decide_eq_false (fun h=>g31 (by have:=h.2.2.2.1;omega))).symm
   refine Ae 24 false U U U U<|Ae 24 false U U U U<|Ae 24 false U U U U<|Ae 24 false U U U U<|Ae 24 false U U U U<|Aa (Bk U U) U<|Em U U<|Ae 31 false U U U U<|Ae 31 false U U U U<|Ae 31 false U U U U<|Ae 31 false U U U U<|Ae 31 false U U U U ?_
   refine Aa (Bk U U) U<|Ea U U<|Ek3 2 3 4 U<|Bb ?_
   refine⟨_,rfl,?_⟩
   exact congrArg Value.bool (decide_eq_false (fun h=>g24 h.2.2.1)).symm
  refine Ae 17 false U U U U<|Ae 17 false U U U U<|Ae 17 false U U U U<|Ae 17 false U U U U<|Ae 17 false U U U U<|Aa (Bk U U) U<|Em U U<|Ae 24 false U U U U<|Ae 24 false U U U U<|Ae 24 false U U U U<|Ae 24 false U U U U<|Ae 24 false U U U U ?_
  refine Aa (Bk U U) U<|Em U U<|Ae 31 false U U U U<|Ae 31 false U U U U<|Ae 31 false U U U U<|Ae 31 false U U U U<|Ae 31 false U U U U<|Aa (Bk U U) U<|Ea U U<|Ek3 2 3 4 U<|Bb ?_
  refine⟨_,rfl,?_⟩
  exact congrArg Value.bool (decide_eq_false (fun h=>g17 h.2.1)).symm
 refine Ae 10 false U U U U<|Ae 10 false U U U U<|Ae 10 false U U U U<|Ae 10 false U U U U<|Ae 10 false U U U U<|Aa (Bk U U) U<|Em U U<|Ae 17 false U U U U<|Ae 17 false U U U U<|Ae 17 false U U U U<|Ae 17 false U U U U<|Ae 17 false U U U U ?_
 refine Aa (Bk U U) U<|Em U U<|Ae 24 false U U U U<|Ae 24 false U U U U<|Ae 24 false U U U U<|Ae 24 false U U U U<|Ae 24 false U U U U<|Aa (Bk U U) U<|Em U U<|Ae 31 false U U U U<|Ae 31 false U U U U<|Ae 31 false U U U U ?_
 refine Ae 31 false U U U U<|Ae 31 false U U U U<|Aa (Bk U U) U<|Ea U U<|Ek3 2 3 4 U<|Bb ?_
 refine⟨_,rfl,?_⟩
 exact congrArg Value.bool (decide_eq_false (fun h=>g10 h.1)).symm
theorem same_spec{K:Known}{L:Frags}(n1 n2 c1 c2:ByteArray)(a1 a2:Option Addr)(k1 k2:Nat)(l1 l2:List UInt8)(m1 m2 o1 o2:Nat)(h1:RB K L a1 l1)(h2:RB K L a2 l2):
    Fn Tryz.prog K 12 #[.agg #[.string n1,.string c1,.slice a1 l1.length k1,.int .i64 ((m1:Nat):Int),.int .u8 ((o1:Nat):Int)],.agg #[.string n2,.string c2,.slice a2 l2.length k2,.int .i64 ((m2:Nat):Int),.int .u8 ((o2:Nat):Int)]] L (fun v L'=>v=.bool (decide (n1=n2∧c1=c2∧l1=l2∧m1=m2∧o1=o2))∧L'=L):=
  Fn.stillR fun w hw=>same_known n1 n2 c1 c2 a1 a2 k1 k2 l1 l2 m1 m2 o1 o2 (h1.still hw) (h2.still hw)
theorem update_db{K:Known}(poly sum:Nat)(ba:Option Addr)(cap:Nat)(l:List UInt8)(hpoly:poly<4294967296)(hsum:sum<4294967296)(hD:DB K ba l)(hl:l.length≤9223372036854775806):Fn Tryz.prog K 45 #[.int .u32 ((poly:Nat):Int),.int .u32 ((sum:Nat):Int),.slice ba l.length cap] ([]) (fun v L=>v=u32 (crcOn poly sum l)∧L=[]):=by
 refine Fn.intro (args:=[.int .u32 ((poly:Nat):Int),.int .u32 ((sum:Nat):Int),.slice ba l.length cap]) (RR:=Ret1 6 _) Tryz.func45 rfl rfl Tryz.ntmps45 (res1 Tryz.results45) ?_
 refine Bi (env2:=[(0,.int .u32 ((poly:Nat):Int)),(1,.int .u32 ((sum:Nat):Int)),(2,.slice ba l.length cap)]) U<|Cr<|Ea U U<|Ek4 0 1 2 6 U<|Cr<|Em U U<|Aa (S.not32 U (by omega)) U<|Ea U U<|Ek4 0 2 6 7 U<|Am<|Cr<|Em U U ?_
 refine Aa (Bc U Tu25) U<|Em U U<|Ek6 0 6 7 12 13 14 U<|As<|Bw (fun mm ee ll=>∃(i:Nat),∃(c:Nat),keeps ee [0,7,12,13,14]=some [(0,.int .u32 ((poly:Nat):Int)),(7,.int .u32 ((c:Nat):Int)),(12,.slice ba l.length cap),(13,.int .i64 ((l.length:Nat):Int)),(14,.int .i64 ((i:Nat):Int))]∧ll=[]∧(i≤l.length)∧(c=(nats (l.take i)).foldl (step poly) (not32 sum))∧(c<4294967296)∧mm=l.length-i) (_) ⟨0,_,rfl,rfl,by omega,rfl,not32_lt hsum,rfl⟩ ?_
 rintro m0 _ _⟨i,c,hk0,rfl,hi,hc,hb,hm0⟩
 refine Av _ hk0<|Cr<|Aa (Dl U U) U<|Ek6 0 7 12 13 14 15 U<|Am<|Bf U (fun h15=>?_) (fun h15=>?_)
 ·have hi2:i<l.length:=by omega
  have hv:=l[i].toNat_lt
  have hc2:=(fold_take (poly:=poly) (c0:=not32 sum) hi2).trans (by rw[←hc])
  obtain⟨pb,po,rfl,hp⟩:=hD.resolve_left (fun h=>by subst h;exact absurd hi2 (by simp))
  refine Ap<|Am<|As<|Cr<|Aa (Bm U U (by omega) Tu25 Tz5) U<|Ag (Be U (hp.at hi2) Ta5) U<|Ea U U<|Ek7 0 7 9 12 13 14 15 U<|Al<|Em U U<|Em U U<|Em U U ?_
  refine Aa (Bv U Tu5 Tu69 (N.in_u32 (by omega))) U<|Aa (S.xor U U (N.xor_u32 (by omega) (by omega))) U ?_
  refine Ai (OpX.pick [] (F:=[]) U (Ar U Tryz.call64 (divide_spec poly (c^^^l[i].toNat) hpoly (xor32 hb (by omega))))) U ?_;rintro _ _⟨_,⟨rfl,rfl⟩,rfl⟩;refine Ax (L2:=[]) U ?_
  refine Ea U U<|Ek7 0 7 9 12 13 14 15 U<|Al<|Aa (Bl (b:=((1:Nat):Int)) U U (N.add64 (by omega))) U<|Em U U<|Ek7 0 7 9 12 13 14 15 U ?_
  refine⟨_,?_,i+1,_,rfl,rfl,by omega,hc2.symm,step_lt hpoly hb l[i].toNat_lt,rfl⟩;omega
 have hi2:i=l.length:=by omega
 subst hi2
 rw[fold_take_all]at hc
 refine Bu U<|Cr<|Em U U<|Aa (S.not32 U (by omega)) U<|Ea U U<|Ek7 0 6 7 12 13 14 15 U<|Bb ?_
 exact⟨_,rfl,by rw[hc];rfl,rfl⟩
theorem check_db{K:Known}(ba:Option Addr)(cap:Nat)(l:List UInt8)(hD:DB K ba l)(hl:l.length≤9223372036854775806):Fn Tryz.prog K 28 #[.slice ba l.length cap] ([]) (fun v L=>v=u32 (crcOn IEEE 0 l)∧L=[]):=by
 refine Fn.intro (args:=[.slice ba l.length cap]) (RR:=Ret1 2 _) Tryz.func28 rfl rfl Tryz.ntmps28 (res1 Tryz.results28) ?_
 refine Bi (env2:=[(0,.slice ba l.length cap)]) U<|Cr<|Ea U U<|Ek2 0 2 U<|Cr<|Em U U ?_
 refine Ai (OpX.pick [] (F:=[]) U (Ar U Tryz.call45 (update_db IEEE 0 ba cap l (by decide) (by decide) hD hl))) U ?_;rintro _ _⟨_,⟨rfl,rfl⟩,rfl⟩;refine Ax (L2:=[]) U ?_
 refine Ea U U<|Ek1 2 U<|Bb ?_
 exact⟨_,rfl,rfl,rfl⟩
theorem RB.db{K:Known}{L:Frags}{a:Option Addr}{l:List UInt8}(h:RB K L a l){w:World}(hw:Agree K L w.heap):DB (fun b=>w.heap[b]?) a l:=by
  rcases h with h|⟨b,o,h1,h2⟩
  · exact .inl h
  · exact .inr ⟨b,o,h1,h2.kb hw⟩
theorem check_fr{K:Known}{L:Frags}(a:Option Addr)(c:Nat)(l:List UInt8)(h:RB K L a l)(hl:l.length≤9223372036854775806):Fn Tryz.prog K 28 #[.slice a l.length c] L (fun v L'=>v=u32 (crcOn IEEE 0 l)∧L'=L):=
  Fn.stillR fun w hw=>Fn.mono (check_db a c l (h.db hw) hl) fun v L h=>h.1
theorem RdV.same{a:Option Addr}{n c:Nat}{l:List UInt8}{G:Frags}(h:RdV (.slice a n c) l G):n=l.length∧∀(K:Known) (L:Frags),(∀f∈G,f∈L)→RB K L a l:=by
  obtain⟨a2,c2,e,h⟩:=h
  injection e with e1 e2 e3
  subst e1
  exact⟨e2,h⟩
set_option maxHeartbeats 2000000
set_option maxHeartbeats 1000000
structure MB where
  md:Md
  bl:List PB
def MbA(K:Known)(cs:List Value)(x:MB):Prop:=∃ea ec va vc,cs=[.string x.md.name,.string x.md.comment,.slice ea x.md.extra.length ec,.int .i64 x.md.mod,u8 x.md.os,.bool x.md.text,.bool x.md.checked,.bool x.md.ex,.bool x.md.nm,.bool x.md.cm,u8 x.md.flags,.slice va x.bl.length vc]∧(x.md.extra=[]∨∃b o,ea=some ⟨b,o,none⟩∧KB K b o x.md.extra)∧(x.bl=[]∨∃b o,va=some ⟨b,o,none⟩∧∀i (h:i<x.bl.length),∃cs,BlkA K cs x.bl[i]∧∀j u,cs[j]? =some u→cellAt K b (o+i*4+j)=some u)
def MdOk(x:MB)(nb cb data:List UInt8):Prop:=textB x.md.name.data.toList=some nb∧textB x.md.comment.data.toList=some cb∧nb.length<512∧cb.length<512∧x.md.extra.length≤65535∧0≤x.md.mod∧x.md.mod<4294967296∧dataGo [] x.bl=some data∧data.length≤2147483647
def MemP(K:Known)(x:MB)(part:List UInt8):Prop:=∃nb cb data b,MdOk x nb cb data∧DeflOk b data∧DeflD K x.bl b∧0<b.length∧b.length≤1250*(wtL x.bl+2)∧part=firstL x.md nb cb++b++numL (crcOn IEEE 0 data) 4++numL data.length 4
theorem MemP.det{K:Known}{x:MB}{p q:List UInt8}(h:MemP K x p)(h2:MemP K x q):p=q:=by
  obtain⟨nb,cb,data,b,⟨a1,a2,_,_,_,_,_,a3,_⟩,_,hD,_,_,rfl⟩:=h
  obtain⟨nb2,cb2,data2,b2,⟨c1,c2,_,_,_,_,_,c3,_⟩,_,hD2,_,_,rfl⟩:=h2
  rw[Option.some.inj (a1.symm.trans c1),Option.some.inj (a2.symm.trans c2),Option.some.inj (a3.symm.trans c3),hD.det hD2]
def AllP(K:Known):List MB→List (List UInt8)→Prop
  | [],[]=>True
  |x::xs,p::ps=>MemP K x p∧AllP K xs ps
  |_,_=>False
theorem AllP.det{K:Known}:∀{l:List MB} {ps qs:List (List UInt8)},AllP K l ps→AllP K l qs→ps=qs
  | [],[],[],_,_=>rfl
  |_::_,_::_,_::_,h,h2=>by rw[h.1.det h2.1,AllP.det h.2 h2.2]
  | [],_::_,_,h,_=>h.elim
  |_::_,[],_,h,_=>h.elim
  | [],_,_::_,_,h=>h.elim
  |_::_,_,[],_,h=>h.elim
theorem AllP.snoc{K:Known}:∀{l:List MB} {ps:List (List UInt8)} {x:MB} {p:List UInt8},AllP K l ps→MemP K x p→AllP K (l++[x]) (ps++[p])
  | [],[],_,_,_,h=>⟨h,trivial⟩
  |_::_,_::_,_,_,h,h2=>⟨h.1,AllP.snoc h.2 h2⟩
  | [],_::_,_,_,h,_=>h.elim
  |_::_,[],_,_,h,_=>h.elim
def wtM(x:MB):Nat:=wtL x.bl+60
def wtMs(l:List MB):Nat:=(l.map wtM).sum
theorem wtMs_succ{l:List MB}{i:Nat}(h:i<l.length):wtMs (l.take (i+1))=wtMs (l.take i)+wtM l[i]:=by
  unfold wtMs
  rw[List.take_add_one,List.getElem?_eq_getElem h,List.map_append,List.sum_append];simp
theorem wtMs_take(l:List MB)(i:Nat):wtMs (l.take i)≤wtMs l:=by
  have e:wtMs (l.take i++l.drop i)=wtMs (l.take i)+wtMs (l.drop i):=by unfold wtMs;rw[List.map_append,List.sum_append]
  rw[List.take_append_drop]at e
  omega
theorem wtL_len:∀l:List PB,l.length≤wtL l
  | []=>Nat.le_refl _
  |b::r=>by
    have:=wtL_len r
    rw[wtL_cons,List.length_cons]
    unfold wtB;omega
def FileR(K:Known)(l:List MB)(out:List UInt8):Prop:=∃ps,AllP K l ps∧ps.flatten=out
theorem FileR.nil{K:Known}:FileR K [] []:=⟨[],trivial,rfl⟩
theorem FileR.snoc{K:Known}{l:List MB}{x:MB}{out p:List UInt8}(h:FileR K l out)(hp:MemP K x p):FileR K (l++[x]) (out++p):=by
  obtain⟨ps,h1,h2⟩:=h
  exact⟨ps++[p],h1.snoc hp,by rw[List.flatten_append,h2];simp⟩
theorem take_snocM{l:List MB}{i:Nat}(h:i<l.length):l.take (i+1)=l.take i++[l[i]]:=by rw[List.take_add_one,List.getElem?_eq_getElem h];rfl
theorem data_rd{K:Known}(l:List PB)(a:Option Addr)(c:Nat)(hBl:(l=[]∨∃b o,a=some ⟨b,o,none⟩∧∀i (h:i<l.length),∃cs,BlkA K cs l[i]∧∀j u,cs[j]? =some u→cellAt K b (o+i*4+j)=some u))(hlen:wtL l≤10000000)(data:List UInt8)(hd:dataGo [] l=some data)(x:Frag)(F:Frags):
    Fn Tryz.prog K 11 #[.slice a l.length c] (x::F) (fun r L=>∃a2 c2 g,RdB a2 data g∧r=.tuple #[.slice a2 data.length c2,.bool true]∧L=g::x::F):=by
  have hl2:=wtL_len l
  have h1:Fn Tryz.prog K 11 #[.slice a l.length c] [] (fun r L=>DataR l r L):=by
    refine Fn.lose (data_walk l a c hBl (by omega) (by omega)) ?_
    rintro r L⟨L2,J,hS,h⟩
    exact⟨L2,J,hS,h⟩
  refine Fn.sameR (Fn.frame (F:=x::F) h1) ?_
  rintro r _⟨L1,⟨v,rfl,h⟩,rfl⟩
  rw[hd]at h⊢
  obtain⟨g,h1,h2⟩:=Sl.bs (xs:=data) h x F
  obtain⟨a2,c2,rfl,h3⟩:=h1.rd
  exact⟨_,h2,a2,c2,g,h3,rfl,rfl⟩
theorem first_rd{K:Known}(m:Md)(mo:Nat)(nb cb:List UInt8)(ea va:Option Addr)(ec vn vc:Nat)(hE:m.extra=[]∨∃b o,ea=some ⟨b,o,none⟩∧KB K b o m.extra)(hmo:m.mod.toNat=mo)(hmo2:mo<4294967296)(h1:m.name.size≤140737488355327)(h2:m.comment.size≤140737488355327)(hnb:textB m.name.data.toList=some nb)(hcb:textB m.comment.data.toList=some cb)(hnl:nb.length<512)(hcl:cb.length<512)(hel:m.extra.length≤65535):
    Fn Tryz.prog K 25 #[.agg #[.string m.name,.string m.comment,.slice ea m.extra.length ec,.int .i64 ((mo:Nat):Int),u8 m.os,.bool m.text,.bool m.checked,.bool m.ex,.bool m.nm,.bool m.cm,u8 m.flags,.slice va vn vc]] [] (fun r L=>∃a c g,RdB a (firstL m nb cb) g∧r=.slice a (firstL m nb cb).length c∧L=[g]):=by
  refine Fn.lose (first_walk m mo nb cb ea va ec vn vc hE hmo hmo2 h1 h2 hnb hcb hnl hcl hel) ?_
  rintro r L⟨g,F,h,rfl⟩
  obtain⟨a,c,rfl,h3⟩:=h.rd
  exact⟨[g],F,Same.refl _,a,c,g,h3,rfl,rfl⟩
theorem defl_rd{K:Known}(hS:SpT K)(hOC:CapS K 7)(l:List PB)(a:Option Addr)(c:Nat)(hBl:(l=[]∨∃b o,a=some ⟨b,o,none⟩∧∀i (h:i<l.length),∃cs,BlkA K cs l[i]∧∀j u,cs[j]? =some u→cellAt K b (o+i*4+j)=some u))(hlen:wtL l≤10000000)(data:List UInt8)(hd:dataGo [] l=some data):
    Fn Tryz.prog K 26 #[.slice a l.length c] [] (fun r L=>∃a2 c2 b g,RdB a2 b g∧0<b.length∧b.length≤1250*(wtL l+2)∧DeflOk b data∧DeflD K l b∧r=.slice a2 b.length c2∧L=[g]):=by
  have hl2:=wtL_len l
  refine Fn.lose (deflated_walk hS hOC l a c hBl hlen (by omega) data hd) ?_
  rintro r L⟨L2,J,hS,v,b,g,rfl,h1,h2,h3,h4,h6,rfl⟩
  obtain⟨a2,c2,rfl,h5⟩:=h1.rd
  exact⟨_,J,hS,a2,c2,b,g,h5,h2,h3,h4,h6,rfl,rfl⟩
theorem RdB.rb{a:Option Addr}{xs:List UInt8}{g:Frag}(h:RdB a xs g)(K:Known)(L:Frags)(hg:g∈L):RB K L a xs:=h K L hg
def MakeR(K:Known)(l:List MB)(r:Value)(L:Frags):Prop:=∃v out,r=v∧Sl 1 v out.length (bytesV out) L∧FileR K l out∧out.length≤1250*wtMs l
theorem make_walk{K:Known}(hS:SpT K)(hOC:CapS K 7)(l:List MB)(pb po pc:Nat)(hB:∀i (h:i<l.length),∃cs,MbA K cs l[i]∧∀j u,cs[j]? =some u→cellAt K pb (po+i*12+j)=some u)(hlen:wtMs l≤10000000)(hll:l.length≤10000000)(hmade:∀p∈l,∃nb cb data,MdOk p nb cb data)(hsize:∀p∈l,p.md.name.size≤140737488355327∧p.md.comment.size≤140737488355327):Fn Tryz.prog K 10 #[.slice (some ⟨pb,po,none⟩) l.length pc] ([]) (fun r L=>∃L2 J,Same L (L2++J)∧MakeR K l r L2):=by
 refine Fn.intro (args:=[.slice (some ⟨pb,po,none⟩) l.length pc]) (RR:=Ret1 2 _) Tryz.func10 rfl rfl Tryz.ntmps10 (res1 Tryz.results10) ?_
 refine Bi (env2:=[(0,.slice (some ⟨pb,po,none⟩) l.length pc)]) U<|Cr<|Ea U U<|Ek2 0 2 U<|Cr<|Ea U U<|Ek3 0 2 3 U<|Am<|Cr<|Em U U<|Aa (Bc U Tu22) U<|Em U U ?_
 refine Ek5 2 3 8 9 10 U<|As<|Bw (fun mm ee ll=>∃(i:Nat),∃(out:List UInt8),∃(v:Value),∃(Lf:Frags),keeps ee [3,8,9,10]=some [(3,v),(8,.slice (some ⟨pb,po,none⟩) l.length pc),(9,.int .i64 ((l.length:Nat):Int)),(10,.int .i64 ((i:Nat):Int))]∧ll=[]++Lf∧(i≤l.length)∧(FileR K (l.take i) out)∧(Sl 1 v out.length (bytesV out) Lf)∧(out.length≤1250*wtMs (l.take i))∧mm=l.length-i) (_) ⟨0,[],.slice none 0 0,[],rfl,rfl,Nat.zero_le _,FileR.nil,Sl.nil 1,Nat.zero_le _,rfl⟩ ?_
 rintro m0 _ Lf⟨i,out,v,_,hk0,rfl,hi,hF,hsl,hol,hm0⟩
 refine Av _ hk0<|Cr<|Aa (Dl U U) U<|Ek5 3 8 9 10 11 U<|Am<|Bf U (fun h11=>?_) (fun h11=>?_)
 ·have hi2:i<l.length:=by omega
  obtain⟨p,hp⟩:∃p,p=l[i]:=⟨_,rfl⟩
  have hpm:p∈l:=hp▸List.getElem_mem hi2
  obtain⟨nb,cb,data,hok⟩:=hmade p hpm
  obtain⟨hnb,hcb,hnl,hcl,hel,hm0,hm1,hdat,hdl⟩:=id hok
  obtain⟨cells,⟨ea,ec,va,vc,rfl,hE,hBl⟩,hcell⟩:=hB i hi2
  rw[←hp]at hE hBl hcell
  obtain⟨mo,hmo⟩:∃mo:Nat,p.md.mod=(mo:Int):=⟨p.md.mod.toNat,by omega⟩
  rw[hmo]at hcell
  have hwt:=wtMs_succ hi2
  rw[←hp]at hwt
  have hw1:wtM p=wtL p.bl+60:=rfl
  have hwl:=wtMs_take l (i+1)
  have hfl:=firstL_len (nb:=nb) (cb:=cb) hel hnl hcl
  obtain⟨hz1,hz2⟩:=hsize p hpm
  have hcrc:=Hi (poly:=IEEE) (crc:=0) (by decide) (by decide) data
  refine Ap<|Am<|As<|Cr<|Aa (Bm (b:=pb) (o:=po) (l:=l.length) (c:=pc) (i:=i) (k:=.i64) U U hi2 Tu22 Tz35) U<|Ag (Gg (vs:=[.string p.md.name,.string p.md.comment,.slice ea p.md.extra.length ec,.int .i64 ((mo:Nat):Int),u8 p.md.os,.bool p.md.text,.bool p.md.checked,.bool p.md.ex,.bool p.md.nm,.bool p.md.cm,u8 p.md.flags,.slice va p.bl.length vc]) U hcell U Tryz.isAgg35 Tz35) U ?_
  refine Ai (Dq Tryz.zeroValue35) U ?_;rintro _ _⟨b5,rfl,rfl⟩;refine Et2 U ?_
  refine Ao (Bq 0 (k:=0) U U U U U U Tz35 U) ?_;rintro _ _⟨rfl,rfl⟩;refine Et2 U ?_
  refine Ax (L2:=⟨b5,0,[.string p.md.name,.string p.md.comment,.slice ea p.md.extra.length ec,.int .i64 ((mo:Nat):Int),u8 p.md.os,.bool p.md.text,.bool p.md.checked,.bool p.md.ex,.bool p.md.nm,.bool p.md.cm,u8 p.md.flags,.slice va p.bl.length vc]⟩::Lf) U ?_
  refine Ev (L2:=Lf++[⟨b5,0,[.string p.md.name,.string p.md.comment,.slice ea p.md.extra.length ec,.int .i64 ((mo:Nat):Int),u8 p.md.os,.bool p.md.text,.bool p.md.checked,.bool p.md.ex,.bool p.md.nm,.bool p.md.cm,u8 p.md.flags,.slice va p.bl.length vc]⟩]) (Same.perm (permF fun x=>by simp only[List.append_eq,List.count_append,List.count_cons,List.count_nil];omega)) ?_
  obtain⟨og,hBo,hsm⟩:=hsl.bs ⟨b5,0,[.string p.md.name,.string p.md.comment,.slice ea p.md.extra.length ec,.int .i64 ((mo:Nat):Int),u8 p.md.os,.bool p.md.text,.bool p.md.checked,.bool p.md.ex,.bool p.md.nm,.bool p.md.cm,u8 p.md.flags,.slice va p.bl.length vc]⟩ []
  refine Ev hsm<|Ek6 3 5 8 9 10 11 U<|Cr<|Aa (Ab U fa35_7) U<|Ag (Aj 1 (k:=11) U U U Ta33) U ?_
  refine Ai (OpX.pick [1] (F:=[_]) U (Ar U Tryz.call11 (data_rd p.bl va vc hBl (by omega) data hdat _ []))) U ?_;rintro _ _⟨_,⟨da,dc,dg,hdR,rfl,rfl⟩,rfl⟩;refine Er3 U ?_
  refine Em U U<|Aa (Bg U U) U<|Aa (Bg U U) U<|Ea U U<|Ea U U<|Ek7 3 5 6 8 9 10 11 U<|Am<|Bt [0,0,2,5,0,16,40,72,255] (.pure 0 54 (.pure 4 15 (.alt 1 (.alt 2 (.alt 3 (.seg [(5,31)] (.alt 6 (.alt 7 (.pure 8 255 .done) .stop) .stop)) (.alt 5 (.alt 3 (.alt 6 (.alt 7 (.pure 8 255 .done) .stop) .stop) .stop) .stop)) (.alt 5 (.alt 2 (.alt 3 (.alt 6 (.alt 7 (.pure 8 255 .done) .stop) .stop) .stop) .stop) .stop)) (.alt 5 (.seg [(1,49)] (.alt 2 (.alt 3 (.alt 6 (.alt 7 (.pure 8 255 .done) .stop) .stop) .stop) .stop)) .stop)))) mixed (by decide+kernel)<|Dm U U U<|Ah U (Ab U fa35_7) U<|Hc ?_ ⟨?_,trivial⟩
  ·refine El U (De 1 (k:=0) (cs:=[.string p.md.name,.string p.md.comment,.slice ea p.md.extra.length ec,.int .i64 ((mo:Nat):Int),u8 p.md.os,.bool p.md.text,.bool p.md.checked,.bool p.md.ex,.bool p.md.nm,.bool p.md.cm,u8 p.md.flags,.slice va p.bl.length vc]) U U U U Tryz.isAgg35 Tz35) U<|Hc ?_ ⟨?_,trivial⟩
   ·refine Bo U (OpX.pick [] (F:=[_,_,_]) U (Ar U Tryz.call25 (first_rd p.md mo nb cb ea va ec p.bl.length vc hE (by omega) (by omega) hz1 hz2 hnb hcb hnl hcl hel))) U ?_;rintro _ _⟨_,⟨fa,fc,fg,hfR,rfl,rfl⟩,rfl⟩;refine Dr4 U ?_
    refine Hc ?_ ⟨?_,trivial⟩
    ·refine Bo U (OpX.pick [3,0] (F:=[_,_]) U (X.appendBs (xs:=out) (ys:=firstL p.md nb cb) U U hBo U (by omega) (hfR K _ (.tail _ (.head _))) (by omega))) U ?_;rintro _ _⟨_,⟨g1,hSo,rfl⟩,rfl⟩;refine Dr4 U ?_
     have hla:(out++firstL p.md nb cb).length=out.length+(firstL p.md nb cb).length:=List.length_append
     refine Dc (by decide)<|Au U (Aj 3 (k:=11) U U U Ta33) U<|Da<|By ?_
     refine Bo U (OpX.pick [] (F:=[_,_,_,_]) U (Ar U Tryz.call26 (defl_rd hS hOC p.bl va vc hBl (by omega) data hdat))) U ?_;rintro _ _⟨_,⟨ba,bc,db,bg,hbR,hd0,hd1,hdO,hdD,rfl,rfl⟩,rfl⟩;refine Dr5 U ?_
     refine By ?_
     refine Bo U (OpX.pick [1,0] (F:=[_,_,_]) U (Dh (xs:=out++firstL p.md nb cb) (ys:=db) U U hSo U (hbR K _ (.tail _ (.head _))) (by first|omega|(simp only[List.length_append,Bd];omega)) (by first|omega|(simp only[List.length_append,Bd];omega)))) U ?_;rintro _ _⟨_,⟨g2,hSg2,rfl⟩,rfl⟩;refine Dr5 U ?_
     refine Ah U (Az U) U<|Dk7 3 5 6 8 9 10 11 U<|Al<|Em U U<|Em U U ?_
     refine Ai (OpX.pick [3] (F:=[_,_,_,_]) U (Ar U Tryz.call28 (check_fr da dc data (hdR.rb K _ (.head _)) (by omega)))) U ?_;rintro _ _⟨_,⟨rfl,rfl⟩,rfl⟩;refine Er5 U ?_
     refine Aa (Bv U Tu69 Tu2 (N.i64n (by omega))) U ?_
     refine Ai (OpX.pick [] (F:=[_,_,_,_,_]) U (Ar U Tryz.call27 (Fr (crcOn IEEE 0 data) 4 (by omega) (by decide)))) U ?_;rintro _ _⟨_,⟨na,nc,ng,hnR,rfl,rfl⟩,rfl⟩;refine Er6 U ?_
     refine Ai (OpX.pick [2,0] (F:=[_,_,_,_]) U (Dh (xs:=(out++firstL p.md nb cb)++db) (ys:=numL (crcOn IEEE 0 data) 4) U U hSg2 U (hnR K _ (.tail _ (.head _))) (by first|omega|(simp only[List.length_append,Bd];omega)) (by first|omega|(simp only[List.length_append,Bd];omega)))) U ?_;rintro _ _⟨_,⟨g3,hSg3,rfl⟩,rfl⟩;refine Er6 U ?_
     refine Em U U<|Aa (Bc U Tu25) U<|Aa (Bv U Tu3 Tu69 (N.in_u32 (by omega))) U<|Aa (Bv U Tu69 Tu2 (N.i64n (by omega))) U ?_
     refine Ai (OpX.pick [] (F:=[_,_,_,_,_,_]) U (Ar U Tryz.call27 (Fr data.length 4 (by omega) (by decide)))) U ?_;rintro _ _⟨_,⟨ma,mc,mg,hmR,rfl,rfl⟩,rfl⟩;refine Er7 U ?_
     refine Ai (OpX.pick [1,0] (F:=[_,_,_,_,_]) U (Dh (xs:=((out++firstL p.md nb cb)++db)++numL (crcOn IEEE 0 data) 4) (ys:=numL data.length 4) U U hSg3 U (hmR K _ (.tail _ (.head _))) (by first|omega|(simp only[List.length_append,Bd];omega)) (by first|omega|(simp only[List.length_append,Bd];omega)))) U ?_;rintro _ _⟨_,⟨g4,hSg4,rfl⟩,rfl⟩;refine Er7 U ?_
     refine Ds [0] (A:=[_]) U ?_
     obtain⟨out4,ho4⟩:∃x,x=(((out++firstL p.md nb cb)++db)++numL (crcOn IEEE 0 data) 4)++numL data.length 4:=⟨_,rfl⟩
     rw[←ho4]at hSg4
     have hol4:out4.length≤1250*wtMs (l.take (i+1)):=by rw[ho4,hwt,hw1];simp only[List.length_append,Bd];omega
     have hF4:FileR K (l.take (i+1)) out4:=by
       rw[take_snocM hi2,←hp,ho4]
       have h:=hF.snoc (x:=p) ⟨nb,cb,data,db,hok,hdO,hdD,hd0,hd1,rfl⟩
       simpa only[List.append_assoc]using h
     refine Ea U U<|Ek7 3 5 6 8 9 10 11 U<|Al<|Aa (Bl (b:=((1:Nat):Int)) U U (N.add64 (by omega))) U<|Em U U<|Ek7 3 5 6 8 9 10 11 U ?_
     refine⟨_,?_,i+1,out4,_,_,rfl,rfl,by omega,hF4,hSg4,hol4,rfl⟩;omega
    refine El U (Aj 2 (k:=11) U U U Ta33) U<|By ?_
    refine Bo U (OpX.pick [3,0] (F:=[_,_]) U (X.appendBs (xs:=out) (ys:=firstL p.md nb cb) U U hBo U (by omega) (hfR K _ (.tail _ (.head _))) (by omega))) U ?_;rintro _ _⟨_,⟨g1,hSo,rfl⟩,rfl⟩;refine Dr4 U ?_
    have hla:(out++firstL p.md nb cb).length=out.length+(firstL p.md nb cb).length:=List.length_append
    refine By ?_
    refine Bo U (OpX.pick [] (F:=[_,_,_,_]) U (Ar U Tryz.call26 (defl_rd hS hOC p.bl va vc hBl (by omega) data hdat))) U ?_;rintro _ _⟨_,⟨ba,bc,db,bg,hbR,hd0,hd1,hdO,hdD,rfl,rfl⟩,rfl⟩;refine Dr5 U ?_
    refine By ?_
    refine Bo U (OpX.pick [1,0] (F:=[_,_,_]) U (Dh (xs:=out++firstL p.md nb cb) (ys:=db) U U hSo U (hbR K _ (.tail _ (.head _))) (by first|omega|(simp only[List.length_append,Bd];omega)) (by first|omega|(simp only[List.length_append,Bd];omega)))) U ?_;rintro _ _⟨_,⟨g2,hSg2,rfl⟩,rfl⟩;refine Dr5 U ?_
    refine Ah U (Az U) U<|Dk7 3 5 6 8 9 10 11 U<|Al<|Em U U<|Em U U ?_
    refine Ai (OpX.pick [3] (F:=[_,_,_,_]) U (Ar U Tryz.call28 (check_fr da dc data (hdR.rb K _ (.head _)) (by omega)))) U ?_;rintro _ _⟨_,⟨rfl,rfl⟩,rfl⟩;refine Er5 U ?_
    refine Aa (Bv U Tu69 Tu2 (N.i64n (by omega))) U ?_
    refine Ai (OpX.pick [] (F:=[_,_,_,_,_]) U (Ar U Tryz.call27 (Fr (crcOn IEEE 0 data) 4 (by omega) (by decide)))) U ?_;rintro _ _⟨_,⟨na,nc,ng,hnR,rfl,rfl⟩,rfl⟩;refine Er6 U ?_
    refine Ai (OpX.pick [2,0] (F:=[_,_,_,_]) U (Dh (xs:=(out++firstL p.md nb cb)++db) (ys:=numL (crcOn IEEE 0 data) 4) U U hSg2 U (hnR K _ (.tail _ (.head _))) (by first|omega|(simp only[List.length_append,Bd];omega)) (by first|omega|(simp only[List.length_append,Bd];omega)))) U ?_;rintro _ _⟨_,⟨g3,hSg3,rfl⟩,rfl⟩;refine Er6 U ?_
    refine Em U U<|Aa (Bc U Tu25) U<|Aa (Bv U Tu3 Tu69 (N.in_u32 (by omega))) U<|Aa (Bv U Tu69 Tu2 (N.i64n (by omega))) U ?_
    refine Ai (OpX.pick [] (F:=[_,_,_,_,_,_]) U (Ar U Tryz.call27 (Fr data.length 4 (by omega) (by decide)))) U ?_;rintro _ _⟨_,⟨ma,mc,mg,hmR,rfl,rfl⟩,rfl⟩;refine Er7 U ?_
    refine Ai (OpX.pick [1,0] (F:=[_,_,_,_,_]) U (Dh (xs:=((out++firstL p.md nb cb)++db)++numL (crcOn IEEE 0 data) 4) (ys:=numL data.length 4) U U hSg3 U (hmR K _ (.tail _ (.head _))) (by first|omega|(simp only[List.length_append,Bd];omega)) (by first|omega|(simp only[List.length_append,Bd];omega)))) U ?_;rintro _ _⟨_,⟨g4,hSg4,rfl⟩,rfl⟩;refine Er7 U ?_
    refine Ds [0] (A:=[_]) U ?_
    obtain⟨out4,ho4⟩:∃x,x=(((out++firstL p.md nb cb)++db)++numL (crcOn IEEE 0 data) 4)++numL data.length 4:=⟨_,rfl⟩
    rw[←ho4]at hSg4
    have hol4:out4.length≤1250*wtMs (l.take (i+1)):=by rw[ho4,hwt,hw1];simp only[List.length_append,Bd];omega
    have hF4:FileR K (l.take (i+1)) out4:=by
      rw[take_snocM hi2,←hp,ho4]
      have h:=hF.snoc (x:=p) ⟨nb,cb,data,db,hok,hdO,hdD,hd0,hd1,rfl⟩
      simpa only[List.append_assoc]using h
    refine Ea U U<|Ek7 3 5 6 8 9 10 11 U<|Al<|Aa (Bl (b:=((1:Nat):Int)) U U (N.add64 (by omega))) U<|Em U U<|Ek7 3 5 6 8 9 10 11 U ?_
    refine⟨_,?_,i+1,out4,_,_,rfl,rfl,by omega,hF4,hSg4,hol4,rfl⟩;omega
   refine El U (Aj 1 (k:=11) U U U Ta33) U<|By ?_
   refine Bo U (OpX.pick [] (F:=[_,_,_]) U (Ar U Tryz.call25 (first_rd p.md mo nb cb ea va ec p.bl.length vc hE (by omega) (by omega) hz1 hz2 hnb hcb hnl hcl hel))) U ?_;rintro _ _⟨_,⟨fa,fc,fg,hfR,rfl,rfl⟩,rfl⟩;refine Dr4 U ?_
   refine By ?_
   refine Bo U (OpX.pick [3,0] (F:=[_,_]) U (X.appendBs (xs:=out) (ys:=firstL p.md nb cb) U U hBo U (by omega) (hfR K _ (.tail _ (.head _))) (by omega))) U ?_;rintro _ _⟨_,⟨g1,hSo,rfl⟩,rfl⟩;refine Dr4 U ?_
   have hla:(out++firstL p.md nb cb).length=out.length+(firstL p.md nb cb).length:=List.length_append
   refine By ?_
   refine Bo U (OpX.pick [] (F:=[_,_,_,_]) U (Ar U Tryz.call26 (defl_rd hS hOC p.bl va vc hBl (by omega) data hdat))) U ?_;rintro _ _⟨_,⟨ba,bc,db,bg,hbR,hd0,hd1,hdO,hdD,rfl,rfl⟩,rfl⟩;refine Dr5 U ?_
   refine By ?_
   refine Bo U (OpX.pick [1,0] (F:=[_,_,_]) U (Dh (xs:=out++firstL p.md nb cb) (ys:=db) U U hSo U (hbR K _ (.tail _ (.head _))) (by first|omega|(simp only[List.length_append,Bd];omega)) (by first|omega|(simp only[List.length_append,Bd];omega)))) U ?_;rintro _ _⟨_,⟨g2,hSg2,rfl⟩,rfl⟩;refine Dr5 U ?_
   refine Ah U (Az U) U<|Dk7 3 5 6 8 9 10 11 U<|Al<|Em U U<|Em U U ?_
   refine Ai (OpX.pick [3] (F:=[_,_,_,_]) U (Ar U Tryz.call28 (check_fr da dc data (hdR.rb K _ (.head _)) (by omega)))) U ?_;rintro _ _⟨_,⟨rfl,rfl⟩,rfl⟩;refine Er5 U ?_
   refine Aa (Bv U Tu69 Tu2 (N.i64n (by omega))) U ?_
   refine Ai (OpX.pick [] (F:=[_,_,_,_,_]) U (Ar U Tryz.call27 (Fr (crcOn IEEE 0 data) 4 (by omega) (by decide)))) U ?_;rintro _ _⟨_,⟨na,nc,ng,hnR,rfl,rfl⟩,rfl⟩;refine Er6 U ?_
   refine Ai (OpX.pick [2,0] (F:=[_,_,_,_]) U (Dh (xs:=(out++firstL p.md nb cb)++db) (ys:=numL (crcOn IEEE 0 data) 4) U U hSg2 U (hnR K _ (.tail _ (.head _))) (by first|omega|(simp only[List.length_append,Bd];omega)) (by first|omega|(simp only[List.length_append,Bd];omega)))) U ?_;rintro _ _⟨_,⟨g3,hSg3,rfl⟩,rfl⟩;refine Er6 U ?_
   refine Em U U<|Aa (Bc U Tu25) U<|Aa (Bv U Tu3 Tu69 (N.in_u32 (by omega))) U<|Aa (Bv U Tu69 Tu2 (N.i64n (by omega))) U ?_
   refine Ai (OpX.pick [] (F:=[_,_,_,_,_,_]) U (Ar U Tryz.call27 (Fr data.length 4 (by omega) (by decide)))) U ?_;rintro _ _⟨_,⟨ma,mc,mg,hmR,rfl,rfl⟩,rfl⟩;refine Er7 U ?_
   refine Ai (OpX.pick [1,0] (F:=[_,_,_,_,_]) U (Dh (xs:=((out++firstL p.md nb cb)++db)++numL (crcOn IEEE 0 data) 4) (ys:=numL data.length 4) U U hSg3 U (hmR K _ (.tail _ (.head _))) (by first|omega|(simp only[List.length_append,Bd];omega)) (by first|omega|(simp only[List.length_append,Bd];omega)))) U ?_;rintro _ _⟨_,⟨g4,hSg4,rfl⟩,rfl⟩;refine Er7 U ?_
   refine Ds [0] (A:=[_]) U ?_
   obtain⟨out4,ho4⟩:∃x,x=(((out++firstL p.md nb cb)++db)++numL (crcOn IEEE 0 data) 4)++numL data.length 4:=⟨_,rfl⟩
   rw[←ho4]at hSg4
   have hol4:out4.length≤1250*wtMs (l.take (i+1)):=by rw[ho4,hwt,hw1];simp only[List.length_append,Bd];omega
   have hF4:FileR K (l.take (i+1)) out4:=by
     rw[take_snocM hi2,←hp,ho4]
     have h:=hF.snoc (x:=p) ⟨nb,cb,data,db,hok,hdO,hdD,hd0,hd1,rfl⟩
     simpa only[List.append_assoc]using h
   refine Ea U U<|Ek7 3 5 6 8 9 10 11 U<|Al<|Aa (Bl (b:=((1:Nat):Int)) U U (N.add64 (by omega))) U<|Em U U<|Ek7 3 5 6 8 9 10 11 U ?_
   refine⟨_,?_,i+1,out4,_,_,rfl,rfl,by omega,hF4,hSg4,hol4,rfl⟩;omega
  refine El U (Aj 1 (k:=11) U U U Ta33) U<|Dc (by decide)<|Au U (De 1 (k:=0) (cs:=[.string p.md.name,.string p.md.comment,.slice ea p.md.extra.length ec,.int .i64 ((mo:Nat):Int),u8 p.md.os,.bool p.md.text,.bool p.md.checked,.bool p.md.ex,.bool p.md.nm,.bool p.md.cm,u8 p.md.flags,.slice va p.bl.length vc]) U U U U Tryz.isAgg35 Tz35) U<|Da<|By ?_
  refine Bo U (OpX.pick [] (F:=[_,_,_]) U (Ar U Tryz.call25 (first_rd p.md mo nb cb ea va ec p.bl.length vc hE (by omega) (by omega) hz1 hz2 hnb hcb hnl hcl hel))) U ?_;rintro _ _⟨_,⟨fa,fc,fg,hfR,rfl,rfl⟩,rfl⟩;refine Dr4 U ?_
  refine By ?_
  refine Bo U (OpX.pick [3,0] (F:=[_,_]) U (X.appendBs (xs:=out) (ys:=firstL p.md nb cb) U U hBo U (by omega) (hfR K _ (.tail _ (.head _))) (by omega))) U ?_;rintro _ _⟨_,⟨g1,hSo,rfl⟩,rfl⟩;refine Dr4 U ?_
  have hla:(out++firstL p.md nb cb).length=out.length+(firstL p.md nb cb).length:=List.length_append
  refine By ?_
  refine Bo U (OpX.pick [] (F:=[_,_,_,_]) U (Ar U Tryz.call26 (defl_rd hS hOC p.bl va vc hBl (by omega) data hdat))) U ?_;rintro _ _⟨_,⟨ba,bc,db,bg,hbR,hd0,hd1,hdO,hdD,rfl,rfl⟩,rfl⟩;refine Dr5 U ?_
  refine By ?_
  refine Bo U (OpX.pick [1,0] (F:=[_,_,_]) U (Dh (xs:=out++firstL p.md nb cb) (ys:=db) U U hSo U (hbR K _ (.tail _ (.head _))) (by first|omega|(simp only[List.length_append,Bd];omega)) (by first|omega|(simp only[List.length_append,Bd];omega)))) U ?_;rintro _ _⟨_,⟨g2,hSg2,rfl⟩,rfl⟩;refine Dr5 U ?_
  refine Ah U (Az U) U<|Dk7 3 5 6 8 9 10 11 U<|Al<|Em U U<|Em U U ?_
  refine Ai (OpX.pick [3] (F:=[_,_,_,_]) U (Ar U Tryz.call28 (check_fr da dc data (hdR.rb K _ (.head _)) (by omega)))) U ?_;rintro _ _⟨_,⟨rfl,rfl⟩,rfl⟩;refine Er5 U ?_
  refine Aa (Bv U Tu69 Tu2 (N.i64n (by omega))) U ?_
  refine Ai (OpX.pick [] (F:=[_,_,_,_,_]) U (Ar U Tryz.call27 (Fr (crcOn IEEE 0 data) 4 (by omega) (by decide)))) U ?_;rintro _ _⟨_,⟨na,nc,ng,hnR,rfl,rfl⟩,rfl⟩;refine Er6 U ?_
  refine Ai (OpX.pick [2,0] (F:=[_,_,_,_]) U (Dh (xs:=(out++firstL p.md nb cb)++db) (ys:=numL (crcOn IEEE 0 data) 4) U U hSg2 U (hnR K _ (.tail _ (.head _))) (by first|omega|(simp only[List.length_append,Bd];omega)) (by first|omega|(simp only[List.length_append,Bd];omega)))) U ?_;rintro _ _⟨_,⟨g3,hSg3,rfl⟩,rfl⟩;refine Er6 U ?_
  refine Em U U<|Aa (Bc U Tu25) U<|Aa (Bv U Tu3 Tu69 (N.in_u32 (by omega))) U<|Aa (Bv U Tu69 Tu2 (N.i64n (by omega))) U ?_
  refine Ai (OpX.pick [] (F:=[_,_,_,_,_,_]) U (Ar U Tryz.call27 (Fr data.length 4 (by omega) (by decide)))) U ?_;rintro _ _⟨_,⟨ma,mc,mg,hmR,rfl,rfl⟩,rfl⟩;refine Er7 U ?_
  refine Ai (OpX.pick [1,0] (F:=[_,_,_,_,_]) U (Dh (xs:=((out++firstL p.md nb cb)++db)++numL (crcOn IEEE 0 data) 4) (ys:=numL data.length 4) U U hSg3 U (hmR K _ (.tail _ (.head _))) (by first|omega|(simp only[List.length_append,Bd];omega)) (by first|omega|(simp only[List.length_append,Bd];omega)))) U ?_;rintro _ _⟨_,⟨g4,hSg4,rfl⟩,rfl⟩;refine Er7 U ?_
  refine Ds [0] (A:=[_]) U ?_
  obtain⟨out4,ho4⟩:∃x,x=(((out++firstL p.md nb cb)++db)++numL (crcOn IEEE 0 data) 4)++numL data.length 4:=⟨_,rfl⟩
  rw[←ho4]at hSg4
  have hol4:out4.length≤1250*wtMs (l.take (i+1)):=by rw[ho4,hwt,hw1];simp only[List.length_append,Bd];omega
  have hF4:FileR K (l.take (i+1)) out4:=by
    rw[take_snocM hi2,←hp,ho4]
    have h:=hF.snoc (x:=p) ⟨nb,cb,data,db,hok,hdO,hdD,hd0,hd1,rfl⟩
    simpa only[List.append_assoc]using h
  refine Ea U U<|Ek7 3 5 6 8 9 10 11 U<|Al<|Aa (Bl (b:=((1:Nat):Int)) U U (N.add64 (by omega))) U<|Em U U<|Ek7 3 5 6 8 9 10 11 U ?_
  refine⟨_,?_,i+1,out4,_,_,rfl,rfl,by omega,hF4,hSg4,hol4,rfl⟩;omega
 have hi2:i=l.length:=by omega
 rw[hi2,List.take_length]at hF
 have hwl:=wtMs_take l i
 refine Bu U<|Cr<|Em U U<|Ea U U<|Ek6 2 3 8 9 10 11 U<|Bb ?_
 exact⟨_,rfl,Lf,[],Same.of_eq (List.append_nil _).symm,v,out,rfl,hsl,hF,by omega⟩
set_option maxHeartbeats 1000000
def MbsA(K:Known)(a:Option Addr)(l:List MB):Prop:=l=[]∨∃b o,a=some ⟨b,o,none⟩∧∀i (h:i<l.length),∃cs,MbA K cs l[i]∧∀j u,cs[j]? =some u→cellAt K b (o+i*12+j)=some u
theorem blocksA_of{K:Known}{l:List PB}{a:Option Addr}{c:Nat}(h:(l=[]∨∃b o,a=some ⟨b,o,none⟩∧∀i (h:i<l.length),∃cs,BlkA K cs l[i]∧∀j u,cs[j]? =some u→cellAt K b (o+i*4+j)=some u)):BlocksA K (.slice a l.length c):=by
  refine⟨a,l.length,c,rfl,fun i hi=>?_⟩
  obtain⟨b,o,e,h⟩:=h.resolve_left (fun e=>by rw[e]at hi;simp at hi)
  obtain⟨cs,⟨ba,bc,tv,na,nn,nc,rfl,_,⟨ta,tc,rfl,_⟩,_⟩,hc⟩:=h i hi
  exact⟨b,o,e,_,_,_,_,_,_,_,_,_,_,hc⟩
def SizeOk(p:MB):Prop:=p.md.name.size≤140737488355327∧p.md.comment.size≤140737488355327
theorem toksD_len:∀{l:List TokM} {out o:List UInt8},toksD out l=some o→o.length≤out.length+300*l.length
  | [],out,o,h=>by
    simp only[toksD,Option.some.injEq]at h
    subst h;simp
  |t::r,out,o,h=>by
    rw[toksD]at h
    rw[List.length_cons]
    split at h
    · have:=toksD_len h
      rw[List.length_append,List.length_singleton]at this
      omega
    · split at h
      · cases h
      · rename_i hb
        unfold badTok at hb
        have:=toksD_len h
        rw[Eu]at this
        omega
theorem blkD_len{out o:List UInt8}{b:PB}(h:blkD out b=some o):o.length≤out.length+300*wtB b:=by
  unfold blkD at h
  unfold wtB
  split at h
  · split at h
    · cases h
    · injection h with h
      rw[←h,List.length_append];omega
  · split at h
    · have:=toksD_len h
      omega
    · cases h
theorem dataGo_len:∀{l:List PB} {out o:List UInt8},dataGo out l=some o→o.length≤out.length+300*wtL l
  | [],out,o,h=>by
    simp only[dataGo,Option.some.injEq]at h
    subst h;omega
  |b::r,out,o,h=>by
    rw[dataGo]at h
    split at h
    · cases h
    · rename_i x hx
      have h1:=blkD_len hx
      have h2:=dataGo_len h
      rw[wtL_cons];omega
def dataOf(x:MB):List UInt8:=(dataGo [] x.bl).getD []
theorem dataOf_len(x:MB):(dataOf x).length≤300*wtL x.bl:=by
  unfold dataOf
  cases h:dataGo [] x.bl with
  |none=>simp
  |some o=>have:=dataGo_len h;simpa using this
theorem data_any{K:Known}(l:List PB)(a:Option Addr)(c:Nat)(hBl:(l=[]∨∃b o,a=some ⟨b,o,none⟩∧∀i (h:i<l.length),∃cs,BlkA K cs l[i]∧∀j u,cs[j]? =some u→cellAt K b (o+i*4+j)=some u))(hlen:wtL l≤10000000)(x:Frag)(F:Frags):
    Fn Tryz.prog K 11 #[.slice a l.length c] (x::F) (fun r L=>∃a2 c2 g,RdB a2 ((dataGo [] l).getD []) g∧r=.tuple #[.slice a2 ((dataGo [] l).getD []).length c2,.bool (dataGo [] l).isSome]∧L=g::x::F):=by
  have hl2:=wtL_len l
  have h1:Fn Tryz.prog K 11 #[.slice a l.length c] [] (fun r L=>DataR l r L):=by
    refine Fn.lose (data_walk l a c hBl (by omega) (by omega)) ?_
    rintro r L⟨L2,J,hS,h⟩
    exact⟨L2,J,hS,h⟩
  refine Fn.sameR (Fn.frame (F:=x::F) h1) ?_
  rintro r _⟨L1,⟨v,rfl,h⟩,rfl⟩
  obtain⟨g,h1,h2⟩:=Sl.bs (xs:=(dataGo [] l).getD []) h x F
  obtain⟨a2,c2,rfl,h3⟩:=h1.rd
  exact⟨_,h2,a2,c2,g,h3,rfl,rfl⟩
theorem zz6_walk{K:Known}(l:List MB)(a:Option Addr)(c:Nat)(hM:MbsA K a l)(hll:l.length≤10000000):Fn Tryz.prog K 7 #[.slice a l.length c] ([]) (fun r L=>∃q,r=.bool q∧(q=true→∀p∈l,SizeOk p)):=by
 refine Fn.intro (args:=[.slice a l.length c]) (RR:=Ret1 2 _) Tryz.func7 rfl rfl Tryz.ntmps7 (res1 Tryz.results7) ?_
 refine Bi (env2:=[(0,.slice a l.length c)]) U<|Cr<|Ea U U<|Ek2 0 2 U<|Am<|Cr<|Em U U<|Aa (Bc U Tu22) U<|Aa (Fh (b:=((2147483647:Nat):Int)) U U) U<|Ek3 0 2 7 U<|Bf U (fun h7=>?_) (fun h7=>?_)
 ·refine Cr<|Ea U U<|Ek3 0 2 7 U<|Bb ?_
  exact⟨_,rfl,_,rfl,fun h=>by first|exact absurd h (by decide)|(intro p hp;obtain⟨j,hj,rfl⟩:=List.getElem_of_mem hp;exact hd j hj (by omega))⟩
 refine Ap<|Am<|Cr<|Em U U<|Aa (Bc U Tu22) U<|Em U U<|Ek6 0 2 7 8 9 10 U<|As<|Bw (fun mm ee ll=>∃(i:Nat),keeps ee [8,9,10]=some [(8,.slice a l.length c),(9,.int .i64 ((l.length:Nat):Int)),(10,.int .i64 ((i:Nat):Int))]∧ll=[]∧(i≤l.length)∧(∀j (hj:j<l.length),j<i→SizeOk l[j])∧mm=l.length-i) (_) ⟨0,rfl,rfl,Nat.zero_le _,(fun j _ h=>absurd h (Nat.not_lt_zero _)),rfl⟩ ?_
 rintro m0 _ _⟨i,hk0,rfl,hi,hd,hm0⟩
 refine Av _ hk0<|Cr<|Aa (Dl U U) U<|Ek4 8 9 10 11 U<|Am<|Bf U (fun h11=>?_) (fun h11=>?_)
 ·have hi2:i<l.length:=by omega
  obtain⟨p,hp⟩:∃p,p=l[i]:=⟨_,rfl⟩
  have hpm:p∈l:=hp▸List.getElem_mem hi2
  obtain⟨pb,po,hae,hB⟩:=hM.resolve_left (fun h=>by rw[h]at hi2;simp at hi2)
  obtain⟨cells,⟨ea,ec,va,vc,rfl,hE,hBl⟩,hcell⟩:=hB i hi2
  rw[←hp]at hE hBl hcell
  refine Ap<|Am<|As<|Cr ?_
  refine Aa (Bm (b:=pb) (o:=po) (l:=l.length) (c:=c) (i:=i) (k:=.i64) (by rw[←hae];rfl) U hi2 Tu22 Tz35) U ?_
  refine Ag (Gg (vs:=[.string p.md.name,.string p.md.comment,.slice ea p.md.extra.length ec,.int .i64 p.md.mod,u8 p.md.os,.bool p.md.text,.bool p.md.checked,.bool p.md.ex,.bool p.md.nm,.bool p.md.cm,u8 p.md.flags,.slice va p.bl.length vc]) U hcell U Tryz.isAgg35 Tz35) U ?_
  refine Ai (Dq Tryz.zeroValue35) U ?_;rintro _ _⟨b4,rfl,rfl⟩;refine Er1 U ?_
  refine Ao (Bq 0 (k:=0) U U U U U U Tz35 U) ?_;rintro _ _⟨rfl,rfl⟩;refine Er1 U ?_
  refine Ax (L2:=[⟨b4,0,[.string p.md.name,.string p.md.comment,.slice ea p.md.extra.length ec,.int .i64 p.md.mod,u8 p.md.os,.bool p.md.text,.bool p.md.checked,.bool p.md.ex,.bool p.md.nm,.bool p.md.cm,u8 p.md.flags,.slice va p.bl.length vc]⟩]) U<|Ek5 4 8 9 10 11 U<|Cr<|Ag (De 0 (k:=0) (cs:=[.string p.md.name,.string p.md.comment,.slice ea p.md.extra.length ec,.int .i64 p.md.mod,u8 p.md.os,.bool p.md.text,.bool p.md.checked,.bool p.md.ex,.bool p.md.nm,.bool p.md.cm,u8 p.md.flags,.slice va p.bl.length vc]) U U U U Tryz.isAgg35 Tz35) U ?_
  refine Ai (OpX.pick [] (F:=[_]) U (Ar U Tryz.call18 (zz1_spec p.md ea va ec p.bl.length vc (blocksA_of hBl)))) U ?_;rintro _ _⟨_,⟨q1,rfl,hq1,rfl⟩,rfl⟩;refine Er1 U ?_
  refine Aa (Gc U) U<|Ek6 4 8 9 10 11 16 U<|Eg U (fun h16=>?_) (fun h16=>?_)
  ·refine Cr<|Ea U U<|Ek7 2 4 8 9 10 11 16 U<|Bb ?_
   exact⟨_,rfl,_,rfl,fun h=>by first|exact absurd h (by decide)|(intro p hp;obtain⟨j,hj,rfl⟩:=List.getElem_of_mem hp;exact hd j hj (by omega))⟩
  have hqt:q1=true:=by simpa using h16
  refine C.forget [] (A:=[]) U<|Ap<|Al<|Aa (Bl (b:=((1:Nat):Int)) U U (N.add64 (by omega))) U<|Em U U<|Ek6 4 8 9 10 11 16 U ?_
  refine⟨_,?_,i+1,rfl,rfl,by omega,(fun j hj h=>(Nat.lt_or_ge j i).elim (fun h3=>hd j hj h3) fun h3=>by have e:j=i:=(by omega);subst e;rw[←hp];exact⟨by have:=(hq1 hqt).1;omega,by have:=(hq1 hqt).2.1;omega⟩),rfl⟩;omega
 have hi2:i=l.length:=by omega
 refine Bu U<|Cr<|Ea U U<|Ek5 2 8 9 10 11 U<|Bb ?_
 exact⟨_,rfl,_,rfl,fun h=>by first|exact absurd h (by decide)|(intro p hp;obtain⟨j,hj,rfl⟩:=List.getElem_of_mem hp;exact hd j hj (by omega))⟩
theorem zz6_spec{K:Known}(l:List MB)(a:Option Addr)(c:Nat)(hM:MbsA K a l)(hll:l.length≤10000000):Fn Tryz.prog K 7 #[.slice a l.length c] [] (fun r L=>∃q,r=.bool q∧(q=true→∀p∈l,SizeOk p)∧L=[]):=by
  refine Fn.lose (zz6_walk l a c hM hll) ?_
  rintro r L⟨q,rfl,h⟩
  exact⟨[],L,Same.refl _,q,rfl,h,rfl⟩
def MdP(x:MB)(n:Nat):Prop:=∃nb cb data,textB x.md.name.data.toList=some nb∧textB x.md.comment.data.toList=some cb∧nb.length<512∧cb.length<512∧x.md.extra.length≤65535∧0≤x.md.mod∧x.md.mod<4294967296∧dataGo [] x.bl=some data∧data.length≤n
theorem MdP.mono{x:MB}{n m:Nat}(h:MdP x n)(hm:n≤m):MdP x m:=by
  obtain⟨nb,cb,data,h1,h2,h3,h4,h5,h6,h7,h8,h9⟩:=h
  exact⟨nb,cb,data,h1,h2,h3,h4,h5,h6,h7,h8,by omega⟩
def MadeQ(l:List MB):Prop:=0<l.length∧l.length≤1000∧(∀p∈l,MdP p 65536)∧(l.flatMap dataOf).length≤65536
theorem flat_snoc{l:List MB}{i:Nat}(h:i<l.length):(l.take (i+1)).flatMap dataOf=(l.take i).flatMap dataOf++dataOf l[i]:=by rw[take_snocM h,List.flatMap_append];simp
theorem madeq_walk{K:Known}(l:List MB)(a:Option Addr)(c:Nat)(hM:MbsA K a l)(hlen:wtMs l≤10000000)(hll:l.length≤10000000)(hsz:∀p∈l,SizeOk p):Fn Tryz.prog K 8 #[.slice a l.length c] ([]) (fun r L=>∃q,r=.bool q∧(q=true→MadeQ l)):=by
 refine Fn.intro (args:=[.slice a l.length c]) (RR:=Ret1 2 _) Tryz.func8 rfl rfl Tryz.ntmps8 (res1 Tryz.results8) ?_
 refine Bi (env2:=[(0,.slice a l.length c)]) U<|Cr<|Ea U U<|Ek2 0 2 U<|Am<|Cr<|Em U U<|Aa (Bc U Tu22) U<|Aa (Ef (b:=((0:Nat):Int)) U U) U<|Em U U<|Ek (fun g11=>?_) (fun g11=>?_)
 ·refine Ae 11 true U U U U<|Ae 11 true U U U U<|Ae 11 true U U U U<|Aa (Bz U U) U<|Ek3 0 2 15 U<|He U (rfl)<|Cr<|Ea U U<|Ek3 0 2 15 U<|Bb ?_
  exact⟨_,rfl,_,rfl,fun h=>by first|exact absurd h (by decide)|(have h6:=of_decide_eq_true h;exact⟨by omega,by omega,fun p hp=>by obtain⟨j,hj,rfl⟩:=List.getElem_of_mem hp;exact(hd j hj (by omega)).mono (by omega),by omega⟩)⟩
 refine Ak 11 U U<|Em U U<|Ak 11 U U<|Aa (Bc U Tu22) U<|Ak 11 U U<|Aa (Fh (b:=((1000:Nat):Int)) U U) U<|Aa (Bk U U) U<|Ek3 0 2 15 U<|Bf U (fun h15=>?_) (fun h15=>?_)
 ·refine Cr<|Ea U U<|Ek3 0 2 15 U<|Bb ?_
  exact⟨_,rfl,_,rfl,fun h=>by first|exact absurd h (by decide)|(have h6:=of_decide_eq_true h;exact⟨by omega,by omega,fun p hp=>by obtain⟨j,hj,rfl⟩:=List.getElem_of_mem hp;exact(hd j hj (by omega)).mono (by omega),by omega⟩)⟩
 refine Ap<|Cr<|Ea U U<|Ek4 0 2 3 15 U<|Am<|Cr<|Em U U<|Aa (Bc U Tu22) U<|Em U U<|Ek7 0 2 3 15 16 17 18 U<|As<|Bw (fun mm ee ll=>∃(i:Nat),∃(n:Nat),keeps ee [3,16,17,18]=some [(3,.int .i64 ((n:Nat):Int)),(16,.slice a l.length c),(17,.int .i64 ((l.length:Nat):Int)),(18,.int .i64 ((i:Nat):Int))]∧ll=[]∧(i≤l.length)∧(n=((l.take i).flatMap dataOf).length)∧(n≤3000000000*i)∧(∀j (hj:j<l.length),j<i→MdP l[j] n)∧mm=l.length-i) (_) ⟨0,0,rfl,rfl,Nat.zero_le _,rfl,Nat.zero_le _,(fun j _ h=>absurd h (Nat.not_lt_zero _)),rfl⟩ ?_
 rintro m0 _ _⟨i,n,hk0,rfl,hi,hn,hnb,hd,hm0⟩
 refine Av _ hk0<|Cr<|Aa (Dl U U) U<|Ek5 3 16 17 18 19 U<|Am<|Bf U (fun h19=>?_) (fun h19=>?_)
 ·have hi2:i<l.length:=by omega
  obtain⟨p,hp⟩:∃p,p=l[i]:=⟨_,rfl⟩
  have hpm:p∈l:=hp▸List.getElem_mem hi2
  obtain⟨pb,po,hae,hB⟩:=hM.resolve_left (fun h=>by rw[h]at hi2;simp at hi2)
  obtain⟨cells,⟨ea,ec,va,vc,rfl,hE,hBl⟩,hcell⟩:=hB i hi2
  rw[←hp]at hE hBl hcell
  have hwt:=wtMs_succ hi2
  rw[←hp]at hwt
  have hw1:wtM p=wtL p.bl+60:=rfl
  have hwl:=wtMs_take l (i+1)
  have hdl:=dataOf_len p
  have hdd:dataOf p=(dataGo [] p.bl).getD []:=rfl
  rw[hdd]at hdl
  have hz:=hsz p hpm
  refine Ap<|Am<|As<|Cr ?_
  refine Aa (Bm (b:=pb) (o:=po) (l:=l.length) (c:=c) (i:=i) (k:=.i64) (by rw[←hae];rfl) U hi2 Tu22 Tz35) U ?_
  refine Ag (Gg (vs:=[.string p.md.name,.string p.md.comment,.slice ea p.md.extra.length ec,.int .i64 p.md.mod,u8 p.md.os,.bool p.md.text,.bool p.md.checked,.bool p.md.ex,.bool p.md.nm,.bool p.md.cm,u8 p.md.flags,.slice va p.bl.length vc]) U hcell U Tryz.isAgg35 Tz35) U ?_
  refine Ai (Dq Tryz.zeroValue35) U ?_;rintro _ _⟨b5,rfl,rfl⟩;refine Er1 U ?_
  refine Ao (Bq 0 (k:=0) U U U U U U Tz35 U) ?_;rintro _ _⟨rfl,rfl⟩;refine Er1 U ?_
  refine Ax (L2:=[⟨b5,0,[.string p.md.name,.string p.md.comment,.slice ea p.md.extra.length ec,.int .i64 p.md.mod,u8 p.md.os,.bool p.md.text,.bool p.md.checked,.bool p.md.ex,.bool p.md.nm,.bool p.md.cm,u8 p.md.flags,.slice va p.bl.length vc]⟩]) U<|Ek6 3 5 16 17 18 19 U<|Cr<|Aa (Ab U fa35_7) U<|Ag (Aj 0 (k:=11) U U U Ta33) U ?_
  refine Ai (OpX.pick [0] (F:=[]) U (Ar U Tryz.call11 (data_any p.bl va vc hBl (by omega) _ []))) U ?_;rintro _ _⟨_,⟨da,dc,dg,hdR,rfl,rfl⟩,rfl⟩;refine Er2 U ?_
  refine Em U U<|Aa (Bg U U) U<|Aa (Bg U U) U<|Ea U U<|Ea U U<|Ek8 3 5 6 7 16 17 18 19 U<|Am<|Cr<|Em U U<|Aa (Gc U) U<|Em U U<|Ha (fun g30=>?_) (fun g30=>?_)
  ·refine Ae 30 true U U U U<|Ae 30 true U U U U<|Ae 30 true U U U U<|Ae 30 true U U U U<|Aa (Bz U U) U<|Ek9 3 5 6 7 16 17 18 19 35 U<|He U (rfl)<|Cr<|Ea U U<|Ek10 2 3 5 6 7 16 17 18 19 35 U<|Bb ?_
   exact⟨_,rfl,_,rfl,fun h=>by first|exact absurd h (by decide)|(have h6:=of_decide_eq_true h;exact⟨by omega,by omega,fun p hp=>by obtain⟨j,hj,rfl⟩:=List.getElem_of_mem hp;exact(hd j hj (by omega)).mono (by omega),by omega⟩)⟩
  refine Ak 30 U U<|Aa (Ab U fa35_0) U<|Ak 30 U U<|Ag (De 1 (k:=0) (vs:=[.string p.md.name,.string p.md.comment,.slice ea p.md.extra.length ec,.int .i64 p.md.mod,u8 p.md.os]) U U U U Tryz.isAgg32 Tryz.sizeOf32) U<|Ak 30 U U ?_
  refine Ai (OpX.pick [] (F:=[_,_]) U (Ar U Tryz.call19 (fits_spec p.md.name p.md.comment ea p.md.extra.length ec p.md.mod (p.md.os.toNat:Int) hz.1 hz.2))) U ?_;rintro _ _⟨_,⟨q1,rfl,hq1,rfl⟩,rfl⟩;refine Er2 U ?_
  refine Ak 30 U U<|Aa (Gc U) U<|Aa (Bk U U) U<|Ek9 3 5 6 7 16 17 18 19 35 U<|Eg U (fun h35=>?_) (fun h35=>?_)
  ·refine Cr<|Ea U U<|Ek10 2 3 5 6 7 16 17 18 19 35 U<|Bb ?_
   exact⟨_,rfl,_,rfl,fun h=>by first|exact absurd h (by decide)|(have h6:=of_decide_eq_true h;exact⟨by omega,by omega,fun p hp=>by obtain⟨j,hj,rfl⟩:=List.getElem_of_mem hp;exact(hd j hj (by omega)).mono (by omega),by omega⟩)⟩
  have hqt:q1=true:=by simpa using h35
  have hsome:(dataGo [] p.bl).isSome=true:=by simpa using g30
  obtain⟨dta,hdta⟩:=Option.isSome_iff_exists.1 hsome
  obtain⟨nb,cb,k1,k2,k3,k4,k5,k6,k7⟩:=hq1 hqt
  have hMd:MdP p (n+((dataGo [] p.bl).getD []).length):=⟨nb,cb,dta,k1,k2,k3,k4,k5,k6,k7,hdta,by rw[hdta];exact Nat.le_add_left _ _⟩
  refine C.forget [] (A:=[]) U<|Ap<|Al<|Em U U<|Em U U<|Aa (Bc U Tu25) U<|Aa (Bl U U (N.add64 (by omega))) U<|Ea U U<|Ek9 3 5 6 7 16 17 18 19 35 U<|Al<|Aa (Bl (b:=((1:Nat):Int)) U U (N.add64 (by omega))) U<|Em U U ?_
  refine Ek9 3 5 6 7 16 17 18 19 35 U ?_
  refine⟨_,?_,i+1,_,rfl,rfl,by omega,(by rw[flat_snoc hi2,List.length_append,←hn,←hp];rfl),by omega,(fun j hj h=>(Nat.lt_or_ge j i).elim (fun h3=>(hd j hj h3).mono (by omega)) fun h3=>by have e:j=i:=(by omega);subst e;rw[←hp];exact hMd),rfl⟩;omega
 have hi2:i=l.length:=by omega
 rw[hi2,List.take_length]at hn
 refine Bu U<|Cr<|Em U U<|Aa (S.le (b:=((65536:Nat):Int)) U U) U<|Ea U U<|Ek6 2 3 16 17 18 19 U<|Bb ?_
 exact⟨_,rfl,_,rfl,fun h=>by first|exact absurd h (by decide)|(have h6:=of_decide_eq_true h;exact⟨by omega,by omega,fun p hp=>by obtain⟨j,hj,rfl⟩:=List.getElem_of_mem hp;exact(hd j hj (by omega)).mono (by omega),by omega⟩)⟩
theorem madeq_spec{K:Known}(l:List MB)(a:Option Addr)(c:Nat)(hM:MbsA K a l)(hlen:wtMs l≤10000000)(hll:l.length≤10000000)(hsz:∀p∈l,SizeOk p):Fn Tryz.prog K 8 #[.slice a l.length c] [] (fun r L=>∃q,r=.bool q∧(q=true→MadeQ l)∧L=[]):=by
  refine Fn.lose (madeq_walk l a c hM hlen hll hsz) ?_
  rintro r L⟨q,rfl,h⟩
  exact⟨[],L,Same.refl _,q,rfl,h,rfl⟩
theorem MdP.ok{x:MB}(h:MdP x 65536):∃nb cb data,MdOk x nb cb data:=by
  obtain⟨nb,cb,data,h1,h2,h3,h4,h5,h6,h7,h8,h9⟩:=h
  exact⟨nb,cb,data,h1,h2,h3,h4,h5,h6,h7,h8,by omega⟩
set_option maxHeartbeats 1000000
def MemL:List UInt8→List (UnpR×Nat)→Prop
  |_,[]=>False
  |l,(u,n)::r=>
    ((Ac l).1≠.none∧u=(kindOf (Ac l).1,noHd,[],0)∧r=[])∨
    ((Ac l).1=.none∧u=(0,(Ac l).2.2,(gzR false (Ac l).2.1).1,(gzR false (Ac l).2.1).2.1)∧
      (((gzR false (Ac l).2.1).2.1≠1∧r=[])∨((gzR false (Ac l).2.1).2.1=1∧n=(gzR false (Ac l).2.1).2.2.length∧MemL (gzR false (Ac l).2.1).2.2 r)))
theorem memL_bad{l:List UInt8}{n:Nat}(h:(Ac l).1≠.none):MemL l [((kindOf (Ac l).1,noHd,[],0),n)]:=by unfold MemL;exact .inl ⟨h,rfl,rfl⟩
theorem memL_last{l:List UInt8}{n:Nat}(h:(Ac l).1=.none)(hk:(gzR false (Ac l).2.1).2.1≠1):MemL l [((0,(Ac l).2.2,(gzR false (Ac l).2.1).1,(gzR false (Ac l).2.1).2.1),n)]:=by
  unfold MemL;exact .inr ⟨h,rfl,.inl ⟨hk,rfl⟩⟩
theorem memL_next{l:List UInt8}{r:List (UnpR×Nat)}(h:(Ac l).1=.none)(hk:(gzR false (Ac l).2.1).2.1=1)(hr:MemL (gzR false (Ac l).2.1).2.2 r):
    MemL l (((0,(Ac l).2.2,(gzR false (Ac l).2.1).1,(gzR false (Ac l).2.1).2.1),(gzR false (Ac l).2.1).2.2.length)::r):=by
  rw[MemL];exact .inr ⟨h,rfl,.inr ⟨hk,rfl,hr⟩⟩
def mu(m:PM):UnpR×Nat:=((0,m.hd,m.data,1),m.left)
theorem memL_chain:∀{ms:List PM} {l l2:List UInt8} {us:List (UnpR×Nat)},Chain l ms l2→MemL l us→∃us2,us=ms.map mu++us2∧MemL l2 us2
  | [],l,l2,us,h,hm=>by
    have e:l=l2:=h
    subst e
    exact⟨us,rfl,hm⟩
  |m::r,l,l2,[],_,hm=>hm.elim
  |m::r,l,l2,(u,n)::us,⟨rest,⟨h1,h2,h3⟩,h4,h5⟩,hm=>by
    rcases hm with⟨hb,_⟩|⟨_,hu,⟨hb,_⟩|⟨_,hn,hm⟩⟩
    · exact absurd h1 hb
    · rw[h3]at hb;exact absurd U hb
    · rw[h3]at hu hn hm
      obtain⟨us2,e,h6⟩:=memL_chain h5 hm
      refine⟨us2,?_,h6⟩
      rw[e,hu,hn,List.map_cons,mu,h2,h4]
      rfl
theorem gz_rest_lt{D:List UInt8}(h:(gzR false D).2.1=1):(gzR false D).2.2.length+8≤D.length:=by
  rcases gzR_cases D with⟨q,a1,a2,a3,a4⟩|⟨a1,_⟩
  · rw[a4 false,gzT_one a1 a2 a3 rfl]
    simp only[List.length_drop]at a2⊢
    omega
  · rcases a1 with a1|a1<;>rw[h]at a1<;>cases a1
def UnV(u:UnpR)(cs:List Value)(G:Frags):Prop:=∃xa xc oa oc,cs=[.int .i64 ((u.1:Nat):Int),.string u.2.1.name,.string u.2.1.comment,.slice xa (u.2.1.extra.getD []).length xc,.int .i64 ((u.2.1.mod:Nat):Int),.int .u8 ((u.2.1.os:Nat):Int),.slice oa u.2.2.1.length oc,.int .i64 ((u.2.2.2:Nat):Int)]∧
  RdV (.slice xa (u.2.1.extra.getD []).length xc) (u.2.1.extra.getD []) G∧RdV (.slice oa u.2.2.1.length oc) u.2.2.1 G
def UnsV:List (UnpR×Nat)→List Value→Frags→Prop
  | [],cs,_=>cs=[]
  |u::r,cs,G=>∃c1 c2,cs=c1++c2∧UnV u.1 c1 G∧UnsV r c2 G
theorem UnV.mono{u:UnpR}{cs:List Value}{G G2:Frags}(h:UnV u cs G)(hs:∀f∈G,f∈G2):UnV u cs G2:=by
  obtain⟨xa,xc,oa,oc,h1,h2,h3⟩:=h
  exact⟨xa,xc,oa,oc,h1,h2.mono hs,h3.mono hs⟩
theorem UnsV.mono:∀{us:List (UnpR×Nat)} {cs:List Value} {G G2:Frags},UnsV us cs G→(∀f∈G,f∈G2)→UnsV us cs G2
  | [],cs,G,G2,h,_=>h
  |m::r,cs,G,G2,⟨c1,c2,h1,h2,h3⟩,hs=>⟨c1,c2,h1,h2.mono hs,h3.mono hs⟩
theorem UnsV.snoc:∀{us:List (UnpR×Nat)} {cs c:List Value} {G:Frags} {u:UnpR×Nat},UnsV us cs G→UnV u.1 c G→UnsV (us++[u]) (cs++c) G
  | [],cs,c,G,m,h,h2=>by
    have e:cs=[]:=h
    subst e
    exact⟨c,[],by simp,h2,rfl⟩
  |a::r,cs,c,G,m,⟨c1,c2,h1,h2,h3⟩,h4=>⟨c1,c2++c,by rw[h1,List.append_assoc],h2,UnsV.snoc h3 h4⟩
theorem UnV.len{u:UnpR}{cs:List Value}{G:Frags}(h:UnV u cs G):cs.length=8:=by
  obtain⟨_,_,_,_,rfl,_⟩:=h;rfl
theorem UnsV.get:∀{us:List (UnpR×Nat)} {cs:List Value} {G:Frags} {i:Nat} {u:UnpR×Nat},UnsV us cs G→us[i]? =some u→∃c,UnV u.1 c G∧(cs.drop (i*8)).take 8=c
  | [],cs,G,i,u,_,hi=>by simp at hi
  |a::r,cs,G,0,u,⟨c1,c2,h1,h2,h3⟩,hi=>by
    simp only[List.getElem?_cons_zero,Option.some.injEq]at hi
    subst hi
    refine⟨c1,h2,?_⟩
    rw[h1,Nat.zero_mul,List.drop_zero,List.take_left' h2.len]
  |a::r,cs,G,i+1,u,⟨c1,c2,h1,h2,h3⟩,hi=>by
    rw[List.getElem?_cons_succ]at hi
    obtain⟨c,h4,h5⟩:=UnsV.get h3 hi
    refine⟨c,h4,?_⟩
    rw[h1,Nat.add_mul,Nat.one_mul,Nat.add_comm (i*8) 8,←List.drop_drop,List.drop_left' h2.len,h5]
open Go
def HdOk(x:MB)(nb cb:List UInt8)(hd:Hd):Prop:=hd.name=latin nb∧hd.comment=latin cb∧hd.extra.getD []=x.md.extra∧((hd.mod:Nat):Int)=x.md.mod∧hd.os=x.md.os.toNat
theorem le32_num{n:Nat}{t:List UInt8}(h:n<4294967296):le32at (numL n 4++t) 0=n:=by
  obtain⟨a,b,c,d,e,h2⟩:=numL_four n h
  rw[e];exact h2
theorem le32_num4{m n:Nat}{t:List UInt8}(h:n<4294967296):le32at (numL m 4++(numL n 4++t)) 4=n:=by
  obtain⟨a,b,c,d,e,h2⟩:=numL_four n h
  rw[e];exact h2
theorem mem_made{K:Known}{x:MB}{part:List UInt8}(h:MemP K x part)(rest:List UInt8):∃nb cb data hd,MdOk x nb cb data∧memR (part++rest) hd data rest∧HdOk x nb cb hd:=by
  obtain⟨nb,cb,data,b,hok,hD,_,h0,_,rfl⟩:=h
  obtain⟨hnb,hcb,hnl,hcl,hel,hm0,hm1,hdat,hdl⟩:=id hok
  have e:firstL x.md nb cb++b++numL (crcOn IEEE 0 data) 4++numL data.length 4++rest=firstL x.md nb cb++(b++(numL (crcOn IEEE 0 data) 4++(numL data.length 4++rest))):=by simp only[List.append_assoc]
  obtain⟨h1,h2,h3,h4,h5,h6,h7⟩:=made_read (m:=x.md) (behind:=b++(numL (crcOn IEEE 0 data) 4++(numL data.length 4++rest))) (textB_latin hcb).2.1 hcl (textB_latin hnb).2.1 hnl (by omega) hm0 hm1
  have hcrc:=Hi (poly:=IEEE) (crc:=0) (by decide) (by decide) data
  have hd:(b++(numL (crcOn IEEE 0 data) 4++(numL data.length 4++rest))).drop b.length=numL (crcOn IEEE 0 data) 4++(numL data.length 4++rest):=List.drop_left' rfl
  have hg:gzR false (b++(numL (crcOn IEEE 0 data) 4++(numL data.length 4++rest)))=(data,1,rest):=by
    have h:=gz_good (hD (numL (crcOn IEEE 0 data) 4++(numL data.length 4++rest))) (by rw[hd];simp only[List.length_append,Bd];omega) (by rw[hd];exact⟨le32_num hcrc,by rw[le32_num4 (by omega)];omega⟩)
    rw[h,hd,←List.append_assoc,List.drop_left' (by simp only[List.length_append,Bd])]
  refine⟨nb,cb,data,_,hok,⟨by rw[e];exact h1,rfl,by rw[e,h2];exact hg⟩,?_⟩
  rw[e]
  exact⟨h3,h4,h5,h6,h7⟩
def AllM(K:Known)(n:Nat):List MB→List PM→Prop
  | [],[]=>True
  |x::xs,m::ms=>((∃nb cb,MdOk x nb cb m.data∧HdOk x nb cb m.hd)∧∀out,FileR K xs out→m.left=out.length+n)∧AllM K n xs ms
  |_,_=>False
theorem file_chain{K:Known}:∀{l:List MB} {ps:List (List UInt8)} (behind:List UInt8),AllP K l ps→∃ms,Chain (ps.flatten++behind) ms behind∧AllM K behind.length l ms
  | [],[],_,_=>⟨[],rfl,trivial⟩
  | [],_::_,_,h=>h.elim
  |_::_,[],_,h=>h.elim
  |x::xs,p::ps,behind,h=>by
    obtain⟨ms,h1,h2⟩:=file_chain behind h.2
    obtain⟨nb,cb,data,hd,a1,a2,a3⟩:=mem_made h.1 (ps.flatten++behind)
    refine⟨⟨hd,data,(ps.flatten++behind).length⟩::ms,⟨ps.flatten++behind,?_,rfl,h1⟩,⟨⟨nb,cb,a1,a3⟩,?_⟩,h2⟩
    · rw[List.flatten_cons,List.append_assoc];exact a2
    · rintro out⟨qs,hq,rfl⟩
      rw[hq.det h.2];exact List.length_append
theorem allM_len{K:Known}{n:Nat}:∀{l:List MB} {ms:List PM},AllM K n l ms→ms.length=l.length
  | [],[],_=>rfl
  |_::_,_::_,h=>by rw[List.length_cons,List.length_cons,allM_len h.2]
  | [],_::_,h=>h.elim
  |_::_,[],h=>h.elim
theorem allM_get{K:Known}{n:Nat}:∀{l:List MB} {ms:List PM} {i:Nat},AllM K n l ms→(hi:i<l.length)→∃m,ms[i]? =some m∧(∃nb cb,MdOk l[i] nb cb m.data∧HdOk l[i] nb cb m.hd)∧∀out,FileR K (l.drop (i+1)) out→m.left=out.length+n
  |x::xs,m::ms,0,h,_=>⟨m,rfl,h.1.1,h.1.2⟩
  |x::xs,m::ms,i+1,h,hi=>by
    obtain⟨m2,h1,h2,h3⟩:=allM_get h.2 (i:=i) (by simpa using hi)
    exact⟨m2,by rw[List.getElem?_cons_succ];exact h1,by simpa using h2,by simpa using h3⟩
  | [],[],_,_,hi=>by simp at hi
  | [],_::_,_,h,_=>h.elim
  |_::_,[],_,h,_=>h.elim
end Go.Eng
set_option maxRecDepth 100000
namespace Go.Eng
open Go Go.Proofs
theorem MemP.pos{K:Known}{x:MB}{p:List UInt8}(h:MemP K x p):0<p.length:=by
  obtain⟨nb,cb,data,b,_,_,_,h0,_,rfl⟩:=h
  simp only[List.length_append,Bd];omega
theorem FileR.pos{K:Known}{x:MB}{l:List MB}{out:List UInt8}(h:FileR K (x::l) out):0<out.length:=by
  obtain⟨ps,hp,rfl⟩:=h
  cases ps with
  |nil=>exact hp.elim
  |cons p ps=>
    have:=hp.1.pos
    rw[List.flatten_cons,List.length_append];omega
theorem make_rd{K:Known}(hS:SpT K)(hOC:CapS K 7)(l:List MB)(pb po pc:Nat)(hB:∀i (h:i<l.length),∃cs,MbA K cs l[i]∧∀j u,cs[j]? =some u→cellAt K pb (po+i*12+j)=some u)(hlen:wtMs l≤10000000)(hll:l.length≤10000000)(hmade:∀p∈l,∃nb cb data,MdOk p nb cb data)(hsize:∀p∈l,SizeOk p)(h0:0<l.length):
    Fn Tryz.prog K 10 #[.slice (some ⟨pb,po,none⟩) l.length pc] [] fun r L=>∃out g,Sl 1 r out.length (bytesV out) [g]∧0<out.length∧FileR K l out∧out.length≤1250*wtMs l∧L=[g]:=by
  refine Fn.lose (make_walk hS hOC l pb po pc hB hlen hll hmade hsize) ?_
  rintro r L⟨L2,J,hSm,v,out,rfl,h1,h2,h3⟩
  have hp:0<out.length:=by
    cases l with
    |nil=>simp at h0
    |cons x l=>exact h2.pos
  obtain⟨b,o,c,cs,e1,rfl,_⟩:=h1.one hp
  exact⟨_,J,hSm,out,_,h1,hp,h2,h3,rfl⟩
theorem allM_data{K:Known}{n:Nat}:∀{l:List MB} {ms:List PM},AllM K n l ms→allD ms=l.flatMap dataOf
  | [],[],_=>rfl
  |x::xs,m::ms,h=>by
    obtain⟨⟨⟨nb,cb,h1,_⟩,_⟩,h2⟩:=h
    rw[allD_cons,List.flatMap_cons,allM_data h2]
    have:dataOf x=m.data:=by unfold dataOf;rw[h1.2.2.2.2.2.2.2.1];rfl
    rw[this]
  | [],_::_,h=>h.elim
  |_::_,[],h=>h.elim
theorem latin_back{s:ByteArray}{nb:List UInt8}(h:textB s.data.toList=some nb):latin nb=s:=by
  rw[latin_eq,(textB_latin h).1]
end Go.Eng
