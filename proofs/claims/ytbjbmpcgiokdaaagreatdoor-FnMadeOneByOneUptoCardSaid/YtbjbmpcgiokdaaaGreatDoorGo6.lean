/-
  Texts of this proof, merged: WKd, Bnd, WUn, WRf1, WRf2, WRf3, WRf4, WUp, LoadR, Prm, Know, Det, WMk3, Lens, WMk4, WRf5, WMk5, Own, Det2.
-/
import Derived.Test.YtbjbmpcgiokdaaaGreatDoorGo4
import Derived.Test.YtbjbmpcgiokdaaaGreatDoorGo5
import Derived.Test.YtbjbmpcgiokdaaaGreatDoorGo2
import Derived.Test.YtbjbmpcgiokdaaaGreatDoorGo3
import Derived.Test.YtbjbmpcgiokdaaaGreatDoorGo1
set_option linter.unusedVariables false
set_option linter.unusedSimpArgs false
namespace Go.Eng
open Go Go.Proofs
set_option maxRecDepth 100000
theorem kind_spec{K:Known}{ea:Fin 5→Addr}(hs:Sents K ea)(e:Er):Fn Tryz.prog K 23 #[Er.val ea e] ([]) (fun r L=>r=.int .i64 ((kindOf e:Nat):Int)∧L=[]):=by
 refine Fn.intro (args:=[Er.val ea e]) (RR:=Ret1 2 _) Tryz.func23 rfl rfl Tryz.ntmps23 (res1 Tryz.results23) ?_
 refine Bi (env2:=[(0,Er.val ea e)]) U<|Cr<|Ea U U<|Ek2 0 2 U<|Am<|As<|Cr<|Em U U<|Ag (S.eqErNil U) U<|Ea U U<|Ek3 0 2 3 U<|C.ifNone U (fun h3=>?_) (fun h3=>?_)
 ·refine Cr<|Ea U U<|Ek3 0 2 3 U<|Bb ?_
  exact⟨_,rfl,by rw[h3];rfl,rfl⟩
 refine Cr<|Em U U<|Ag (Be U hs.g0 Ta58) U<|Ag (S.eqEr hs U U) U<|Ea U U<|Ek4 0 2 3 6 U<|C.ifSe U (fun h6=>?_) (fun h6=>?_)
 ·refine Cr<|Ea U U<|Ek4 0 2 3 6 U<|Bb ?_
  exact⟨_,rfl,by rw[h6];rfl,rfl⟩
 refine Cr<|Em U U<|Ag (Be U hs.g1 Ta58) U<|Ag (S.eqEr hs U U) U<|Ea U U<|Ek5 0 2 3 6 10 U<|C.ifSe U (fun h10=>?_) (fun h10=>?_)
 ·refine Cr<|Ea U U<|Ek5 0 2 3 6 10 U<|Bb ?_
  exact⟨_,rfl,by rw[h10];rfl,rfl⟩
 refine Cr<|Em U U<|Ag (Be U hs.g2 Ta58) U<|Ag (S.eqEr hs U U) U<|Ea U U<|Ek6 0 2 3 6 10 14 U<|C.ifSe U (fun h14=>?_) (fun h14=>?_)
 ·refine Cr<|Ea U U<|Ek6 0 2 3 6 10 14 U<|Bb ?_
  exact⟨_,rfl,by rw[h14];rfl,rfl⟩
 refine Cr<|Em U U<|Aa (Et (v:=.agg #[]) [] U (fun w=>by simp[Instr.build,Instr.fill,Value.cells,Tryz.zeroValue103])) U<|Aa (Eo U conc103) U<|Ag (S.eqErOther U U U U U) U<|Ea U U<|Ek7 0 2 3 6 10 14 18 U<|C.no U (rfl)<|Ap<|Cr<|Ea U U<|Ek7 0 2 3 6 10 14 18 U ?_
 refine Bb ?_
 exact⟨_,rfl,by rw[kindOf_other h3 h6 h10 h14];rfl,rfl⟩
def ExOut(ex:Option (List UInt8))(v:Value)(g:Frag):Prop:=match ex with
  |none=>v=.slice none 0 0
  |some d=>Own d v g
theorem exOut_one{ex:Option (List UInt8)}{v:Value}{g:Frag}(h:ExOut ex v g):one v=true:=by
  cases ex with
  |none=>have h':v=_:=h;rw[h'];rfl
  |some d=>obtain⟨b,o,c,cs,rfl,_⟩:=h;rfl
theorem headerOf_none{K:Known}(h:Hd)(hm:h.mod<4294967296):Fn Tryz.prog K 38 #[.agg #[.string h.comment,.slice (none) 0 0,.int .u64 0,.int .i64 (timeV h.mod),.string h.name,.int .u8 ((h.os:Nat):Int)]] ([]) (fun r L=>r=.agg #[.string h.name,.string h.comment,.slice none 0 0,.int .i64 ((h.mod:Nat):Int),.int .u8 ((h.os:Nat):Int)]):=by
 refine Fn.intro (args:=[.agg #[.string h.comment,.slice (none) 0 0,.int .u64 0,.int .i64 (timeV h.mod),.string h.name,.int .u8 ((h.os:Nat):Int)]]) (RR:=RetC 2 5 _) Tryz.func38 rfl rfl Tryz.ntmps38 (resC Tryz.results38 Ta27 Tz27) ?_
 refine Bi (env2:=[(0,.agg #[.string h.comment,.slice (none) 0 0,.int .u64 0,.int .i64 (timeV h.mod),.string h.name,.int .u8 ((h.os:Nat):Int)])]) U<|Cr ?_
 refine Ai (X.box U) U ?_;rintro _ _⟨b1,rfl,rfl⟩;refine Er1 U ?_
 refine Ai (Dq Tryz.zeroValue27) U ?_;rintro _ _⟨b2,rfl,rfl⟩;refine Er2 U ?_
 refine Ek2 1 2 U<|Am<|C.known ?_
 intro K2 hK2 hc2
 refine Bt [0,1,0,4,0,16,32,0,128,330,0,2047] (.pure 0 1532 (.pure 1 1533 (.pure 2 1523 (.pure 3 1527 (.pure 4 1423 (.pure 5 1439 (.pure 7 1151 (.pure 8 1279 (.alt 6 (.pure 9 1535 (.alt 10 (.alt 11 .done .stop) .stop)) (.alt 10 (.alt 6 (.pure 9 1535 (.alt 11 .done .stop)) .stop) .stop)))))))))) mixed (by decide+kernel)<|Ah U (Ab U fa92_3) U<|D.known U (Jh U (hc2 ⟨b1,0,_⟩ (.tail _ (.head _)) 4 _ U) Ta9) U<|Ah U (Ab U fa92_0) U<|D.known U (Jh U (hc2 ⟨b1,0,_⟩ (.tail _ (.head _)) 0 _ U) Ta9) U<|Ah U (Ab U fa92_1) U<|D.known U (Jh U (hc2 ⟨b1,0,_⟩ (.tail _ (.head _)) 1 _ U) Ta25) U<|Ah U (Ab U fa92_4) U<|D.known U (Jh U (hc2 ⟨b1,0,_⟩ (.tail _ (.head _)) 5 _ U) Ta5) U<|Hc ?_ ⟨?_,trivial⟩
 ·refine Bo U (OpX.pick [] (F:=[]) U (Ar U Tryz.call22 clone_nil)) U ?_;rintro _ _⟨_,⟨rfl,rfl⟩,rfl⟩;refine Dz (L2:=[]) U ?_
  refine Ah U (Et (v:=.agg #[.string h.name,.string h.comment,.slice none 0 0,.int .i64 0,.int .u8 ((h.os:Nat):Int)]) [(0,.string h.name),(1,.string h.comment),(2,.slice none 0 0),(4,.int .u8 ((h.os:Nat):Int))] U (fun w=>by simp[Instr.build,Instr.fill,Value.cells,Tryz.zeroValue27])) U<|By ?_
  refine Bo U (Dq Tryz.zeroValue27) U ?_;rintro _ _⟨b3,rfl,rfl⟩;refine Dr1 U ?_
  refine By ?_
  refine Di U (Bq 0 (k:=0) U U U U U U Tz27 U) ?_;rintro _ _⟨rfl,rfl⟩;refine Dr1 U ?_
  refine Dk3 1 2 3 U<|Bx (L2:=[_,_,_]) U<|Am<|Cr<|Aa (Ab U fa92_2) U<|Ag (De 2 (k:=2) U U U U Ta90 Tz90) U ?_
  refine Ai (OpX.pick [] (F:=[_,_,_]) U (Ar U Tryz.call53 (isZero_spec (timeN h.mod)))) U ?_;rintro _ _⟨_,⟨_,rfl,rfl⟩,rfl⟩;refine Er4 U ?_
  refine Aa (Gc U) U<|Ek4 1 2 3 17 U<|Eg U (fun h17=>?_) (fun h17=>?_)
  ·have hz:h.mod≠0:=by
     intro hz
     rw[timeN,if_pos hz]at h17
     simp at h17
   refine Al<|Aa (Ab U fa92_2) U<|Ag (De 3 (k:=2) U U U U Ta90 Tz90) U ?_
   refine An (v:=.agg #[.int .u64 0,.int .i64 ((h.mod+62135596800:Nat):Int)]) (by show Value.agg #[.int .u64 0,.int .i64 (timeV h.mod)]=_;rw[timeV,timeN,if_neg hz]) ?_
   refine Ai (OpX.pick [] (F:=[_,_,_,_]) U (Ar U Tryz.call54 (timeUnix_spec h.mod (by omega)))) U ?_;rintro _ _⟨_,⟨_,rfl,rfl⟩,rfl⟩;refine Er5 U ?_
   refine Aa (Ab U fa27_3) U ?_
   refine Ao (Aq 2 (k:=3) U U U U U Tz2) ?_;rintro _ _⟨rfl,rfl⟩;refine Er5 U ?_
   refine Ek4 1 2 3 17 U<|Cr<|Ag (De 2 (k:=0) U U U U Ta27 Tz27) U ?_
   refine Ao (Bq 3 (k:=0) U U U U U U Tz27 U) ?_;rintro _ _⟨rfl,rfl⟩;refine Er5 U ?_
   refine Ek4 1 2 3 17 U<|Bb ?_
   refine⟨_,⟨_,_,3,rfl,rfl,rfl⟩,rfl⟩
  have hz:h.mod=0:=by
    unfold timeN at h17
    split at h17
    · assumption
    · simp at h17
  refine Ap<|Cr<|Ag (De 1 (k:=0) U U U U Ta27 Tz27) U ?_
  refine Ao (Bq 2 (k:=0) U U U U U U Tz27 U) ?_;rintro _ _⟨rfl,rfl⟩;refine Er4 U ?_
  refine Ek4 1 2 3 17 U<|Bb ?_
  refine⟨_,⟨_,_,2,rfl,rfl,rfl⟩,(by rw[hz];rfl)⟩
 refine Bo U (Dq Tryz.zeroValue27) U ?_;rintro _ _⟨b3,rfl,rfl⟩;refine Dr1 U ?_
 refine By ?_
 refine Bo U (OpX.pick [] (F:=[_]) U (Ar U Tryz.call22 clone_nil)) U ?_;rintro _ _⟨_,⟨rfl,rfl⟩,rfl⟩;refine Dr1 U ?_
 refine Ah U (Et (v:=.agg #[.string h.name,.string h.comment,.slice none 0 0,.int .i64 0,.int .u8 ((h.os:Nat):Int)]) [(0,.string h.name),(1,.string h.comment),(2,.slice none 0 0),(4,.int .u8 ((h.os:Nat):Int))] U (fun w=>by simp[Instr.build,Instr.fill,Value.cells,Tryz.zeroValue27])) U<|By ?_
 refine Di U (Bq 0 (k:=0) U U U U U U Tz27 U) ?_;rintro _ _⟨rfl,rfl⟩;refine Dr1 U ?_
 refine Dk3 1 2 3 U<|Bx (L2:=[_,_,_]) U<|Am<|Cr<|Aa (Ab U fa92_2) U<|Ag (De 2 (k:=2) U U U U Ta90 Tz90) U ?_
 refine Ai (OpX.pick [] (F:=[_,_,_]) U (Ar U Tryz.call53 (isZero_spec (timeN h.mod)))) U ?_;rintro _ _⟨_,⟨_,rfl,rfl⟩,rfl⟩;refine Er4 U ?_
 refine Aa (Gc U) U<|Ek4 1 2 3 17 U<|Eg U (fun h17=>?_) (fun h17=>?_)
 ·have hz:h.mod≠0:=by
    intro hz
    rw[timeN,if_pos hz]at h17
    simp at h17
  refine Al<|Aa (Ab U fa92_2) U<|Ag (De 3 (k:=2) U U U U Ta90 Tz90) U ?_
  refine An (v:=.agg #[.int .u64 0,.int .i64 ((h.mod+62135596800:Nat):Int)]) (by show Value.agg #[.int .u64 0,.int .i64 (timeV h.mod)]=_;rw[timeV,timeN,if_neg hz]) ?_
  refine Ai (OpX.pick [] (F:=[_,_,_,_]) U (Ar U Tryz.call54 (timeUnix_spec h.mod (by omega)))) U ?_;rintro _ _⟨_,⟨_,rfl,rfl⟩,rfl⟩;refine Er5 U ?_
  refine Aa (Ab U fa27_3) U ?_
  refine Ao (Aq 2 (k:=3) U U U U U Tz2) ?_;rintro _ _⟨rfl,rfl⟩;refine Er5 U ?_
  refine Ek4 1 2 3 17 U<|Cr<|Ag (De 2 (k:=0) U U U U Ta27 Tz27) U ?_
  refine Ao (Bq 3 (k:=0) U U U U U U Tz27 U) ?_;rintro _ _⟨rfl,rfl⟩;refine Er5 U ?_
  refine Ek4 1 2 3 17 U<|Bb ?_
  refine⟨_,⟨_,_,3,rfl,rfl,rfl⟩,rfl⟩
 have hz:h.mod=0:=by
   unfold timeN at h17
   split at h17
   · assumption
   · simp at h17
 refine Ap<|Cr<|Ag (De 1 (k:=0) U U U U Ta27 Tz27) U ?_
 refine Ao (Bq 2 (k:=0) U U U U U U Tz27 U) ?_;rintro _ _⟨rfl,rfl⟩;refine Er4 U ?_
 refine Ek4 1 2 3 17 U<|Bb ?_
 refine⟨_,⟨_,_,2,rfl,rfl,rfl⟩,(by rw[hz];rfl)⟩
theorem headerOf_some{K:Known}(h:Hd)(hm:h.mod<4294967296)(eb:Nat)(d:List UInt8)(hd:d.length<65536):Fn Tryz.prog K 38 #[.agg #[.string h.comment,.slice (some ⟨eb,0,none⟩) d.length d.length,.int .u64 0,.int .i64 (timeV h.mod),.string h.name,.int .u8 ((h.os:Nat):Int)]] ([⟨eb,0,bytesV d⟩]) (fun r L=>∃v g,Own d v g∧g∈L∧r=.agg #[.string h.name,.string h.comment,v,.int .i64 ((h.mod:Nat):Int),.int .u8 ((h.os:Nat):Int)]):=by
 refine Fn.intro (args:=[.agg #[.string h.comment,.slice (some ⟨eb,0,none⟩) d.length d.length,.int .u64 0,.int .i64 (timeV h.mod),.string h.name,.int .u8 ((h.os:Nat):Int)]]) (RR:=RetC 2 5 _) Tryz.func38 rfl rfl Tryz.ntmps38 (resC Tryz.results38 Ta27 Tz27) ?_
 refine Bi (env2:=[(0,.agg #[.string h.comment,.slice (some ⟨eb,0,none⟩) d.length d.length,.int .u64 0,.int .i64 (timeV h.mod),.string h.name,.int .u8 ((h.os:Nat):Int)])]) U<|Cr ?_
 refine Ai (X.box U) U ?_;rintro _ _⟨b1,rfl,rfl⟩;refine Er2 U ?_
 refine Ai (Dq Tryz.zeroValue27) U ?_;rintro _ _⟨b2,rfl,rfl⟩;refine Er3 U ?_
 refine Ek2 1 2 U<|Am<|C.known ?_
 intro K2 hK2 hc2
 have hKB:KB K2 eb 0 d:=fun j hj=>hc2 ⟨eb,0,bytesV d⟩ (.tail _ (.tail _ (.head _))) j _ (Jg hj)
 refine Bt [0,1,0,4,0,16,32,0,128,330,0,2047] (.pure 0 1532 (.pure 1 1533 (.pure 2 1523 (.pure 3 1527 (.pure 4 1423 (.pure 5 1439 (.pure 7 1151 (.pure 8 1279 (.alt 6 (.pure 9 1535 (.alt 10 (.alt 11 .done .stop) .stop)) (.alt 10 (.alt 6 (.pure 9 1535 (.alt 11 .done .stop)) .stop) .stop)))))))))) mixed (by decide+kernel)<|Ah U (Ab U fa92_3) U<|D.known U (Jh U (hc2 ⟨b1,0,_⟩ (.tail _ (.head _)) 4 _ U) Ta9) U<|Ah U (Ab U fa92_0) U<|D.known U (Jh U (hc2 ⟨b1,0,_⟩ (.tail _ (.head _)) 0 _ U) Ta9) U<|Ah U (Ab U fa92_1) U<|D.known U (Jh U (hc2 ⟨b1,0,_⟩ (.tail _ (.head _)) 1 _ U) Ta25) U<|Ah U (Ab U fa92_4) U<|D.known U (Jh U (hc2 ⟨b1,0,_⟩ (.tail _ (.head _)) 5 _ U) Ta5) U<|Hc ?_ ⟨?_,trivial⟩
 ·refine Bo U (Ar U Tryz.call22 (clone_spec eb 0 d.length d hKB.reads (by omega))) U ?_;rintro _ _⟨g,⟨cb,co,cc,cs,rfl,rfl,hcc⟩,rfl⟩;refine Dr1 U ?_
  refine Ah U (Et (v:=.agg #[.string h.name,.string h.comment,.slice (some ⟨cb,co,none⟩) d.length cc,.int .i64 0,.int .u8 ((h.os:Nat):Int)]) [(0,.string h.name),(1,.string h.comment),(2,.slice (some ⟨cb,co,none⟩) d.length cc),(4,.int .u8 ((h.os:Nat):Int))] U (fun w=>by simp[Instr.build,Instr.fill,Value.cells,Tryz.zeroValue27])) U<|By ?_
  refine Bo U (Dq Tryz.zeroValue27) U ?_;rintro _ _⟨b3,rfl,rfl⟩;refine Dr2 U ?_
  refine By ?_
  refine Di U (Bq 0 (k:=0) U U U U U U Tz27 U) ?_;rintro _ _⟨rfl,rfl⟩;refine Dr2 U ?_
  refine Dk3 1 2 3 U<|Bx (L2:=[_,_,_,_,_]) U<|Am<|Cr<|Aa (Ab U fa92_2) U<|Ag (De 3 (k:=2) U U U U Ta90 Tz90) U ?_
  refine Ai (OpX.pick [] (F:=[_,_,_,_,_]) U (Ar U Tryz.call53 (isZero_spec (timeN h.mod)))) U ?_;rintro _ _⟨_,⟨_,rfl,rfl⟩,rfl⟩;refine Er6 U ?_
  refine Aa (Gc U) U<|Ek4 1 2 3 17 U<|Eg U (fun h17=>?_) (fun h17=>?_)
  ·have hz:h.mod≠0:=by
     intro hz
     rw[timeN,if_pos hz]at h17
     simp at h17
   refine Al<|Aa (Ab U fa92_2) U<|Ag (De 4 (k:=2) U U U U Ta90 Tz90) U ?_
   refine An (v:=.agg #[.int .u64 0,.int .i64 ((h.mod+62135596800:Nat):Int)]) (by show Value.agg #[.int .u64 0,.int .i64 (timeV h.mod)]=_;rw[timeV,timeN,if_neg hz]) ?_
   refine Ai (OpX.pick [] (F:=[_,_,_,_,_,_]) U (Ar U Tryz.call54 (timeUnix_spec h.mod (by omega)))) U ?_;rintro _ _⟨_,⟨_,rfl,rfl⟩,rfl⟩;refine Er7 U ?_
   refine Aa (Ab U fa27_3) U ?_
   refine Ao (Aq 2 (k:=3) U U U U U Tz2) ?_;rintro _ _⟨rfl,rfl⟩;refine Er7 U ?_
   refine Ek4 1 2 3 17 U<|Cr<|Ag (De 2 (k:=0) U U U U Ta27 Tz27) U ?_
   refine Ao (Bq 4 (k:=0) U U U U U U Tz27 U) ?_;rintro _ _⟨rfl,rfl⟩;refine Er7 U ?_
   refine Ek4 1 2 3 17 U<|Bb ?_
   refine⟨_,⟨_,_,4,rfl,rfl,rfl⟩,_,⟨cb,co,bytesV d++cs⟩,⟨cb,co,cc,cs,rfl,rfl,hcc⟩,by simp,rfl⟩
  have hz:h.mod=0:=by
    unfold timeN at h17
    split at h17
    · assumption
    · simp at h17
  refine Ap<|Cr<|Ag (De 1 (k:=0) U U U U Ta27 Tz27) U ?_
  refine Ao (Bq 3 (k:=0) U U U U U U Tz27 U) ?_;rintro _ _⟨rfl,rfl⟩;refine Er6 U ?_
  refine Ek4 1 2 3 17 U<|Bb ?_
  refine⟨_,⟨_,_,3,rfl,rfl,rfl⟩,_,⟨cb,co,bytesV d++cs⟩,⟨cb,co,cc,cs,rfl,rfl,hcc⟩,by simp,(by rw[hz];rfl)⟩
 refine Bo U (Dq Tryz.zeroValue27) U ?_;rintro _ _⟨b3,rfl,rfl⟩;refine Dr1 U ?_
 refine By ?_
 refine Bo U (Ar U Tryz.call22 (clone_spec eb 0 d.length d hKB.reads (by omega))) U ?_;rintro _ _⟨g,⟨cb,co,cc,cs,rfl,rfl,hcc⟩,rfl⟩;refine Dr2 U ?_
 refine Ah U (Et (v:=.agg #[.string h.name,.string h.comment,.slice (some ⟨cb,co,none⟩) d.length cc,.int .i64 0,.int .u8 ((h.os:Nat):Int)]) [(0,.string h.name),(1,.string h.comment),(2,.slice (some ⟨cb,co,none⟩) d.length cc),(4,.int .u8 ((h.os:Nat):Int))] U (fun w=>by simp[Instr.build,Instr.fill,Value.cells,Tryz.zeroValue27])) U<|By ?_
 refine Di U (Bq 1 (k:=0) U U U U U U Tz27 U) ?_;rintro _ _⟨rfl,rfl⟩;refine Dr2 U ?_
 refine Dk3 1 2 3 U<|Bx (L2:=[_,_,_,_,_]) U<|Am<|Cr<|Aa (Ab U fa92_2) U<|Ag (De 3 (k:=2) U U U U Ta90 Tz90) U ?_
 refine Ai (OpX.pick [] (F:=[_,_,_,_,_]) U (Ar U Tryz.call53 (isZero_spec (timeN h.mod)))) U ?_;rintro _ _⟨_,⟨_,rfl,rfl⟩,rfl⟩;refine Er6 U ?_
 refine Aa (Gc U) U<|Ek4 1 2 3 17 U<|Eg U (fun h17=>?_) (fun h17=>?_)
 ·have hz:h.mod≠0:=by
    intro hz
    rw[timeN,if_pos hz]at h17
    simp at h17
  refine Al<|Aa (Ab U fa92_2) U<|Ag (De 4 (k:=2) U U U U Ta90 Tz90) U ?_
  refine An (v:=.agg #[.int .u64 0,.int .i64 ((h.mod+62135596800:Nat):Int)]) (by show Value.agg #[.int .u64 0,.int .i64 (timeV h.mod)]=_;rw[timeV,timeN,if_neg hz]) ?_
  refine Ai (OpX.pick [] (F:=[_,_,_,_,_,_]) U (Ar U Tryz.call54 (timeUnix_spec h.mod (by omega)))) U ?_;rintro _ _⟨_,⟨_,rfl,rfl⟩,rfl⟩;refine Er7 U ?_
  refine Aa (Ab U fa27_3) U ?_
  refine Ao (Aq 3 (k:=3) U U U U U Tz2) ?_;rintro _ _⟨rfl,rfl⟩;refine Er7 U ?_
  refine Ek4 1 2 3 17 U<|Cr<|Ag (De 3 (k:=0) U U U U Ta27 Tz27) U ?_
  refine Ao (Bq 4 (k:=0) U U U U U U Tz27 U) ?_;rintro _ _⟨rfl,rfl⟩;refine Er7 U ?_
  refine Ek4 1 2 3 17 U<|Bb ?_
  refine⟨_,⟨_,_,4,rfl,rfl,rfl⟩,_,⟨cb,co,bytesV d++cs⟩,⟨cb,co,cc,cs,rfl,rfl,hcc⟩,by simp,rfl⟩
 have hz:h.mod=0:=by
   unfold timeN at h17
   split at h17
   · assumption
   · simp at h17
 refine Ap<|Cr<|Ag (De 2 (k:=0) U U U U Ta27 Tz27) U ?_
 refine Ao (Bq 3 (k:=0) U U U U U U Tz27 U) ?_;rintro _ _⟨rfl,rfl⟩;refine Er6 U ?_
 refine Ek4 1 2 3 17 U<|Bb ?_
 refine⟨_,⟨_,_,3,rfl,rfl,rfl⟩,_,⟨cb,co,bytesV d++cs⟩,⟨cb,co,cc,cs,rfl,rfl,hcc⟩,by simp,(by rw[hz];rfl)⟩
theorem headerOf_spec{K:Known}(h:Hd)(hm:h.mod<4294967296)(xa:Option Addr)(xn:Nat)(X:Frag)(hX:ExAt h.extra xa xn X):
    Fn Tryz.prog K 38 #[.agg #[.string h.comment,.slice xa xn xn,.int .u64 0,.int .i64 (timeV h.mod),.string h.name,.int .u8 ((h.os:Nat):Int)]] [X] (fun r L=>∃v g,ExOut h.extra v g∧L=[g]∧r=.agg #[.string h.name,.string h.comment,v,.int .i64 ((h.mod:Nat):Int),.int .u8 ((h.os:Nat):Int)]):=by
  cases hx:h.extra with
  |none=>
    rw[hx]at hX
    obtain⟨rfl,rfl,_⟩:=hX
    refine Fn.lose (Fn.frame (F:=[X]) (headerOf_none h hm)) ?_
    rintro v _⟨L1,rfl,rfl⟩
    refine⟨[X],L1,Same.perm List.perm_append_comm,.slice none 0 0,X,rfl,rfl,rfl⟩
  |some d=>
    rw[hx]at hX
    obtain⟨b,rfl,rfl,rfl,hd⟩:=hX
    refine Fn.lose (headerOf_some h hm b d hd) ?_
    rintro r L'⟨v,g,h1,h2,rfl⟩
    obtain⟨A',B',rfl⟩:=List.append_of_mem h2
    exact⟨[g],A'++B',Same.perm List.perm_middle,v,g,h1,rfl,rfl⟩
theorem rd4_mod(l:List UInt8)(f d:Nat)(h:Hd):(rd4 l f d h).2.2.mod=h.mod:=by
  unfold rd4;split
  · rfl
  · split
    · rfl
    · split<;>rfl
theorem rd3_mod(l:List UInt8)(f d:Nat)(h:Hd):(rd3 l f d h).2.2.mod=h.mod:=by
  unfold rd3;split
  · exact rd4_mod ..
  · split
    · rfl
    · exact rd4_mod ..
theorem rd2_mod(l:List UInt8)(f d:Nat)(h:Hd):(rd2 l f d h).2.2.mod=h.mod:=by
  unfold rd2;split
  · exact rd3_mod ..
  · split
    · rfl
    · exact rd3_mod ..
theorem rd1_mod(l:List UInt8)(f d:Nat)(h:Hd):(rd1 l f d h).2.2.mod=h.mod:=by
  unfold rd1;split
  · exact rd2_mod ..
  · split
    · rfl
    · split
      · rfl
      · exact rd2_mod ..
theorem readHead_mod(l:List UInt8):(Ac l).2.2.mod<4294967296:=by
  unfold Ac;split
  · exact Nat.zero_lt_succ _
  · split
    · rw[rd1_mod];exact le32_lt (UInt8.toNat_lt _) (UInt8.toNat_lt _) (UInt8.toNat_lt _) (UInt8.toNat_lt _)
    · exact Nat.zero_lt_succ _
theorem sizes_le:∀x∈sizesL,x≤258:=by decide
theorem more_le:∀x∈moreL,x≤5:=by decide
theorem getD_le{l:List Nat}{m:Nat}(h:∀x∈l,x≤m)(i:Nat):l.getD i 0≤m:=by
  rcases Nat.lt_or_ge i l.length with h1|h1
  · rw[List.getD_eq_getElem?_getD,List.getElem?_eq_getElem h1];exact h _ (List.getElem_mem h1)
  · rw[List.getD_eq_getElem?_getD,List.getElem?_eq_none h1];exact Nat.zero_le _
theorem copyR_le{t:Tabs}{D:List UInt8}{v p n d p2:Nat}(h:copyR t D v p=some (n,d,p2)):n≤290:=by
  unfold copyR at h
  have h1:=getD_le sizes_le (v-257)
  have h2:=Fw D p (moreL.getD (v-257) 0)
  have h3:2^moreL.getD (v-257) 0≤2^5:=Nat.pow_le_pow_right (by omega) (getD_le more_le _)
  split at h
  · cases h
  · split at h
    · cases h
    · split at h
      · cases h
      · split at h
        · cases h
        · simp only[Option.some.injEq,Prod.mk.injEq]at h
          omega
theorem copyN_len(out:List UInt8)(d n:Nat):(copyN out d n).length=out.length+n:=by
  induction n with
  |zero=>rfl
  |succ n ih=>rw[copyN,List.length_append,ih];rfl
theorem run_len_aux(D:List UInt8):∀k ph out p,8*D.length-p<k→(run D ph out p).1.length≤out.length+300*(8*D.length-p):=by
  intro k
  induction k with
  |zero=>exact fun ph out p hk=>absurd hk (Nat.not_lt_zero _)
  |succ k ih=>
    intro ph out p hk
    have st:∀ph o2 p2,p<p2∧p2≤8*D.length→o2.length≤out.length+300*(p2-p)→(run D ph o2 p2).1.length≤out.length+300*(8*D.length-p):=fun ph o2 p2 h h2=>by
      have:=ih ph o2 p2 (by omega)
      omega
    have n0:out.length≤out.length+300*(8*D.length-p):=Nat.le_add_right _ _
    rw[run.eq_def]
    split
    · split
      · exact n0
      · rename_i hl
        unfold left at hl
        split
        · split
          · exact n0
          · rename_i n hn
            unfold Gz at hn
            split at hn
            · cases hn
            · split
              · simp only[List.length_append,List.length_drop];omega
              · split
                · simp only[List.length_append,List.length_take,List.length_drop];omega
                · split
                  · rename_i h
                    exact st _ _ _ h (by simp only[List.length_append,List.length_take,List.length_drop];omega)
                  · exact n0
        · split
          · split
            · rename_i h;exact st _ _ _ h (Nat.le_add_right _ _)
            · exact n0
          · split
            · split
              · exact n0
              · split
                · rename_i h;exact st _ _ _ h (Nat.le_add_right _ _)
                · exact n0
            · exact n0
    · split
      · exact n0
      · split
        · split
          · rename_i h;exact st _ _ _ h (by rw[List.length_append,List.length_singleton];omega)
          · exact n0
        · split
          · split
            · exact n0
            · split
              · rename_i h;exact st _ _ _ h (Nat.le_add_right _ _)
              · exact n0
          · split
            · exact n0
            · split
              · exact n0
              · rename_i n d p2 hc
                have hn:=copyR_le hc
                split
                · exact n0
                · split
                  · rename_i h;exact st _ _ _ h (by rw[copyN_len];omega)
                  · exact n0
theorem run_len(D:List UInt8)(ph:Ph)(out:List UInt8)(p:Nat):(run D ph out p).1.length≤out.length+300*(8*D.length-p):=run_len_aux D _ ph out p (Nat.lt_succ_self _)
theorem gzR_len_aux(ms:Bool):∀k D,D.length<k→D.length≤65536→(gzR ms D).1.length≤157286400*D.length:=by
  intro k
  induction k with
  |zero=>exact fun D hk _=>absurd hk (Nat.not_lt_zero _)
  |succ k ih=>
    intro D hk hD
    have h1:=run_len D .next [] 0
    simp only[List.length_nil]at h1
    rw[gzR]
    split
    · simp only;omega
    · split
      · simp only;omega
      · split
        · simp only;omega
        · split
          · simp only;omega
          · split
            · simp only;omega
            · split
              · rename_i h
                have:=ih _ (Nat.lt_of_lt_of_le h (Nat.le_of_lt_succ hk)) (by omega)
                simp only[List.length_append]
                omega
              · simp only;omega
theorem gzR_len(ms:Bool)(D:List UInt8)(h:D.length≤65536):(gzR ms D).1.length≤10307921510400:=by
  have:=gzR_len_aux ms _ D (Nat.lt_succ_self _) h
  omega
set_option maxHeartbeats 1000000
def SzA(K:Known)(sv:Value):Prop:=∃a n c,sv=.slice a n c∧n≤9223372036854775807∧(n=0∨∃b o,a=some ⟨b,o,none⟩∧∀j,j<n→∃v:Int,cellAt K b (o+j*1)=some (.int .i64 v))
theorem SzA.nil(K:Known):SzA K (.slice none 0 0):=⟨none,0,0,rfl,by decide,.inl rfl⟩
theorem sizeAt_none{K:Known}(a:Option Addr)(c i:Nat):Fn Tryz.prog K 39 #[.slice a 0 c,.int .i64 ((i:Nat):Int)] ([]) (fun r L=>r=.int .i64 ((512:Nat):Int)∧L=[]):=by
 refine Fn.intro (args:=[.slice a 0 c,.int .i64 ((i:Nat):Int)]) (RR:=Ret1 4 _) Tryz.func39 rfl rfl Tryz.ntmps39 (res1 Tryz.results39) ?_
 refine Bi (env2:=[(0,.slice a 0 c),(1,.int .i64 ((i:Nat):Int))]) U<|Cr<|Ea U U<|Ek3 0 1 4 U<|Am<|Cr<|Em U U<|Aa (Bc U Tu23) U<|Aa (Ef (b:=((0:Nat):Int)) U U) U<|An (v:=.bool true) (congrArg Value.bool (by decide))<|Ek4 0 1 4 7 U<|He U (rfl) ?_
 refine Cr<|Ea U U<|Ek4 0 1 4 7 U<|Bb ?_
 exact⟨_,rfl,rfl,rfl⟩
theorem clamp(v:Int):∃k:Nat,1≤k∧k≤4096∧(if(if v<4096 then v else 4096)>1 then(if v<4096 then v else 4096)else(1:Int))=(k:Int):=by
  by_cases h1:v<4096
  · rw[if_pos h1]
    by_cases h2:v>1
    · rw[if_pos h2];exact⟨v.toNat,by omega,by omega,by omega⟩
    · rw[if_neg h2];exact⟨1,by omega,by omega,rfl⟩
  · rw[if_neg h1,if_pos (by decide)];exact⟨4096,by omega,by omega,rfl⟩
theorem sizeAt_some{K:Known}(b o n c i:Nat)(hn0:0<n)(hn:n≤9223372036854775807)(hv:∀j,j<n→∃v:Int,cellAt K b (o+j*1)=some (.int .i64 v)):Fn Tryz.prog K 39 #[.slice (some ⟨b,o,none⟩) (n) (c),.int .i64 ((i:Nat):Int)] ([]) (fun r L=>∃k:Nat,1≤k∧k≤4096∧r=.int .i64 (k:Int)∧L=[]):=by
 refine Fn.intro (args:=[.slice (some ⟨b,o,none⟩) (n) (c),.int .i64 ((i:Nat):Int)]) (RR:=Ret1 4 _) Tryz.func39 rfl rfl Tryz.ntmps39 (res1 Tryz.results39) ?_
 refine Bi (env2:=[(0,.slice (some ⟨b,o,none⟩) (n) (c)),(1,.int .i64 ((i:Nat):Int))]) U<|Cr<|Ea U U<|Ek3 0 1 4 U<|Am<|Cr<|Em U U<|Aa (Bc U Tu23) U<|Aa (Ef (b:=((0:Nat):Int)) U U) U<|An (v:=.bool false) (congrArg Value.bool (decide_eq_false (by omega)))<|Ek4 0 1 4 7 U<|C.no U (rfl) ?_
 refine Ap<|Cr<|Em U U<|Em U U<|Em U U<|Aa (Bc U Tu23) U<|Aa (S.rem (a:=((i:Nat):Int)) (b:=((n:Nat):Int)) (r:=((i%n:Nat):Int)) U U (by omega) (by rw[←Int.ofNat_tmod])) U ?_
 have hil:=Nat.mod_lt i hn0
 obtain⟨v,hcell⟩:=hv (i%n) hil
 refine Aa (Bm U U (by omega) Tu23 Tz3) U<|Ag (Be U hcell Ta3) U<|Aa (S.min2 U U) U<|Aa (S.max2 U U) U ?_
 obtain⟨kk,hk1,hk2,hk3⟩:=clamp v
 refine An (v:=.int .i64 (kk:Int)) (congrArg (Value.int .i64) hk3)<|Ea U U<|Ek3 0 4 7 U<|Bb ?_
 exact⟨_,rfl,kk,hk1,hk2,rfl,rfl⟩
theorem sizeAt_spec{K:Known}{sv:Value}(h:SzA K sv)(i:Nat)(L:Frags):Fn Tryz.prog K 39 #[sv,.int .i64 ((i:Nat):Int)] L fun r L'=>∃k:Nat,1≤k∧k≤4096∧r=.int .i64 (k:Int)∧L'=L:=by
  obtain⟨a,n,c,rfl,h1,h2⟩:=h
  refine Fn.mono (R:=fun v L'=>∃L1,(∃k:Nat,1≤k∧k≤4096∧v=.int .i64 (k:Int)∧L1=[])∧L'=L1++L) ?_ ?_
  · refine Fn.frame (L:=[]) (F:=L) ?_
    rcases Nat.eq_zero_or_pos n with rfl|h0
    · exact Fn.mono (sizeAt_none a c i) fun v L h=>⟨512,by decide,by decide,h.1,h.2⟩
    · obtain⟨b,o,rfl,hv⟩:=h2.resolve_left (by omega)
      exact sizeAt_some b o n c i h0 h1 hv
  · rintro v L'⟨L1,⟨k,h1,h2,rfl,rfl⟩,rfl⟩
    exact⟨k,h1,h2,rfl,rfl⟩
abbrev UnpR:=Nat×Hd×List UInt8×Nat
def unV(u:UnpR)(ev bv:Value):Value:=.agg #[.int .i64 ((u.1:Nat):Int),.string u.2.1.name,.string u.2.1.comment,ev,.int .i64 ((u.2.1.mod:Nat):Int),.int .u8 ((u.2.1.os:Nat):Int),bv,.int .i64 ((u.2.2.2:Nat):Int)]
def RdV(v:Value)(l:List UInt8)(G:Frags):Prop:=∃a c,v=.slice a l.length c∧∀(K:Known) (L:Frags),(∀f∈G,f∈L)→(l=[]∨∃b o,a=some ⟨b,o,none⟩∧Reads K L b o (bytesV l))
def UnpV(u:UnpR)(r:Value)(G:Frags):Prop:=∃ev bv,r=unV u ev bv∧RdV ev (u.2.1.extra.getD []) G∧RdV bv u.2.2.1 G
theorem RdV.mono{v:Value}{l:List UInt8}{G G2:Frags}(h:RdV v l G)(hs:∀f∈G,f∈G2):RdV v l G2:=by
  obtain⟨a,c,e,h⟩:=h
  exact⟨a,c,e,fun K L hL=>h K L fun f hf=>hL f (hs f hf)⟩
theorem RdV.nil:RdV (.slice none 0 0) [] []:=⟨none,0,rfl,fun _ _ _=>.inl rfl⟩
theorem exOut_rd{ex:Option (List UInt8)}{v:Value}{g:Frag}(h:ExOut ex v g):RdV v (ex.getD []) [g]:=by
  cases ex with
  |none=>have h':v=_:=h;subst h';exact⟨_,_,rfl,fun _ _ _=>.inl U⟩
  |some d=>
    obtain⟨b,o,c,cs,rfl,rfl,_⟩:=h
    exact⟨_,_,rfl,fun K L hL=>.inr ⟨b,o,rfl,Reads.mem (k:=0) (hL _ (.head _)) (by rw[List.drop_zero];exact List.take_left' rfl)⟩⟩
theorem sl_rd{v:Value}{l:List UInt8}{Lf:Frags}(h:Sl 1 v l.length (bytesV l) Lf):RdV v l Lf:=by
  rcases h.2 with⟨rfl,h2,rfl⟩|⟨b,o,c,cs,rfl,rfl,h3,h4,h5,h6⟩
  · have:=List.eq_nil_of_length_eq_zero h2
    subst this
    exact RdV.nil
  · rw[Nat.mul_one]at h6
    exact⟨_,_,rfl,fun K L hL=>.inr ⟨b,o,rfl,Reads.mem (k:=0) (hL _ (.head _)) (by rw[List.drop_zero,Bh];exact h6)⟩⟩
def RestEnd{K:Known}{ea:Fin 5→Addr}(src:Src K ea)(zb:Nat)(ms:Bool)(h:Hd)(Y:List UInt8×ZEnd)(r:Value)(L:Frags):Prop:=
  ∃GL f1 f2 f3 LZ,UnpV (0,h,Y.1,Y.2.1) r GL∧(∃l,src.At l f1 f2 f3)∧(ms=false→Y.2.1=1→src.At Y.2.2 f1 f2 f3)∧ZOld zb LZ∧L=GL++(f1::f2::f3::LZ)
theorem zRead_spec{K:Known}{ea:Fin 5→Addr}(hs:Sents K ea)(hc:Codes K){src:Src K ea}{zb:Nat}{ms:Bool}{Y:List UInt8×ZEnd}{LZ:Frags}(hZ:ZRd src zb ms Y LZ)(pb po n c:Nat)(cs:List Value)(hn:n=cs.length)(hn0:0<n)(hnc:n≤c)(hnl:n≤4611686018427387904)(G:Frags):
    Fn Tryz.prog K 40 #[.pointer (some ⟨zb,0,none⟩),.slice (some ⟨pb,po,none⟩) (n) (c)] (⟨pb,po,cs⟩::(G++LZ)) fun r L=>∃k er LZ2,r=.tuple #[.int .i64 ((k:Nat):Int),Er.val ea er]∧k≤n∧k≤Y.1.length∧L=⟨pb,po,bytesV (Y.1.take k)++cs.drop k⟩::(G++LZ2)∧
      ((er=.none∧0<k∧ZRd src zb ms (Y.1.drop k,Y.2) LZ2)∨
       (er≠.none∧k=Y.1.length∧kindOf er=Y.2.1∧∃f1 f2 f3 LZ,(∃l,src.At l f1 f2 f3)∧(ms=false→Y.2.1=1→src.At Y.2.2 f1 f2 f3)∧ZOld zb LZ∧LZ2=f1::f2::f3::LZ)):=by
  obtain⟨Dt,gv,c0,c1,c2,c3,c4,c5,bs,fb,DK,hb,hD,hg,hY,rfl⟩:=hZ
  have pm:∀(B a1 a2 a3:Frag) (DK:Frags),(B::(G++([a1,a2,a3]++DK))).Perm (([a1,a2,a3,B]++DK)++G):=fun B a1 a2 a3 DK=>by
    refine(List.Perm.cons B List.perm_append_comm).trans ?_
    refine List.Perm.trans ?_ (List.Perm.append_right G (List.perm_middle (l₁:=[a1,a2,a3]) (l₂:=DK)).symm)
    exact .refl _
  refine Fn.lose (Fn.perm (pm _ _ _ _ DK) (Fn.frame (F:=G) (zRead_walk hs hc src zb ms Y pb po n c cs hn hn0 hnc hnl Dt gv c0 c1 c2 c3 c4 c5 bs fb DK hb hD hg .none U hY))) ?_
  rintro v L⟨L1,⟨L2,J,hS,k,er,rfl,h1,h2,h3⟩,rfl⟩
  have hs2:∀(B:Frag) (LZ:Frags),L2=B::LZ→Same (L1++G) ((B::(G++LZ))++J):=fun B LZ e=>by
    subst e
    have q1:=(Same.perm (List.perm_append_comm (l₁:=L1) (l₂:=G))).trans (Same.appendL G hS)
    refine q1.trans (Same.perm ?_)
    rw[←List.append_assoc]
    exact(List.perm_middle (l₁:=G) (l₂:=LZ)).append_right J
  rcases h3 with⟨rfl,h3,LZ,h4,h5⟩|⟨h3,h4,h5,f1,f2,f3,LZ,h6,h7,h8,h9⟩
  · exact⟨_,J,hs2 _ LZ h5,k,.none,LZ,rfl,h1,h2,rfl,.inl ⟨rfl,h3,h4⟩⟩
  · exact⟨_,J,hs2 _ _ h9,k,er,_,rfl,h1,h2,rfl,.inr ⟨h3,h4,h5,f1,f2,f3,LZ,h6,h7,h8,rfl⟩⟩
theorem zat_rd{K:Known}{ea:Fin 5→Addr}{src:Src K ea}{zb:Nat}{h:Hd}{rest:List UInt8}{f1 f2 f3:Frag}{bs:List Value}{xa:Option Addr}{xn fb:Nat}{DN:Frags}(ms:Bool)(hA:src.At rest f1 f2 f3)(hb:bs.length=512)(hDN:DecNew src fb DN):
    ∃LZ,ZRd src zb ms (gzR ms rest) LZ∧∀G,Same (G++([f1,f2,f3,⟨zb,0,[.string h.comment,.slice xa xn xn,.int .u64 0,.int .i64 (timeV h.mod),.string h.name,.int .u8 ((h.os:Nat):Int),.iface src.t src.v,.iface 190 (.pointer (some ⟨fb,0,none⟩)),.int .u32 ((0:Nat):Int),.int .u32 0]⟩,⟨zb,10,bs⟩,⟨zb,522,[Er.val ea .none,.bool ms]⟩]++DN)) (G++LZ):=by
  refine⟨[⟨zb,0,[.string h.comment,.slice xa xn xn,.int .u64 0,.int .i64 (timeV h.mod),.string h.name,.int .u8 ((h.os:Nat):Int),.iface src.t src.v,.iface 190 (.pointer (some ⟨fb,0,none⟩)),.int .u32 ((0:Nat):Int),.int .u32 0]⟩,⟨zb,10,bs⟩,⟨zb,522,[Er.val ea .none,.bool ms]⟩]++(f1::f2::f3::DN),⟨rest,0,.string h.comment,.slice xa xn xn,.int .u64 0,.int .i64 (timeV h.mod),.string h.name,.int .u8 ((h.os:Nat):Int),bs,fb,f1::f2::f3::DN,hb,hDN.ok hA,Nat.zero_le _,by rw[gzR_eq];rfl,?_⟩,fun G=>Same.appendL G (Same.perm ?_)⟩
  · rw[List.take_zero,crcOn_nil];rfl
  · exact Br (is:=[3,3,3,0,0,0]) (A:=[_,_,_,_,_,_]) (F:=DN) U
theorem lf_out(a1 a2 a3 a4:Frag)(Lf LZ:Frags):([a1,a2,a3,a4]++(Lf++LZ)).Perm (Lf++([a1,a2,a3,a4]++LZ)):=by
  rw[←List.append_assoc,←List.append_assoc]
  exact List.perm_append_comm.append_right LZ
theorem zRead_in3{K:Known}{ea:Fin 5→Addr}(hs:Sents K ea)(hc:Codes K){src:Src K ea}{zb:Nat}{ms:Bool}{Y:List UInt8×ZEnd}{LZ:Frags}(hZ:ZRd src zb ms Y LZ)(pb po n c:Nat)(cs:List Value)(hn:n=cs.length)(hn0:0<n)(hnc:n≤c)(hnl:n≤4611686018427387904)(a1 a2 a3:Frag)(Lf:Frags):
    Fn Tryz.prog K 40 #[.pointer (some ⟨zb,0,none⟩),.slice (some ⟨pb,po,none⟩) (n) (c)] (⟨pb,po,cs⟩::a1::a2::a3::(Lf++LZ)) fun r L=>∃k er LZ2,r=.tuple #[.int .i64 ((k:Nat):Int),Er.val ea er]∧k≤n∧k≤Y.1.length∧L=⟨pb,po,bytesV (Y.1.take k)++cs.drop k⟩::a1::a2::a3::(Lf++LZ2)∧
      ((er=.none∧0<k∧ZRd src zb ms (Y.1.drop k,Y.2) LZ2)∨
       (er≠.none∧k=Y.1.length∧kindOf er=Y.2.1∧∃f1 f2 f3 LZ,(∃l,src.At l f1 f2 f3)∧(ms=false→Y.2.1=1→src.At Y.2.2 f1 f2 f3)∧ZOld zb LZ∧LZ2=f1::f2::f3::LZ)):=by
  have:=zRead_spec hs hc hZ pb po n c cs hn hn0 hnc hnl ([a1,a2,a3]++Lf)
  simpa only[List.append_assoc,List.cons_append,List.nil_append]using this
theorem sl_one{v:Value}{m:Nat}{xs:List Value}{Lf:Frags}(h:Sl 1 v m xs Lf):one v=true:=by
  rcases h.2 with⟨rfl,_⟩|⟨b,o,c,cs,rfl,_⟩<;>rfl
theorem rest_walk{K:Known}{ea:Fin 5→Addr}(hs:Sents K ea)(hc:Codes K)(src:Src K ea)(zb:Nat)(h:Hd)(hm:h.mod<4294967296)(ms:Bool)(rest:List UInt8)(sv:Value)(hsz:SzA K sv)(hlen:(gzR ms rest).1.length≤70368744177664)(f1 f2 f3:Frag)(bs:List Value)(xa:Option Addr)(xn:Nat)(Xf:Frag)(fb:Nat)(DN:Frags)(hA:src.At rest f1 f2 f3)(hbs:bs.length=512)(hX:ExAt h.extra xa xn Xf)(hDN:DecNew src fb DN):Fn Tryz.prog K 24 #[.pointer (some ⟨zb,0,none⟩),sv] ([f1,f2,f3,⟨zb,0,[.string h.comment,.slice xa xn xn,.int .u64 0,.int .i64 (timeV h.mod),.string h.name,.int .u8 ((h.os:Nat):Int),.iface src.t src.v,.iface 190 (.pointer (some ⟨fb,0,none⟩)),.int .u32 ((0:Nat):Int),.int .u32 0]⟩,⟨zb,10,bs⟩,⟨zb,522,[Er.val ea .none,.bool ms]⟩,Xf]++DN) (fun r L=>∃L2 J,Same L (L2++J)∧RestEnd src zb ms h (gzR ms rest) r L2):=by
 refine Fn.intro (args:=[.pointer (some ⟨zb,0,none⟩),sv]) (RR:=RetC 4 8 _) Tryz.func24 rfl rfl Tryz.ntmps24 (resC Tryz.results24 Tryz.isAgg29 Tz29) ?_
 refine Bi (env2:=[(0,.pointer (some ⟨zb,0,none⟩)),(1,sv)]) U<|Cr ?_
 refine Ai (Dq Tryz.zeroValue29) U ?_;rintro _ _⟨b4,rfl,rfl⟩;refine Et9 U ?_
 refine Ax (L2:=[⟨b4,0,[.int .i64 0,.string ⟨#[]⟩,.string ⟨#[]⟩,.slice none 0 0,.int .i64 0,.int .u8 0,.slice none 0 0,.int .i64 0]⟩,f1,f2,f3,⟨zb,0,[.string h.comment,.slice xa xn xn,.int .u64 0,.int .i64 (timeV h.mod),.string h.name,.int .u8 ((h.os:Nat):Int),.iface src.t src.v,.iface 190 (.pointer (some ⟨fb,0,none⟩)),.int .u32 ((0:Nat):Int),.int .u32 0]⟩,⟨zb,10,bs⟩,⟨zb,522,[Er.val ea .none,.bool ms]⟩,Xf]++DN) (by kernel_rfl)<|Ek3 0 1 4 U<|Cr<|Em U U<|Aa (Ad U) U<|Aa (Ab U fa99_0) U<|Ag (De 4 (k:=0) U U U U Ta92 Tz92) U ?_
 refine Ai (OpX.pick [7] (F:=(_::_::_::_::_::_::_::_)) U (Ar U Tryz.call38 (headerOf_spec h hm xa xn Xf hX))) U ?_;rintro _ _⟨_,⟨ev,g,hO,rfl,rfl⟩,rfl⟩;refine Et9 U ?_
 refine Aa (Et (v:=.agg #[.int .i64 0,.string h.name,.string h.comment,ev,.int .i64 ((h.mod:Nat):Int),.int .u8 ((h.os:Nat):Int),.slice none 0 0,.int .i64 0]) [(1,.agg #[.string h.name,.string h.comment,ev,.int .i64 ((h.mod:Nat):Int),.int .u8 ((h.os:Nat):Int)])] U (fun w=>by simp[Instr.build,Instr.fill,Value.cells,Tryz.zeroValue29])) U ?_
 refine Ai (Dq Tryz.zeroValue29) U ?_;rintro _ _⟨b5,rfl,rfl⟩;refine Et10 U ?_
 refine Ao (Bq 0 (k:=0) U U U (by simp only[List.all_cons,List.all_nil,exOut_one hO];rfl) U U Tz29 U) ?_;rintro _ _⟨rfl,rfl⟩;refine Et10 U ?_
 refine Ek4 0 1 4 5 U<|Bx (L2:=[⟨b5,0,[.int .i64 0,.string h.name,.string h.comment,ev,.int .i64 ((h.mod:Nat):Int),.int .u8 ((h.os:Nat):Int),.slice none 0 0,.int .i64 0]⟩,g,⟨b4,0,[.int .i64 0,.string ⟨#[]⟩,.string ⟨#[]⟩,.slice none 0 0,.int .i64 0,.int .u8 0,.slice none 0 0,.int .i64 0]⟩]++([f1,f2,f3,⟨zb,0,[.string h.comment,.slice xa xn xn,.int .u64 0,.int .i64 (timeV h.mod),.string h.name,.int .u8 ((h.os:Nat):Int),.iface src.t src.v,.iface 190 (.pointer (some ⟨fb,0,none⟩)),.int .u32 ((0:Nat):Int),.int .u32 0]⟩,⟨zb,10,bs⟩,⟨zb,522,[Er.val ea .none,.bool ms]⟩]++DN)) U ?_
 obtain⟨LZ0,hZ0,hSm⟩:=zat_rd (zb:=zb) (h:=h) (xa:=xa) (xn:=xn) ms hA hbs hDN
 refine Ga (hSm _)<|Cr<|Ea U U<|Ek5 0 1 4 5 6 U<|As<|Bw (fun mm ee ll=>∃(i:Nat),∃(k:Nat),∃(bv:Value),∃(Lf:Frags),∃(LZ:Frags),keeps ee [0,1,4,5,6]=some [(0,.pointer (some ⟨zb,0,none⟩)),(1,sv),(4,.pointer (some ⟨b4,0,none⟩)),(5,.pointer (some ⟨b5,0,none⟩)),(6,.int .i64 ((i:Nat):Int))]∧ll=[⟨b5,0,[.int .i64 0,.string h.name,.string h.comment,ev,.int .i64 ((h.mod:Nat):Int),.int .u8 ((h.os:Nat):Int),bv,.int .i64 0]⟩,g,⟨b4,0,[.int .i64 0,.string ⟨#[]⟩,.string ⟨#[]⟩,.slice none 0 0,.int .i64 0,.int .u8 0,.slice none 0 0,.int .i64 0]⟩]++(Lf++LZ)∧(ZRd src zb ms ((gzR ms rest).1.drop k,(gzR ms rest).2) LZ)∧(Sl 1 bv ((gzR ms rest).1.take k).length (bytesV ((gzR ms rest).1.take k)) Lf)∧(i≤k)∧(k≤(gzR ms rest).1.length)∧mm=(gzR ms rest).1.length-k) (_) ⟨0,0,.slice none 0 0,[],LZ0,rfl,rfl,hZ0,Sl.nil 1,Nat.le_refl _,Nat.zero_le _,rfl⟩ ?_
 rintro m0 _ _⟨i,k,bv,Lf,LZ,hk0,rfl,hZ,hSl,hik,hkX,hm0⟩
 refine Av _ hk0<|Am<|As<|Cr<|Em U U<|Em U U ?_
 refine Ai (Ar U Tryz.call39 (sizeAt_spec hsz i _)) U ?_;rintro _ _⟨n,hn1,hn2,rfl,rfl⟩;refine Et4 U ?_
 refine Ai (Hx (l:=n) (c:=n) (bytes:=1) Tu25 infoB (z:=.int .u8 0) U U U U U U (Nat.le_refl _) (by omega) (by omega)) U ?_;rintro _ _⟨nb,rfl,rfl⟩;refine Et5 U ?_
 refine Ea U U<|Ek6 0 1 4 5 6 7 U<|Cr<|Em U U<|Em U U ?_
 refine Ai (Ar U Tryz.call40 (zRead_in3 hs hc hZ nb 0 n n (List.replicate n (.int .u8 0)) (by rw[List.length_replicate]) (by omega) (Nat.le_refl _) (by omega) _ _ _ Lf)) U ?_;rintro _ _⟨j,er,LZ2,rfl,hj1,hj2,rfl,hE⟩;refine Et5 U ?_
 refine Em U U<|Aa (Bg U U) U<|Aa (Bg U U) U<|Ea U U<|Ea U U<|Ek8 0 1 4 5 6 7 8 9 U ?_
 have hjl:(((gzR ms rest).1.drop k).take j).length=j:=by rw[List.length_take];exact Nat.min_eq_left hj2
 have hap:(gzR ms rest).1.take (k+j)=(gzR ms rest).1.take k++((gzR ms rest).1.drop k).take j:=List.take_add
 have hjl2:=hjl
 refine Am<|Bt [0,1,0,0,12,18,63,127] (.pure 0 28 (.pure 2 11 (.pure 3 7 (.pure 4 15 (.seg [(1,29)] (.alt 5 (.pure 6 63 (.alt 7 .done .stop)) .stop)))))) mixed (by decide+kernel)<|Ah U (Ab U fa29_2) U<|Dm U U U<|Dm U U U<|Ah U (S.slH U U (by omega) Tu25 Tz5) U<|Fi (v:=.slice (some ⟨nb,0,none⟩) (j) (n)) (Dj (by simp[part]) U U)<|Dc (by decide)<|Au U (Aj 1 (k:=6) U U U Ta25) U<|Da<|By ?_
 refine Bo U (OpX.perm (lf_out _ _ _ _ Lf LZ2) (Jm (ys:=((gzR ms rest).1.drop k).take j) (L:=[_,_,_,_]++LZ2) U U hSl (by rw[hjl]) (.inr ⟨nb,0,rfl,Reads.mem (k:=0) (List.mem_append_right _ (.head _)) (by rw[List.drop_zero];exact List.take_left' rfl)⟩) (by rw[hjl,List.length_take];omega))) U ?_
 rintro bv2 _⟨Lf2,hSl2,rfl⟩
 refine D.same (Same.perm (lf_out _ _ _ _ Lf2 LZ2).symm)<|Dz (L2:=[_,_,_,_]++(Lf2++LZ2)) U ?_
 rw[←hap]at hSl2
 refine Ah U (Ab U fa29_2) U<|By ?_
 refine Di U (Aq 1 (k:=6) U U U (sl_one hSl2) U Tz25) ?_;rintro _ _⟨rfl,rfl⟩;refine Dt5 U ?_
 refine Dk8 0 1 4 5 6 7 8 9 U<|Cr<|Em U U<|Ag (Df U) U<|Ek9 0 1 4 5 6 7 8 9 36 U<|Dn U (fun h36=>?_) (fun h36=>?_)
 ·refine Cr<|Em U U ?_
  refine Ai (OpX.pick [] (F:=(_::_::_::_::_)) U (Ar U Tryz.call23 (kind_spec hs _))) U ?_;rintro _ _⟨_,⟨rfl,rfl⟩,rfl⟩;refine Et5 U ?_
  refine Aa (Ab U fa29_3) U ?_
  refine Ao (Aq 1 (k:=7) U U U U U Tz3) ?_;rintro _ _⟨rfl,rfl⟩;refine Et5 U ?_
  refine Ek9 0 1 4 5 6 7 8 9 36 U<|Cr<|Ag (De 1 (k:=0) U U U U Tryz.isAgg29 Tz29) U ?_
  refine Ao (Bq 3 (k:=0) U U U (by show([.int .i64 0,.string h.name,.string h.comment,ev,.int .i64 ((h.mod:Nat):Int),.int .u8 ((h.os:Nat):Int),bv2,.int .i64 ((kindOf er:Nat):Int)]:List Value).all one=true;simp only[List.all_cons,List.all_nil,exOut_one hO,sl_one hSl2];rfl) U U Tz29 U) ?_;rintro _ _⟨rfl,rfl⟩;refine Et5 U ?_
  refine Ek9 0 1 4 5 6 7 8 9 36 U<|Bb ?_
  obtain⟨hne,hjX,hkd,w1,w2,w3,LZ3,hAt,hms,hOld,rfl⟩:=hE.resolve_left (fun hh=>h36 hh.1)
  have hkj:(gzR ms rest).1.take (k+j)=(gzR ms rest).1:=List.take_of_length_le (by rw[List.length_drop]at hjX;omega)
  rw[hkj]at hSl2
  refine⟨_,⟨_,_,3,rfl,rfl,rfl⟩,(g::Lf2)++(w1::w2::w3::LZ3),_,(Same.perm (Br (is:=[2,0,0,0]) (A:=[_,_,_,_]) (F:=Lf2++(w1::w2::w3::LZ3)) U)).trans (Same.perm ((List.perm_append_comm (l₁:=[_,_,_]) (l₂:=Lf2++(w1::w2::w3::LZ3))).cons _)),g::Lf2,w1,w2,w3,LZ3,⟨ev,bv2,?_,(exOut_rd hO).mono (fun f hf=>by rw[List.mem_singleton.1 hf];exact .head _),(sl_rd hSl2).mono fun f hf=>.tail _ hf⟩,hAt,hms,hOld,rfl⟩
  rw[unV,←hkd];rfl
 obtain⟨_,hj0,hZ2⟩:=hE.resolve_right (fun hh=>hh.1 h36)
 rw[List.drop_drop]at hZ2
 refine C.shed [0] (A:=[_]) (F:=_::_::_::(Lf2++LZ2)) U<|Bx (L2:=[_,_,_]++(Lf2++LZ2)) U<|Ap<|Al<|Em U U<|Aa (Bl (b:=((1:Nat):Int)) U U (N.add64 (by omega))) U<|Ea U U<|Ek9 0 1 4 5 6 7 8 9 36 U ?_
 refine⟨_,?_,i+1,k+j,bv2,Lf2,LZ2,rfl,rfl,hZ2,hSl2,by omega,by rw[List.length_drop]at hj2;omega,rfl⟩;rw[List.length_drop]at hj2;omega
def DB(K:Known)(a:Option Addr)(dt:List UInt8):Prop:=dt=[]∨∃pb po,a=some ⟨pb,po,none⟩∧KB K pb po dt
theorem infoI:Tryz.prog.info? 3=some Tryz.t3:=by kernel_rfl
theorem cellsI_zero(n:Nat):List.replicate n (Value.int .i64 0)=cellsI n (fun _=>0):=by
  symm;unfold cellsI
  rw[List.eq_replicate_iff]
  refine⟨by simp,fun v hv=>?_⟩
  obtain⟨a,_,rfl⟩:=List.mem_map.1 hv
  rfl
theorem cnt17{l:List Nat}{i:Nat}(h:i<l.length)(h0:l[i]≠0):(cellsI 17 (cntL (l.take i))).set (l[i]*1) (.int .i64 ((cntL (l.take i) l[i]+1:Nat):Int))=cellsI 17 (cntL (l.take (i+1))):=
  Hj (by rw[En h,cntL_snoc,if_pos ⟨h0,rfl⟩]) fun o _ hne=>by rw[En h,cntL_snoc,if_neg (fun h=>hne h.2.symm)];rfl
def nextG(lens:List Nat)(l o:Nat):Nat:=if o≤l then firstC lens o else 0
theorem nextG_start(lens:List Nat):cellsI 17 (fun _=>0)=cellsI 17 (nextG lens 1):=Ht fun o _=>by
  unfold nextG
  split
  · rename_i h
    rcases(show o=0∨o=1 by omega)with rfl|rfl
    · rfl
    · simp[firstC,cntL]
  · rfl
theorem nextG_at(lens:List Nat)(l:Nat):nextG lens l l=firstC lens l:=if_pos (Nat.le_refl _)
theorem nextG_set{lens:List Nat}{l:Nat}:(cellsI 17 (nextG lens l)).set ((l+1)*1) (.int .i64 (((nextG lens l l+cntL lens l)<<<1:Nat):Int))=cellsI 17 (nextG lens (l+1)):=
  Hj (by rw[nextG_at,nextG_at,Nat.shiftLeft_eq];show 2*(firstC lens l+cntL lens l)=_;omega) fun o _ hne=>by
    unfold nextG
    by_cases h1:o≤l
    · rw[if_pos h1,if_pos (by omega)]
    · rw[if_neg h1,if_neg (by omega)]
def nextH(lens:List Nat)(k o:Nat):Nat:=if o=0 then 0 else firstC lens o+(lens.take k).count o
theorem nextH_start(lens:List Nat):cellsI 17 (nextG lens 16)=cellsI 17 (nextH lens 0):=Ht fun o ho=>by
  unfold nextG nextH
  rw[if_pos (by omega)]
  split
  · rename_i h;subst h;rfl
  · simp
theorem nextH_zero{lens:List Nat}{k:Nat}(h:k<lens.length)(h0:lens[k]=0):nextH lens (k+1)=nextH lens k:=by
  funext o
  unfold nextH
  split
  · rfl
  · rw[En h,h0,List.count_append,List.count_cons_of_ne (by omega)];simp
theorem nextH_at{lens:List Nat}{k:Nat}(h:k<lens.length)(h0:lens[k]≠0):nextH lens k lens[k]=codeOf lens k:=by
  unfold nextH;rw[if_neg h0,codeOf,Bp h]
theorem nextH_more{lens:List Nat}{k:Nat}(h:k<lens.length)(h0:lens[k]≠0):(cellsI 17 (nextH lens k)).set (lens[k]*1) (.int .i64 ((nextH lens k lens[k]+1:Nat):Int))=cellsI 17 (nextH lens (k+1)):=
  Hj (by unfold nextH;rw[if_neg h0,if_neg h0,En h,List.count_append,List.count_cons_self];simp;omega) fun o _ hne=>by
    unfold nextH
    split
    · rfl
    · rw[En h,List.count_append,List.count_cons_of_ne (fun e=>hne e.symm)];simp
def codesF(lens:List Nat)(k o:Nat):Nat:=if o<k∧0<lenOf lens o then codeOf lens o else 0
theorem codesF_start(lens:List Nat):cellsI lens.length (fun _=>0)=cellsI lens.length (codesF lens 0):=Ht fun o _=>by unfold codesF;rw[if_neg (by omega)]
theorem codesF_zero{lens:List Nat}{k:Nat}(h:k<lens.length)(h0:lens[k]=0):codesF lens (k+1)=codesF lens k:=by
  funext o
  unfold codesF
  by_cases h1:o<k∧0<lenOf lens o
  · rw[if_pos h1,if_pos ⟨by omega,h1.2⟩]
  · rw[if_neg h1,if_neg]
    rintro⟨h2,h3⟩
    rcases Nat.lt_succ_iff_lt_or_eq.1 h2 with h4|h4
    · exact h1 ⟨h4,h3⟩
    · subst h4;rw[Bp h,h0]at h3;omega
theorem codesF_more{lens:List Nat}{k:Nat}(h:k<lens.length)(h0:lens[k]≠0):(cellsI lens.length (codesF lens k)).set (k*1) (.int .i64 ((nextH lens k lens[k]:Nat):Int))=cellsI lens.length (codesF lens (k+1)):=
  Hj (by rw[nextH_at h h0,codesF,if_pos ⟨by omega,by rw[Bp h];omega⟩]) fun o _ hne=>by
    unfold codesF
    by_cases h1:o<k∧0<lenOf lens o
    · rw[if_pos h1,if_pos ⟨by omega,h1.2⟩]
    · rw[if_neg h1,if_neg (fun h2=>h1 ⟨by omega,h2.2⟩)]
set_option maxHeartbeats 1000000
theorem codes_walk{K:Known}(vb vo vc:Nat)(vs:List Value)(lens:List Nat)(h15:∀x∈lens,x≤15)(hlen:lens.length≤320):Fn Tryz.prog K 59 #[.slice (some ⟨vb,vo,none⟩) lens.length vc] ([⟨vb,vo,intsV lens++vs⟩]) (fun r L=>∃L2 J,Same L (L2++J)∧∃ob,r=.slice (some ⟨ob,0,none⟩) lens.length lens.length∧L2=[⟨ob,0,cellsI lens.length (codesF lens lens.length)⟩,⟨vb,vo,intsV lens++vs⟩]):=by
 refine Fn.intro (args:=[.slice (some ⟨vb,vo,none⟩) lens.length vc]) (RR:=Ret1 2 _) Tryz.func59 rfl rfl Tryz.ntmps59 (res1 Tryz.results59) ?_
 refine Bi (env2:=[(0,.slice (some ⟨vb,vo,none⟩) lens.length vc)]) U<|Cr<|Ea U U<|Ek2 0 2 U<|Cr ?_
 refine Ai (Dq Tryz.zeroValue165) U ?_;rintro _ _⟨b3,rfl,rfl⟩;refine Er2 U ?_
 refine Ai (Dq Tryz.zeroValue165) U ?_;rintro _ _⟨b4,rfl,rfl⟩;refine Er3 U ?_
 refine Ax (L2:=[⟨b4,0,cellsI 17 (fun _=>0)⟩,⟨b3,0,cellsI 17 (fun _=>0)⟩,⟨vb,vo,intsV lens++vs⟩]) (rfl)<|Ek4 0 2 3 4 U<|Am<|Cr<|Em U U<|Aa (Bc U Tu23) U<|Em U U<|Ek7 0 2 3 4 11 12 13 U<|As ?_
 have hcz:cellsI 17 (cntL (lens.take 0))=cellsI 17 (fun _=>0):=Ht fun o _=>by simp[cntL]
 rw[←hcz]
 refine Bw (fun mm ee ll=>∃(i:Nat),keeps ee [0,3,4,11,12,13]=some [(0,.slice (some ⟨vb,vo,none⟩) lens.length vc),(3,.pointer (some ⟨b3,0,none⟩)),(4,.pointer (some ⟨b4,0,none⟩)),(11,.slice (some ⟨vb,vo,none⟩) lens.length vc),(12,.int .i64 ((lens.length:Nat):Int)),(13,.int .i64 ((i:Nat):Int))]∧ll=[⟨b4,0,cellsI 17 (fun _=>0)⟩,⟨b3,0,cellsI 17 (cntL (lens.take i))⟩,⟨vb,vo,intsV lens++vs⟩]∧(i≤lens.length)∧mm=lens.length-i) (_) ⟨0,rfl,rfl,by omega,rfl⟩ ?_
 rintro m0 _ _⟨i,hk0,rfl,hi,hm0⟩
 refine Av _ hk0<|Cr<|Aa (Dl U U) U<|Ek7 0 3 4 11 12 13 14 U<|Am<|Bf U (fun h14=>?_) (fun h14=>?_)
 ·have hi2:i<lens.length:=by omega
  have hx:=h15 _ (List.getElem_mem hi2)
  have hcl:=cntL_le (lens.take i) lens[i]
  rw[List.length_take]at hcl
  refine Ap<|Du (M:=fun ee ll=>keeps ee [0,3,4,11,12,13]=some [(0,.slice (some ⟨vb,vo,none⟩) lens.length vc),(3,.pointer (some ⟨b3,0,none⟩)),(4,.pointer (some ⟨b4,0,none⟩)),(11,.slice (some ⟨vb,vo,none⟩) lens.length vc),(12,.int .i64 ((lens.length:Nat):Int)),(13,.int .i64 ((i:Nat):Int))]∧ll=[⟨b4,0,cellsI 17 (fun _=>0)⟩,⟨b3,0,cellsI 17 (cntL (lens.take (i+1)))⟩,⟨vb,vo,intsV lens++vs⟩]) ?_ ?_
  ·refine As<|Cr<|Aa (Bm U U (by omega) Tu23 Tz3) U<|Ag (Aj 2 (k:=i*1) U U (Ej hi2) Ta3) U<|Ea U U<|Ek8 0 3 4 6 11 12 13 14 U<|Cr<|Em U U<|Aa (Fh (b:=((0:Nat):Int)) U U) U<|Ek9 0 3 4 6 11 12 13 14 18 U<|Bf U (fun h18=>?_) (fun h18=>?_)
   ·refine Al<|Em U U<|Aa (Bj U U (by omega) Tu165 Tz3) U<|Ag (Aj 1 (k:=lens[i]*1) U U (Ec (by omega)) Ta3) U<|Aa (Bl (b:=((1:Nat):Int)) U U (N.add64 (by omega))) U<|Aa (Bj U U (by omega) Tu165 Tz3) U ?_
    refine Ao (Aq 1 (k:=lens[i]*1) U U U U (by rw[Nat.blt_eq,Dk];omega) Tz3) ?_
    rintro _ _⟨rfl,rfl⟩
    refine Ax (L2:=[⟨b4,0,cellsI 17 (fun _=>0)⟩,⟨b3,0,cellsI 17 (cntL (lens.take (i+1)))⟩,⟨vb,vo,intsV lens++vs⟩]) (congrArg (fun q=>([⟨b4,0,cellsI 17 (fun _=>0)⟩,(⟨b3,0,q⟩:Frag),⟨vb,vo,intsV lens++vs⟩]:Frags)) (cnt17 hi2 (by omega)))<|Ek9 0 3 4 6 11 12 13 14 18 U ?_
    exact⟨rfl,rfl⟩
   refine Ap ?_
   exact⟨rfl,by rw[cntL_zero hi2 (by omega)]⟩
  rintro _ _⟨hq7,rfl⟩
  refine Av _ hq7<|Al<|Aa (Bl (b:=((1:Nat):Int)) U U (N.add64 (by omega))) U<|Em U U<|Ek6 0 3 4 11 12 13 U ?_
  refine⟨_,?_,i+1,rfl,rfl,by omega,rfl⟩;omega
 have hi2:i=lens.length:=by omega
 subst hi2
 rw[List.take_length]
 refine Bu U<|Am<|Cr<|Ea U U<|Ek8 0 3 4 7 11 12 13 14 U<|As ?_
 rw[nextG_start lens]
 refine Bw (fun mm ee ll=>∃(l:Nat),keeps ee [0,3,4,7]=some [(0,.slice (some ⟨vb,vo,none⟩) lens.length vc),(3,.pointer (some ⟨b3,0,none⟩)),(4,.pointer (some ⟨b4,0,none⟩)),(7,.int .i64 ((l:Nat):Int))]∧ll=[⟨b4,0,cellsI 17 (nextG lens l)⟩,⟨b3,0,cellsI 17 (cntL lens)⟩,⟨vb,vo,intsV lens++vs⟩]∧(1≤l)∧(l≤16)∧mm=16-l) (_) ⟨1,rfl,rfl,by omega,by omega,rfl⟩ ?_
 rintro m1 _ _⟨l,hk1,rfl,hl1,hl16,hm1⟩
 refine Av _ hk1<|Am<|Cr<|Em U U<|Aa (S.le (b:=((15:Nat):Int)) U U) U<|Ek5 0 3 4 7 26 U<|Bf U (fun h26=>?_) (fun h26=>?_)
 ·have hl15:l≤15:=by omega
  have hfl:=first_le hlen hl15
  have hng:=nextG_at lens l
  refine Ap<|Am<|As<|Bt [0,1,0,4,8,0,32,64,144,256,1023,2047] (.pure 0 1020 (.pure 1 1021 (.pure 2 227 (.pure 3 231 (.pure 5 31 (.pure 6 63 (.seg [(4,239),(7,127),(8,255),(9,511),(10,1023)] (.alt 11 .done .stop)))))))) mixed (by decide+kernel)<|Dm U U U<|Ah U (Bl (b:=((1:Nat):Int)) U U (N.add64 (by omega))) U<|Dm U U U<|Ah U (Bj U U (by omega) Tu165 Tz3) U<|Dm U U U<|Ah U (Bj U U (by omega) Tu165 Tz3) U<|Dc (by decide)<|Au U (Aj 0 (k:=l*1) U U (Ec (by omega)) Ta3) U ?_
  refine Au U (Aj 1 (k:=l*1) U U (Ec (by omega)) Ta3) U<|Ba U (Bl U U (N.add64 (by omega))) U ?_
  refine Ba U (Fy (b:=((1:Nat):Int)) U U (by omega) (N.shl64 (by rw[Nat.shiftLeft_eq];omega))) U ?_
  refine Ba U (Bj U U (by omega) Tu165 Tz3) U<|Da<|By ?_
  refine Di U (Aq 0 (k:=(l+1)*1) U U U U (by rw[Nat.blt_eq,Dk];omega) Tz3) ?_
  rintro _ _⟨rfl,rfl⟩
  refine Dz (L2:=[⟨b4,0,cellsI 17 (nextG lens (l+1))⟩,⟨b3,0,cellsI 17 (cntL lens)⟩,⟨vb,vo,intsV lens++vs⟩]) (congrArg (fun q=>([(⟨b4,0,q⟩:Frag),⟨b3,0,cellsI 17 (cntL lens)⟩,⟨vb,vo,intsV lens++vs⟩]:Frags)) (nextG_set))<|Dk5 0 3 4 7 26 U<|Al<|Em U U<|Aa (Bl (b:=((1:Nat):Int)) U U (N.add64 (by omega))) U<|Ea U U<|Ek5 0 3 4 7 26 U ?_
  refine⟨_,?_,l+1,rfl,rfl,by omega,by omega,rfl⟩;omega
 have hl16b:l=16:=by omega
 subst hl16b
 refine Bu U<|Cr<|Em U U<|Aa (Bc U Tu23) U ?_
 refine Ai (Hx (l:=lens.length) (c:=lens.length) (bytes:=8) Tu23 infoI (z:=.int .i64 0) U U U U U U (Nat.le_refl _) (by omega) (by omega)) U ?_;rintro _ _⟨ob,rfl,rfl⟩;refine Er4 U ?_
 refine Ax (L2:=[⟨ob,0,cellsI lens.length (fun _=>0)⟩,_,_,_]) (by rw[cellsI_zero])<|Ea U U<|Ek6 0 3 4 7 8 26 U<|Am<|Cr<|Em U U<|Aa (Bc U Tu23) U<|Em U U<|Ek9 0 3 4 7 8 26 43 44 45 U<|As ?_
 rw[codesF_start lens,nextH_start lens]
 refine Bw (fun mm ee ll=>∃(k:Nat),keeps ee [4,8,43,44,45]=some [(4,.pointer (some ⟨b4,0,none⟩)),(8,.slice (some ⟨ob,0,none⟩) lens.length lens.length),(43,.slice (some ⟨vb,vo,none⟩) lens.length vc),(44,.int .i64 ((lens.length:Nat):Int)),(45,.int .i64 ((k:Nat):Int))]∧ll=[⟨ob,0,cellsI lens.length (codesF lens k)⟩,⟨b4,0,cellsI 17 (nextH lens k)⟩,⟨b3,0,cellsI 17 (cntL lens)⟩,⟨vb,vo,intsV lens++vs⟩]∧(k≤lens.length)∧mm=lens.length-k) (_) ⟨0,rfl,rfl,by omega,rfl⟩ ?_
 rintro m2 _ _⟨k,hk2,rfl,hk,hm2⟩
 refine Av _ hk2<|Cr<|Aa (Dl U U) U<|Ek6 4 8 43 44 45 46 U<|Am<|Bf U (fun h46=>?_) (fun h46=>?_)
 ·have hk2:k<lens.length:=by omega
  have hx:=h15 _ (List.getElem_mem hk2)
  have hfl:=first_le hlen hx
  have hcl:(lens.take k).count lens[k]≤k:=Nat.le_trans List.count_le_length (by rw[List.length_take];omega)
  have hnh:nextH lens k lens[k]≤firstC lens lens[k]+k:=by unfold nextH;split<;>omega
  refine Ap<|Du (M:=fun ee ll=>keeps ee [4,8,43,44,45]=some [(4,.pointer (some ⟨b4,0,none⟩)),(8,.slice (some ⟨ob,0,none⟩) lens.length lens.length),(43,.slice (some ⟨vb,vo,none⟩) lens.length vc),(44,.int .i64 ((lens.length:Nat):Int)),(45,.int .i64 ((k:Nat):Int))]∧ll=[⟨ob,0,cellsI lens.length (codesF lens (k+1))⟩,⟨b4,0,cellsI 17 (nextH lens (k+1))⟩,⟨b3,0,cellsI 17 (cntL lens)⟩,⟨vb,vo,intsV lens++vs⟩]) ?_ ?_
  ·refine As<|Cr<|Em U U<|Aa (Bm U U (by omega) Tu23 Tz3) U<|Ag (Aj 3 (k:=k*1) U U (Ej hk2) Ta3) U<|Ea U U<|Ea U U<|Ek8 4 8 9 10 43 44 45 46 U<|Cr<|Em U U<|Aa (Fh (b:=((0:Nat):Int)) U U) U<|Ek9 4 8 9 10 43 44 45 46 51 U ?_
   refine Bf U (fun h51=>?_) (fun h51=>?_)
   ·refine Cr<|Em U U<|Em U U<|Em U U<|Aa (Bj U U (by omega) Tu165 Tz3) U<|Ag (Aj 1 (k:=lens[k]*1) U U (Ec (by omega)) Ta3) U<|Aa (Bm U U (by omega) Tu23 Tz3) U ?_
    refine Ao (Aq 0 (k:=k*1) U U U U (by rw[Nat.blt_eq,Dk];omega) Tz3) ?_
    rintro _ _⟨rfl,rfl⟩
    refine Ax (L2:=[⟨ob,0,cellsI lens.length (codesF lens (k+1))⟩,⟨b4,0,cellsI 17 (nextH lens k)⟩,⟨b3,0,cellsI 17 (cntL lens)⟩,⟨vb,vo,intsV lens++vs⟩]) (congrArg (fun q=>([(⟨ob,0,q⟩:Frag),⟨b4,0,cellsI 17 (nextH lens k)⟩,⟨b3,0,cellsI 17 (cntL lens)⟩,⟨vb,vo,intsV lens++vs⟩]:Frags)) (codesF_more hk2 (by omega)))<|Ek9 4 8 9 10 43 44 45 46 51 U<|Al<|Em U U<|Aa (Bj U U (by omega) Tu165 Tz3) U<|Ag (Aj 1 (k:=lens[k]*1) U U (Ec (by omega)) Ta3) U<|Aa (Bl (b:=((1:Nat):Int)) U U (N.add64 (by omega))) U<|Aa (Bj U U (by omega) Tu165 Tz3) U ?_
    refine Ao (Aq 1 (k:=lens[k]*1) U U U U (by rw[Nat.blt_eq,Dk];omega) Tz3) ?_
    rintro _ _⟨rfl,rfl⟩
    refine Ax (L2:=[⟨ob,0,cellsI lens.length (codesF lens (k+1))⟩,⟨b4,0,cellsI 17 (nextH lens (k+1))⟩,⟨b3,0,cellsI 17 (cntL lens)⟩,⟨vb,vo,intsV lens++vs⟩]) (congrArg (fun q=>([⟨ob,0,cellsI lens.length (codesF lens (k+1))⟩,(⟨b4,0,q⟩:Frag),⟨b3,0,cellsI 17 (cntL lens)⟩,⟨vb,vo,intsV lens++vs⟩]:Frags)) (nextH_more hk2 (by omega)))<|Ek9 4 8 9 10 43 44 45 46 51 U ?_
    exact⟨rfl,rfl⟩
   refine Ap ?_
   exact⟨rfl,by rw[codesF_zero hk2 (by omega),nextH_zero hk2 (by omega)]⟩
  rintro _ _⟨hq19,rfl⟩
  refine Av _ hq19<|Al<|Aa (Bl (b:=((1:Nat):Int)) U U (N.add64 (by omega))) U<|Em U U<|Ek5 4 8 43 44 45 U ?_
  refine⟨_,?_,k+1,rfl,rfl,by omega,rfl⟩;omega
 have hk2:k=lens.length:=by omega
 subst hk2
 refine Bu U<|Cr<|Em U U<|Ea U U<|Ek7 2 4 8 43 44 45 46 U<|Bb ?_
 exact⟨_,rfl,_,[_,_],Same.perm (Br (A:=[_,_]) (F:=[_,_]) (is:=[0,2]) U),_,rfl,rfl⟩
theorem codes_spec{K:Known}(vb vo vc:Nat)(vs:List Value)(lens:List Nat)(h15:∀x∈lens,x≤15)(hlen:lens.length≤320):Fn Tryz.prog K 59 #[.slice (some ⟨vb,vo,none⟩) lens.length vc] [⟨vb,vo,intsV lens++vs⟩] fun r L=>∃ob,r=.slice (some ⟨ob,0,none⟩) lens.length lens.length∧L=[⟨ob,0,cellsI lens.length (codesF lens lens.length)⟩,⟨vb,vo,intsV lens++vs⟩]:=by
  refine Fn.lose (codes_walk vb vo vc vs lens h15 hlen) ?_
  rintro r L⟨L2,J,hS,h⟩
  exact⟨L2,J,hS,h⟩
theorem one_intsV(l:List Nat):(intsV l).all one=true:=by
  rw[List.all_eq_true];intro v hv
  obtain⟨o,_,rfl⟩:=List.mem_map.1 hv;rfl
theorem intsV_append(a b:List Nat):intsV (a++b)=intsV a++intsV b:=by simp[intsV]
theorem app_perm{Lf F0:Frags}{y:Frag}:(Lf++(y::F0)).Perm ((F0++Lf)++[y]):=by
  refine List.perm_middle.trans ?_
  refine(List.Perm.cons y List.perm_append_comm).trans ?_
  exact(List.perm_append_singleton y _).symm
section
variable {K:Known}{n:Nat}{env:Env}{L:Frags}{ty:TypeId}
theorem Fu{x y:Operand}{v:Value}{k yc:Nat}{ya:Option Addr}{xs ys:List Nat}{Lf:Frags}
    (hx:ev? env x=some v)(hy:ev? env y=some (.slice ya k yc))(hsl:Sl 1 v xs.length (intsV xs) Lf)(hk:k=ys.length)
    (hread:ys=[]∨∃yb yo,ya=some ⟨yb,yo,none⟩∧Reads K (Lf++L) yb yo (intsV ys))(hb:xs.length+ys.length≤1099511627776):
    OpX Tryz.prog K n (.call {callee:=.builtin .append,args:=#[x,y],argTypes:=#[23,23]}) ty env (Lf++L) fun v' L'=>
      ∃Lf',Sl 1 v' (xs++ys).length (intsV (xs++ys)) Lf'∧L'=Lf'++L:=by
  subst hk
  have h:=Hm (P:=Tryz.prog) (n:=n) (ty:=ty) (L:=L) (s:=1) (bytes:=8) (t:=23) Tu23 infoI (z:=.int .i64 0) rfl rfl rfl rfl (by decide) hx hy hsl (by rw[Db,Nat.mul_one])
    (hread.imp (fun e=>by rw[e];rfl) id) (one_intsV ys) (by omega) (by omega)
  refine OpX.mono h fun v' L'=>?_
  rintro⟨Lf',h1,h2⟩
  exact⟨Lf',by rw[List.length_append,intsV_append];exact h1,h2⟩
end
theorem Sl.ints{v:Value}{xs:List Nat}{Lf:Frags}(h:Sl 1 v xs.length (intsV xs) Lf)(hm:0<xs.length):∃b o c cs,v=.slice (some ⟨b,o,none⟩) xs.length c∧Lf=[⟨b,o,intsV xs++cs⟩]∧xs.length≤c∧c≤9223372036854775807:=by
  obtain⟨b,o,c,cs,rfl,rfl,h1,h2,h3,h4⟩:=h.one hm
  rw[Nat.mul_one]at h4
  exact⟨b,o,c,cs.drop xs.length,rfl,by rw[←h4,List.take_append_drop],h2,h3⟩
theorem snoc_of{l:List Nat}{i x:Nat}(h:l[i]? =some x):l.take (i+1)=l.take i++[x]:=by rw[List.take_add_one,h];rfl
theorem fix_at:∀i,i<288→fixLit[i]? =some (if i<144 then 8 else if i<256 then 9 else if i<280 then 7 else 8):=by decide+kernel
theorem fixd_at:∀i,i<32→Ex[i]? =some 5:=by decide
theorem fixed_spec{K:Known}:Fn Tryz.prog K 42 #[] ([]) (fun r L=>∃lb lo lc ls db do_ dc ds,r=.tuple #[.slice (some ⟨lb,lo,none⟩) fixLit.length lc,.slice (some ⟨db,do_,none⟩) Ex.length dc]∧L=[⟨lb,lo,intsV fixLit++ls⟩,⟨db,do_,intsV Ex++ds⟩]):=by
 refine Fn.intro (args:=[]) (RR:=Ret2 0 1 _) Tryz.func42 rfl rfl Tryz.ntmps42 (res2 Tryz.results42) ?_
 refine Bi (env2:=[]) U<|Cr<|Ea U U<|Ea U U<|Ek2 0 1 U<|Am<|Cr<|Em U U<|Ek3 0 1 3 U<|As<|Bw (fun mm ee ll=>∃(i:Nat),∃(v:Value),∃(Lf:Frags),keeps ee [0,1,3]=some [(0,v),(1,.slice none 0 0),(3,.int .i64 ((i:Nat):Int))]∧ll=Lf∧(i≤288)∧(Sl 1 v (fixLit.take i).length (intsV (fixLit.take i)) Lf)∧mm=288-i) (_) ⟨0,_,[],rfl,rfl,by omega,Sl.nil 1,rfl⟩ ?_
 rintro m0 _ Lf⟨i,v,_,hk0,rfl,hi,hsl,hm0⟩
 refine Av _ hk0<|Cr<|Aa (Dl (b:=((288:Nat):Int)) U U) U<|Ek4 0 1 3 4 U<|Am<|Bf U (fun h4=>?_) (fun h4=>?_)
 ·have hi2:i<288:=by omega
  refine Ap<|Du (M:=fun ee ll=>∃(v2:Value),∃(Lf2:Frags),keeps ee [0,1,3]=some [(0,v2),(1,.slice none 0 0),(3,.int .i64 ((i:Nat):Int))]∧ll=Lf2∧(Sl 1 v2 (fixLit.take (i+1)).length (intsV (fixLit.take (i+1))) Lf2)) ?_ ?_
  ·refine As<|Cr<|Em U U<|Ea U U<|Ek5 0 1 2 3 4 U<|As<|Cr<|Em U U<|Aa (Dl (b:=((144:Nat):Int)) U U) U<|Ea U U<|Ek6 0 1 2 3 4 9 U<|Bf U (fun h9=>?_) (fun h9=>?_)
   ·refine Al<|Em U U ?_
    refine Ai (Bn (vs:=[.int .i64 ((8:Nat):Int)]) (e:=3) [(0,.int .i64 ((8:Nat):Int))] U (fun w=>by simp[Instr.buildSlice,Instr.fill,Value.cells,newRow,Tryz.runUnderlying23,Tryz.typeInfo3];rw[arr1])) U ?_
    rintro _ _⟨yb,rfl,rfl⟩
    refine Ax (L2:=[⟨yb,0,_⟩]++Lf) U<|Ev (Same.perm List.perm_append_comm) ?_
    refine Ai (Fu (L:=[⟨yb,0,_⟩]) (xs:=fixLit.take i) (ys:=[8]) (Lf:=Lf) U U hsl U (.inr ⟨yb,0,rfl,Reads.mem (k:=0) (List.mem_append_right _ (.head _)) U⟩) (by simp only[List.length_take,List.length_cons,List.length_nil];omega)) U ?_
    rintro v2 _⟨Lf2,hsl2,rfl⟩
    refine Gk (A:=[]++Lf2) (F:=[_]) (Same.perm app_perm)<|Ax (L2:=Lf2) U ?_
    rw[←snoc_of (x:=8) (by rw[fix_at i hi2];first|rw[if_pos (by omega)]|rw[if_neg (by omega),if_pos (by omega)]|rw[if_neg (by omega),if_neg (by omega),if_pos (by omega)]|rw[if_neg (by omega),if_neg (by omega),if_neg (by omega)])]at hsl2
    refine Ea U U<|Ek6 0 1 2 3 4 9 U ?_
    exact⟨_,_,rfl,rfl,hsl2⟩
   refine Cr<|Em U U<|Aa (Dl (b:=((256:Nat):Int)) U U) U<|Ea U U<|Ek7 0 1 2 3 4 9 15 U<|Bf U (fun h15=>?_) (fun h15=>?_)
   ·refine Al<|Em U U ?_
    refine Ai (Bn (vs:=[.int .i64 ((9:Nat):Int)]) (e:=3) [(0,.int .i64 ((9:Nat):Int))] U (fun w=>by simp[Instr.buildSlice,Instr.fill,Value.cells,newRow,Tryz.runUnderlying23,Tryz.typeInfo3];rw[arr1])) U ?_
    rintro _ _⟨yb,rfl,rfl⟩
    refine Ax (L2:=[⟨yb,0,_⟩]++Lf) U<|Ev (Same.perm List.perm_append_comm) ?_
    refine Ai (Fu (L:=[⟨yb,0,_⟩]) (xs:=fixLit.take i) (ys:=[9]) (Lf:=Lf) U U hsl U (.inr ⟨yb,0,rfl,Reads.mem (k:=0) (List.mem_append_right _ (.head _)) U⟩) (by simp only[List.length_take,List.length_cons,List.length_nil];omega)) U ?_
    rintro v2 _⟨Lf2,hsl2,rfl⟩
    refine Gk (A:=[]++Lf2) (F:=[_]) (Same.perm app_perm)<|Ax (L2:=Lf2) U ?_
    rw[←snoc_of (x:=9) (by rw[fix_at i hi2];first|rw[if_pos (by omega)]|rw[if_neg (by omega),if_pos (by omega)]|rw[if_neg (by omega),if_neg (by omega),if_pos (by omega)]|rw[if_neg (by omega),if_neg (by omega),if_neg (by omega)])]at hsl2
    refine Ea U U<|Ek7 0 1 2 3 4 9 15 U ?_
    exact⟨_,_,rfl,rfl,hsl2⟩
   refine Cr<|Em U U<|Aa (Dl (b:=((280:Nat):Int)) U U) U<|Ea U U<|Ek8 0 1 2 3 4 9 15 21 U<|Bf U (fun h21=>?_) (fun h21=>?_)
   ·refine Al<|Em U U ?_
    refine Ai (Bn (vs:=[.int .i64 ((7:Nat):Int)]) (e:=3) [(0,.int .i64 ((7:Nat):Int))] U (fun w=>by simp[Instr.buildSlice,Instr.fill,Value.cells,newRow,Tryz.runUnderlying23,Tryz.typeInfo3];rw[arr1])) U ?_
    rintro _ _⟨yb,rfl,rfl⟩
    refine Ax (L2:=[⟨yb,0,_⟩]++Lf) U<|Ev (Same.perm List.perm_append_comm) ?_
    refine Ai (Fu (L:=[⟨yb,0,_⟩]) (xs:=fixLit.take i) (ys:=[7]) (Lf:=Lf) U U hsl U (.inr ⟨yb,0,rfl,Reads.mem (k:=0) (List.mem_append_right _ (.head _)) U⟩) (by simp only[List.length_take,List.length_cons,List.length_nil];omega)) U ?_
    rintro v2 _⟨Lf2,hsl2,rfl⟩
    refine Gk (A:=[]++Lf2) (F:=[_]) (Same.perm app_perm)<|Ax (L2:=Lf2) U ?_
    rw[←snoc_of (x:=7) (by rw[fix_at i hi2];first|rw[if_pos (by omega)]|rw[if_neg (by omega),if_pos (by omega)]|rw[if_neg (by omega),if_neg (by omega),if_pos (by omega)]|rw[if_neg (by omega),if_neg (by omega),if_neg (by omega)])]at hsl2
    refine Ea U U<|Ek8 0 1 2 3 4 9 15 21 U ?_
    exact⟨_,_,rfl,rfl,hsl2⟩
   refine Al<|Em U U ?_
   refine Ai (Bn (vs:=[.int .i64 ((8:Nat):Int)]) (e:=3) [(0,.int .i64 ((8:Nat):Int))] U (fun w=>by simp[Instr.buildSlice,Instr.fill,Value.cells,newRow,Tryz.runUnderlying23,Tryz.typeInfo3];rw[arr1])) U ?_
   rintro _ _⟨yb,rfl,rfl⟩
   refine Ax (L2:=[⟨yb,0,_⟩]++Lf) U<|Ev (Same.perm List.perm_append_comm) ?_
   refine Ai (Fu (L:=[⟨yb,0,_⟩]) (xs:=fixLit.take i) (ys:=[8]) (Lf:=Lf) U U hsl U (.inr ⟨yb,0,rfl,Reads.mem (k:=0) (List.mem_append_right _ (.head _)) U⟩) (by simp only[List.length_take,List.length_cons,List.length_nil];omega)) U ?_
   rintro v2 _⟨Lf2,hsl2,rfl⟩
   refine Gk (A:=[]++Lf2) (F:=[_]) (Same.perm app_perm)<|Ax (L2:=Lf2) U ?_
   rw[←snoc_of (x:=8) (by rw[fix_at i hi2];first|rw[if_pos (by omega)]|rw[if_neg (by omega),if_pos (by omega)]|rw[if_neg (by omega),if_neg (by omega),if_pos (by omega)]|rw[if_neg (by omega),if_neg (by omega),if_neg (by omega)])]at hsl2
   refine Ea U U<|Ek8 0 1 2 3 4 9 15 21 U ?_
   exact⟨_,_,rfl,rfl,hsl2⟩
  rintro _ Lf2⟨v2,_,hq11,rfl,hsl2⟩
  refine Av _ hq11<|Al<|Aa (Bl (b:=((1:Nat):Int)) U U (N.add64 (by omega))) U<|Em U U<|Ek3 0 1 3 U ?_
  refine⟨_,?_,i+1,_,_,rfl,rfl,by omega,hsl2,rfl⟩;omega
 have hi2:i=288:=by omega
 subst hi2
 rw[show fixLit.take 288=fixLit from rfl]at hsl
 obtain⟨lb,lo,lc,ls,rfl,rfl,hlc,hlc2⟩:=hsl.ints (by decide)
 refine Bx (L2:=[⟨lb,lo,intsV fixLit++ls⟩]) U<|Bu U<|Am<|Cr<|Em U U<|Ek5 0 1 3 4 28 U<|As<|Bw (fun mm ee ll=>∃(j:Nat),∃(v:Value),∃(Lf:Frags),keeps ee [0,1,28]=some [(0,.slice (some ⟨lb,lo,none⟩) fixLit.length lc),(1,v),(28,.int .i64 ((j:Nat):Int))]∧ll=[⟨lb,lo,intsV fixLit++ls⟩]++Lf∧(j≤32)∧(Sl 1 v (Ex.take j).length (intsV (Ex.take j)) Lf)∧mm=32-j) (_) ⟨0,_,[],rfl,rfl,by omega,Sl.nil 1,rfl⟩ ?_
 rintro m1 _ _⟨j,v,Lf,hk1,rfl,hj,hsl,hm1⟩
 refine Av _ hk1<|Cr<|Aa (Dl (b:=((32:Nat):Int)) U U) U<|Ek4 0 1 28 29 U<|Am<|Bf U (fun h29=>?_) (fun h29=>?_)
 ·have hj2:j<32:=by omega
  refine Ap<|Am<|As<|Al<|Em U U ?_
  refine Ai (Bn (vs:=[.int .i64 ((5:Nat):Int)]) (e:=3) [(0,.int .i64 ((5:Nat):Int))] U (fun w=>by simp[Instr.buildSlice,Instr.fill,Value.cells,newRow,Tryz.runUnderlying23,Tryz.typeInfo3];rw[arr1])) U ?_
  rintro _ _⟨yb,rfl,rfl⟩
  refine Ax (L2:=[⟨yb,0,_⟩,_]++Lf) U<|Ev (Same.perm List.perm_append_comm) ?_
  refine Ai (Fu (L:=[⟨yb,0,_⟩,_]) (xs:=Ex.take j) (ys:=[5]) (Lf:=Lf) U U hsl U (.inr ⟨yb,0,rfl,Reads.mem (k:=0) (List.mem_append_right _ (.head _)) U⟩) (by simp only[List.length_take,List.length_cons,List.length_nil];omega)) U ?_
  rintro v2 _⟨Lf2,hsl2,rfl⟩
  refine Gk (A:=[_]++Lf2) (F:=[_]) (Same.perm app_perm)<|Ax (L2:=_::Lf2) U ?_
  rw[←snoc_of (fixd_at j hj2)]at hsl2
  refine Ea U U<|Ek4 0 1 28 29 U<|Al<|Aa (Bl (b:=((1:Nat):Int)) U U (N.add64 (by omega))) U<|Em U U<|Ek4 0 1 28 29 U ?_
  refine⟨_,?_,j+1,_,_,rfl,rfl,by omega,hsl2,rfl⟩;omega
 have hj2:j=32:=by omega
 subst hj2
 rw[show Ex.take 32=Ex from rfl]at hsl
 obtain⟨db,do_,dc,ds,rfl,rfl,hdc,hdc2⟩:=hsl.ints (by decide)
 refine Bu U<|Cr<|Em U U<|Em U U<|Ea U U<|Ea U U<|Ek4 0 1 28 29 U<|Bb ?_
 exact⟨_,_,rfl,rfl,lb,lo,lc,ls,db,do_,dc,ds,rfl,rfl⟩
set_option maxHeartbeats 1000000
theorem Codes.mono{K K':Known}(h:∀b o,K b=some o→K' b=some o)(c:Codes K):Codes K':=⟨fun i hi=>Jl h (c.cell i hi)⟩
def BA(K:Known)(v:Value)(l:List UInt8):Prop:=(v=.slice none 0 0∧l=[])∨(∃a c,v=.slice (some a) 0 c∧l=[])∨∃pb po cap,v=.slice (some ⟨pb,po,none⟩) l.length cap∧l.length≤cap∧KB K pb po l
theorem BA.sl{K:Known}{v:Value}{l:List UInt8}(h:BA K v l):∃a c,v=.slice a l.length c:=by
  rcases h with⟨rfl,rfl⟩|⟨a,c,rfl,rfl⟩|⟨pb,po,cap,rfl,_⟩
  · exact⟨_,_,rfl⟩
  · exact⟨_,_,rfl⟩
  · exact⟨_,_,rfl⟩
def CloneG(data:List UInt8)(a:Option Addr)(c:Nat)(L:Frags):Prop:=data.length≤c∧((data=[]∧L=[])∨∃db o cs,a=some ⟨db,o,none⟩∧L=[⟨db,o,bytesV data++cs⟩])
theorem clone_big{K:Known}{v:Value}{data:List UInt8}(hv:BA K v data)(hl:data.length≤70368744177664)(G:Frags):Fn Tryz.prog K 22 #[v] G fun r L=>∃a c GL,r=.slice a data.length c∧CloneG data a c GL∧L=G++GL:=by
  have key:Fn Tryz.prog K 22 #[v] [] fun r L=>∃a c,r=.slice a data.length c∧CloneG data a c L:=by
    have ow:∀{r:Value} {L:Frags},(∃g,Own data r g∧L=[g])→∃a c,r=.slice a data.length c∧CloneG data a c L:=by
      rintro r L⟨g,⟨b,o,c,cs,rfl,rfl,h⟩,rfl⟩
      exact⟨_,_,rfl,h,.inr ⟨b,o,cs,rfl,rfl⟩⟩
    rcases hv with⟨rfl,rfl⟩|⟨a,c,rfl,rfl⟩|⟨pb,po,cap,rfl,hc,hp⟩
    · exact Fn.mono clone_nil fun r L h=>⟨none,0,h.1,Nat.le_refl _,.inl ⟨rfl,h.2⟩⟩
    · exact Fn.mono (clone_empty a c) fun r L h=>ow h
    · exact Fn.mono (clone_spec (L:=[]) pb po cap data hp.reads (by omega)) fun r L h=>ow h
  refine Fn.sameR (Fn.frame (L:=[]) (F:=G) key) ?_
  rintro r L⟨L1,⟨a,c,rfl,h⟩,rfl⟩
  exact⟨G++L1,Same.perm List.perm_append_comm,a,c,L1,rfl,h,rfl⟩
theorem src_big{K:Known}{ea:Fin 5→Addr}(hs:Sents K ea)(rb:Nat){a:Option Addr}{c:Nat}{data:List UInt8}{GL:Frags}(h:CloneG data a c GL)(hl:data.length≤70368744177664):
    ∃x1 x2 x3,(Hn K ea hs rb a c data).At data x1 x2 x3∧∀G,Same (⟨rb,0,[.slice a data.length c,.int .i64 0,.int .i64 (-1)]⟩::(G++GL)) ([x1,x2,x3]++G):=by
  obtain⟨hc,⟨rfl,rfl⟩|⟨db,o,cs,rfl,rfl⟩⟩:=h
  · refine⟨⟨rb,0,[.slice a 0 c,.int .i64 ((0:Nat):Int),.int .i64 (-1)]⟩,⟨rb,0,[]⟩,⟨rb,0,[]⟩,⟨0,rfl,rfl,Nat.zero_le _,by decide,hc,.inl U,rfl⟩,fun G=>?_⟩
    rw[List.append_nil]
    exact(Same.empty rb 0 0 _ G).trans ((Same.empty rb 0 0 _ _))
  · refine⟨⟨rb,0,[.slice (some ⟨db,o,none⟩) data.length c,.int .i64 ((0:Nat):Int),.int .i64 (-1)]⟩,⟨db,o,bytesV data++cs⟩,⟨rb,0,[]⟩,⟨0,rfl,rfl,Nat.zero_le _,by omega,hc,.inr ⟨db,o,cs,rfl,rfl⟩,rfl⟩,fun G=>?_⟩
    refine(Same.empty rb 0 0 _ _).trans (Same.perm (List.Perm.cons _ ?_))
    refine(List.Perm.cons _ List.perm_append_comm).trans ?_
    exact List.Perm.swap _ _ _
theorem zNewReader_in{K:Known}{ea:Fin 5→Addr}(hs:Sents K ea)(src:Src K ea)(l:List UInt8)(x1 x2 x3:Frag)(hA:src.At l x1 x2 x3)(G:Frags):
    Fn Tryz.prog K 20 #[.iface src.t src.v] ([x1,x2,x3]++G) (fun r L=>((Ac l).1≠.none∧r=.tuple #[.pointer none,Er.val ea (Ac l).1]∧∃f1 f2 f3,src.At (Ac l).2.1 f1 f2 f3∧L=G++[f1,f2,f3])∨
      ((Ac l).1=.none∧∃zb LZ,r=.tuple #[.pointer (some ⟨zb,0,none⟩),Er.val ea (Ac l).1]∧ZAt src zb (Ac l).2.2 true (Ac l).2.1 LZ∧L=G++LZ)):=by
  refine Fn.sameR (Fn.frame (F:=G) (zNewReader_spec hs src l x1 x2 x3 hA)) ?_
  rintro v L'⟨L1,⟨hne,rfl,f1,f2,f3,hF,rfl⟩|⟨hno,zb,rfl,hz⟩,rfl⟩
  · exact⟨G++[f1,f2,f3],Same.perm List.perm_append_comm,.inl ⟨hne,rfl,f1,f2,f3,hF,rfl⟩⟩
  · exact⟨G++L1,Same.perm List.perm_append_comm,.inr ⟨hno,zb,L1,rfl,hz,rfl⟩⟩
theorem rest_in{K:Known}{ea:Fin 5→Addr}(hs:Sents K ea)(hc:Codes K){src:Src K ea}{zb:Nat}{h:Hd}(hm:h.mod<4294967296){ms:Bool}{rest:List UInt8}{sv:Value}(hsz:SzA K sv)(hlen:(gzR ms rest).1.length≤70368744177664){LZ:Frags}(hZ:ZAt src zb h ms rest LZ)(G:Frags):
    Fn Tryz.prog K 24 #[.pointer (some ⟨zb,0,none⟩),sv] (G++LZ) fun r L=>∃a1 k1 a2 k2 GL T,r=unV (0,h,(gzR ms rest).1,(gzR ms rest).2.1) (.slice a1 (h.extra.getD []).length k1) (.slice a2 (gzR ms rest).1.length k2)∧UnpV (0,h,(gzR ms rest).1,(gzR ms rest).2.1) r GL∧
      (∃f1 f2 f3 LZ2,(∃l,src.At l f1 f2 f3)∧(ms=false→(gzR ms rest).2.1=1→src.At (gzR ms rest).2.2 f1 f2 f3)∧ZOld zb LZ2∧T=f1::f2::f3::LZ2)∧L=G++(GL++T):=by
  obtain⟨f1,f2,f3,bs,xa,xn,Xf,fb,DN,hA,hb,hX,hDN,rfl⟩:=hZ
  refine Fn.lose (Fn.perm List.perm_append_comm (Fn.frame (F:=G) (rest_walk hs hc src zb h hm ms rest sv hsz hlen f1 f2 f3 bs xa xn Xf fb DN hA hb hX hDN))) ?_
  rintro r L⟨L1,⟨L2,J,hS,GL,w1,w2,w3,LZ2,hU,h1,h2,h3,rfl⟩,rfl⟩
  have hU2:=hU
  obtain⟨ev,bv,rfl,⟨a1,k1,rfl,_⟩,⟨a2,k2,rfl,_⟩⟩:=hU
  refine⟨G++(GL++(w1::w2::w3::LZ2)),J,?_,a1,k1,a2,k2,GL,_,rfl,hU2,⟨w1,w2,w3,LZ2,h1,h2,h3,rfl⟩,rfl⟩
  rw[List.append_assoc]
  exact(Same.perm List.perm_append_comm).trans (Same.appendL G hS)
open Go
section
variable {P:Program}{K:Known}{n:Nat}{ty:TypeId}{env:Env}{L:Frags}
theorem S.loadR{x:Operand}{t:TypeId}{b o j:Nat}{vs:List Value}{v:Value}(hr:Reads K L b o vs)(h:ev? env x=some (.pointer (some ⟨b,o+j,none⟩)))(hv:vs[j]? =some v)(hag:∀w,(isAgg t).run P w=.ok false w):OpS P K n (.load t x) ty env L v:=by
  intro a w hf hw
  simp only[exop,execOp,hf.eval h]
  have:=run_load1 (P:=P) hag (hr w hw j v hv)
  simp[this]
theorem S.loadAR{x:Operand}{t:TypeId}{b o k m:Nat}{vs cs:List Value}(hr:Reads K L b o vs)(h:ev? env x=some (.pointer (some ⟨b,o+k,none⟩)))(hv:(vs.drop k).take m=cs)(hlen:cs.length=m)(hag:∀w,(isAgg t).run P w=.ok true w)(hsz:∀w,(sizeOf t).run P w=.ok m w):
    OpS P K n (.load t x) ty env L (.agg cs.toArray):=by
  intro a w hf hw
  simp only[exop,execOp,hf.eval h]
  have h2:=run_loadAgg (P:=P) (w:=w) (b:=b) (o:=o+k) hag hsz hlen (fun j v hj=>by
    rw[←hv,List.getElem?_take]at hj
    split at hj
    · rw[List.getElem?_drop]at hj
      have:=hr w hw (k+j) v hj
      rw[Nat.add_assoc];exact this
    · cases hj)
  simp[h2]
end
noncomputable instance fragBEq:BEq Frag:=⟨fun a b=>@decide (a=b) (Classical.propDecidable _)⟩
instance fragLawful:LawfulBEq Frag where
  eq_of_beq h:=by simpa[BEq.beq]using h
  rfl:=by simp[BEq.beq]
theorem permF{L L2:Frags}(h:∀x,L.count x=L2.count x):L.Perm L2:=List.perm_iff_count.2 h
theorem out_mono{P:Program}{K:Known}{w:World}{L0 L:Frags}{R R':Value→Frags→Prop}(key:∀{v:Value} {w':World},(∃L',R v L'∧To K w L0 w' L')→∃L',R' v L'∧To K w L w' L'):∀{r:Result Next},Out P K w L0 R r→Out P K w L R' r
  |.ok (.value _) _,h=>key h
  |.ok .skip _,h=>key h
  |.ok (.enter _ _) _,h=>Calls.mono h (by rintro e w''⟨v,L',rfl,r,t⟩;obtain⟨L2,h1,h2⟩:=key ⟨L',r,t⟩;exact⟨v,L2,rfl,h1,h2⟩)
inductive Star{σ:Type}(R:σ→σ→Prop):σ→σ→Prop
  |refl (s:σ):Star R s s
  |cons {a b c:σ} (h:R a b) (t:Star R b c):Star R a c
theorem Star.snoc{σ:Type}{R:σ→σ→Prop}{a b c:σ}(h:Star R a b)(r:R b c):Star R a c:=by
  induction h with
  |refl s=>exact .cons r (.refl _)
  |cons h t ih=>exact .cons h (ih r)
theorem Star.det{σ:Type}{R:σ→σ→Prop}(hR:∀{a b c:σ},R a b→R a c→b=c){s a b:σ}(h1:Star R s a)(h2:Star R s b)(ha:∀x,¬R a x)(hb:∀x,¬R b x):a=b:=by
  induction h1 with
  |refl s=>
    cases h2 with
    |refl=>rfl
    |cons r _=>exact absurd r (ha _)
  |cons r t ih=>
    cases h2 with
    |refl=>exact absurd r (hb _)
    |cons r2 t2=>
      cases hR r r2
      exact ih t2 ha
def NxR(K:Known)(na:Option Addr)(nn:Nat)(at_ n q at2:Nat):Prop:=
  (nn=0∧q=0∧at2=at_)∨(0<nn∧at2=at_+1∧∃b o z m,na=some ⟨b,o,none⟩∧cellAt K b (o+at_%nn*1)=some (.int .i64 z)∧IntKind.u64.wrap z=((m:Nat):Int)∧q=m%n)
theorem NxR.det{K:Known}{na:Option Addr}{nn at_ n q q2 a2 a3:Nat}(h:NxR K na nn at_ n q a2)(h2:NxR K na nn at_ n q2 a3):q=q2∧a2=a3:=by
  rcases h with⟨h0,rfl,rfl⟩|⟨h0,rfl,b,o,z,m,rfl,hz,hm,rfl⟩
  · rcases h2 with⟨_,rfl,rfl⟩|⟨h1,_⟩
    · exact⟨rfl,rfl⟩
    · omega
  · rcases h2 with⟨h1,_⟩|⟨_,rfl,b',o',z',m',e,hz',hm',rfl⟩
    · omega
    · injection e with e
      injection e with e1 e2
      subst e1 e2
      have:=Option.some.inj (hz.symm.trans hz')
      injection this with _ e3
      subst e3
      have:m=m':=by have:=hm.symm.trans hm';omega
      subst this
      exact⟨rfl,rfl⟩
def Seek(ls:List Nat)(most i0 i:Nat):Prop:=∃k,i=(i0+k)%ls.length∧ls.getD i 0≠most∧∀j,j<k→ls.getD ((i0+j)%ls.length) 0=most
theorem Seek.det{ls:List Nat}{most i0 i i2:Nat}(h:Seek ls most i0 i)(h2:Seek ls most i0 i2):i=i2:=by
  obtain⟨k,rfl,h3,h4⟩:=h
  obtain⟨k2,rfl,h5,h6⟩:=h2
  rcases Nat.lt_trichotomy k k2 with h|h|h
  · exact absurd (h6 k h) h3
  · rw[h]
  · exact absurd (h4 k2 h) h5
theorem seek_next{ls:List Nat}{most i0 i:Nat}(h:∃k,i=(i0+k)%ls.length∧∀q,q<k→ls.getD ((i0+q)%ls.length) 0=most)(hm:ls.getD i 0=most):∃k,(i+1)%ls.length=(i0+k)%ls.length∧∀q,q<k→ls.getD ((i0+q)%ls.length) 0=most:=by
  obtain⟨k,rfl,h2⟩:=h
  refine⟨k+1,by rw[Nat.mod_add_mod,Nat.add_assoc],fun q hq=>?_⟩
  rcases Nat.lt_or_ge q k with h3|h3
  · exact h2 q h3
  · obtain rfl:q=k:=by omega
    exact hm
def SplitS(K:Known)(na:Option Addr)(nn most n:Nat)(s s2:List Nat×Nat):Prop:=
  s.1.length<n∧∃i0 i,NxR K na nn s.2 s.1.length i0 s2.2∧Seek s.1 most i0 i∧s2.1=s.1.set i (s.1.getD i 0+1)++[s.1.getD i 0+1]
theorem SplitS.det{K:Known}{na:Option Addr}{nn most n:Nat}{a b c:List Nat×Nat}(h:SplitS K na nn most n a b)(h2:SplitS K na nn most n a c):b=c:=by
  obtain⟨_,i0,i,h3,h4,h5⟩:=h
  obtain⟨_,j0,j,h6,h7,h8⟩:=h2
  obtain⟨e,e2⟩:=h3.det h6
  subst e
  have:=h4.det h7
  subst this
  exact Prod.ext (h5.trans h8.symm) e2
def DealS(K:Known)(na:Option Addr)(nn:Nat)(us:List Bool)(s s2:Nat×List Nat×List Nat×Nat):Prop:=
  s.1<us.length∧s2.1=s.1+1∧((us.getD s.1 false=false∧s2.2=s.2)∨
    (us.getD s.1 false=true∧∃j,NxR K na nn s.2.2.2 s.2.1.length j s2.2.2.2∧s2.2.1=s.2.1.take j++s.2.1.drop (j+1)∧s2.2.2.1=s.2.2.1.set s.1 (s.2.1.getD j 0)))
theorem DealS.det{K:Known}{na:Option Addr}{nn:Nat}{us:List Bool}{a b c:Nat×List Nat×List Nat×Nat}(h:DealS K na nn us a b)(h2:DealS K na nn us a c):b=c:=by
  obtain⟨_,h3,h4⟩:=h
  obtain⟨_,h5,h6⟩:=h2
  refine Prod.ext (h3.trans h5.symm) ?_
  rcases h4 with⟨e,h4⟩|⟨e,j,g1,g2,g3⟩
  · rcases h6 with⟨_,h6⟩|⟨e2,_⟩
    · exact h4.trans h6.symm
    · rw[e]at e2;cases e2
  · rcases h6 with⟨e2,_⟩|⟨_,j2,g4,g5,g6⟩
    · rw[e]at e2;cases e2
    · obtain⟨k1,k2⟩:=g1.det g4
      subst k1
      exact Prod.ext (g2.trans g5.symm) (Prod.ext (g3.trans g6.symm) k2)
def LensD(K:Known)(na:Option Addr)(nn:Nat)(us:List Bool)(most at_:Nat)(os:List Nat)(at2:Nat):Prop:=
  ∃ls at1 lf,Star (SplitS K na nn most (us.count true)) ([1,1],at_) (ls,at1)∧¬ls.length<us.count true∧Star (DealS K na nn us) (0,ls,List.replicate us.length 0,at1) (us.length,lf,os,at2)
theorem LensD.det{K:Known}{na:Option Addr}{nn:Nat}{us:List Bool}{most at_ a2 a3:Nat}{os os2:List Nat}(h:LensD K na nn us most at_ os a2)(h2:LensD K na nn us most at_ os2 a3):os=os2∧a2=a3:=by
  obtain⟨ls,at1,lf,h3,h4,h5⟩:=h
  obtain⟨ls2,at12,lf2,h6,h7,h8⟩:=h2
  have e:=Star.det (R:=SplitS K na nn most (us.count true)) (fun a b=>SplitS.det a b) h3 h6 (fun x hx=>h4 hx.1) (fun x hx=>h7 hx.1)
  injection e with e1 e2
  subst e1 e2
  have e:=Star.det (R:=DealS K na nn us) (fun a b=>DealS.det a b) h5 h8 (fun x hx=>Nat.lt_irrefl _ hx.1) (fun x hx=>Nat.lt_irrefl _ hx.1)
  injection e with _ e
  injection e with _ e
  injection e with e1 e2
  exact⟨e1,e2⟩
section
variable {K:Known}{n:Nat}{env:Env}{L:Frags}{ty:TypeId}
theorem OpX.lose{P:Program}{op:Op}{R R':Value→Frags→Prop}(h:OpX P K n op ty env L R)(hr:∀v L',R v L'→∃L2 J,Same L' (L2++J)∧R' v L2):OpX P K n op ty env L R':=by
  intro a w hf hw
  refine out_mono ?_ (h a w hf hw)
  rintro v w'⟨L',r,t⟩
  obtain⟨L2,J,s,r2⟩:=hr _ _ r
  exact⟨L2,r2,(t.sameR s).drop⟩
theorem Bs.sl{v:Value}{xs:List UInt8}{g:Frag}(h:Bs v xs g)(h0:0<xs.length):Sl 1 v xs.length (bytesV xs) [g]:=h.resolve_left (fun h=>by rw[h.1]at h0;simp at h0)
theorem Bs.one{v:Value}{xs:List UInt8}{g:Frag}(h:Bs v xs g):one v=true:=by
  rcases h with⟨_,rfl,_⟩|h
  · rfl
  · rcases h.2 with⟨rfl,_⟩|⟨b,o,c,cs,rfl,_⟩<;>rfl
theorem X.appendBs{x y:Operand}{v:Value}{k yc:Nat}{ya:Option Addr}{xs ys:List UInt8}{g:Frag}{F:Frags}
    (hx:ev? env x=some v)(hy:ev? env y=some (.slice ya k yc))(hB:Bs v xs g)(hk:k=ys.length)(h00:0<xs.length+ys.length)
    (hread:ys=[]∨∃yb yo,ya=some ⟨yb,yo,none⟩∧Reads K (g::F) yb yo (bytesV ys))(hb:xs.length+ys.length≤140737488355328):
    OpX Tryz.prog K n (.call {callee:=.builtin .append,args:=#[x,y],argTypes:=#[25,25]}) ty env (g::F) fun v' L'=>
      ∃g',Sl 1 v' (xs++ys).length (bytesV (xs++ys)) [g']∧L'=g'::F:=by
  by_cases h0:0<xs.length
  · exact Dh hx hy (hB.sl h0) hk hread h0 hb
  · obtain rfl:xs=[]:=List.eq_nil_of_length_eq_zero (by omega)
    have hS:∃Lf J,Lf++J=g::F∧Sl 1 v 0 [] Lf∧((Lf=[]∧J=g::F)∨(Lf=[g]∧J=F)):=by
      rcases hB with⟨_,rfl,_⟩|h
      · exact⟨[],g::F,rfl,Sl.nil 1,.inl ⟨rfl,rfl⟩⟩
      · exact⟨[g],F,rfl,h,.inr ⟨rfl,rfl⟩⟩
    obtain⟨Lf,J,e,hS,hor⟩:=hS
    rw[←e]at hread⊢
    refine OpX.lose (Jm (xs:=[]) (ys:=ys) hx hy hS hk hread hb) ?_
    rintro v' L'⟨Lf',h1,rfl⟩
    obtain⟨b,o,c,cs,rfl,rfl,h3,h4,h5,h6⟩:=h1.one (by rw[List.nil_append];simpa using h00)
    rcases hor with⟨rfl,rfl⟩|⟨rfl,rfl⟩
    · exact⟨⟨b,o,cs⟩::F,[g],Same.perm ((List.perm_append_comm (l₁:=[g]) (l₂:=F)).cons _),_,h1,rfl⟩
    · exact⟨⟨b,o,cs⟩::J,[],Same.of_eq (by simp),_,h1,rfl⟩
end
theorem Sl.bytes1{v:Value}{xs:List UInt8}{g:Frag}(h:Sl 1 v xs.length (bytesV xs) [g])(h0:0<xs.length):∃b o c cs,v=.slice (some ⟨b,o,none⟩) xs.length c∧g=⟨b,o,bytesV xs++cs⟩∧xs.length+cs.length=c∧c≤9223372036854775807:=by
  obtain⟨b,o,c,cs,rfl,e,h1,h2,h3,h4⟩:=h.one h0
  simp only[List.cons.injEq,and_true]at e
  subst e
  rw[Nat.mul_one]at h4 h1
  refine⟨b,o,c,cs.drop xs.length,rfl,?_,?_,h3⟩
  · rw[←h4,List.take_append_drop]
  · rw[List.length_drop];omega
theorem Sl.mk1{b o c:Nat}{xs:List UInt8}{cs:List Value}(h:xs.length+cs.length=c)(hc:c≤9223372036854775807):Sl 1 (.slice (some ⟨b,o,none⟩) xs.length c) xs.length (bytesV xs) [⟨b,o,bytesV xs++cs⟩]:=
  ⟨by rw[Bh,Nat.mul_one],.inr ⟨b,o,c,_,rfl,rfl,by rw[List.length_append,Bh,Nat.mul_one,h],by omega,hc,by rw[Nat.mul_one];exact List.take_left' (Bh xs)⟩⟩
theorem Sl.mkS{b o c n:Nat}{xs:List UInt8}{cs:List Value}(hn:n=xs.length)(h:n+cs.length=c)(hc:c≤9223372036854775807):Sl 1 (.slice (some ⟨b,o,none⟩) n c) xs.length (bytesV xs) [⟨b,o,bytesV xs++cs⟩]:=by
  subst hn;exact Sl.mk1 h hc
theorem wput_bit(s:Wr)(x i:Nat):wput s x (i+1)=((wput s x i).1+2^(s.2+i)*(x/2^i%2),s.2+(i+1)):=by
  unfold wput
  rw[Hg,Nat.pow_one,Nat.mul_add,←Nat.mul_assoc,←Nat.pow_add,Nat.add_assoc]
theorem leN_set:∀{bs:List UInt8} {j y:Nat} (hj:j<bs.length),bs[j].toNat≤y→y<256→leN (bs.set j (UInt8.ofNat y))=leN bs+2^(8*j)*(y-bs[j].toNat)
  |c::r,0,y,_,h1,h2=>by
    simp only[List.getElem_cons_zero]at h1⊢
    rw[List.set_cons_zero,leN,leN,UInt8.toNat_ofNat',Nat.mod_eq_of_lt h2];simp;omega
  |c::r,j+1,y,hj,h1,h2=>by
    simp only[List.getElem_cons_succ]at h1⊢
    have ih:=leN_set (bs:=r) (by simpa using hj) h1 h2
    rw[List.set_cons_succ,leN,leN,ih,show 8*(j+1)=8+8*j by omega,Nat.pow_add,show(2:Nat)^8=256 from rfl,Nat.mul_add,Nat.mul_assoc];omega
theorem last_lt{bs:List UInt8}{j r:Nat}(hl:j<bs.length)(h:leN bs<2^(8*j+r)):bs[j].toNat<2^r:=by
  rw[←leN_get hl]
  refine Nat.lt_of_le_of_lt (Nat.mod_le _ _) ?_
  rw[Nat.div_lt_iff_lt_mul (Nat.pow_pos (by decide)),←Nat.pow_add,Nat.add_comm];exact h
theorem bit_byte{a b r:Nat}(ha:a<2^r)(hb:b≤1)(hr:r<8):a|||(b<<<r)%256=a+2^r*b∧a+2^r*b<256:=by
  have h1:b<<<r=2^r*b:=by rw[Nat.shiftLeft_eq,Nat.mul_comm]
  have h2:2^r≤2^7:=Nat.pow_le_pow_right (by decide) (by omega)
  have h3:2^r*b≤2^r*1:=Nat.mul_le_mul_left _ hb
  have h4:(b<<<r)%256=b<<<r:=Nat.mod_eq_of_lt (by rw[h1];omega)
  refine⟨?_,by omega⟩
  rw[h4,Nat.or_comm,←Nat.shiftLeft_add_eq_or_of_lt ha,h1,Nat.add_comm]
theorem bit_put{bs:List UInt8}{s:Wr}{x i y:Nat}(hs:WrOk s)(hl:bs.length=(s.2+i)/8+1)(hv:leN bs=(wput s x i).1)(hj:(s.2+i)/8<bs.length)(hy:y=bs[(s.2+i)/8].toNat|||((x>>>i&&&1)<<<((s.2+i)%8))%256):
    y<256∧leN (bs.set ((s.2+i)/8) (UInt8.ofNat y))=(wput s x (i+1)).1:=by
  have h1:leN bs<2^(8*((s.2+i)/8)+(s.2+i)%8):=by
    rw[hv,Nat.div_add_mod];exact Fc hs x i
  have h2:=last_lt hj h1
  have h3:x>>>i&&&1=x/2^i%2:=by rw[Nat.and_one_is_mod,Nat.shiftRight_eq_div_pow]
  obtain⟨h4,h5⟩:=bit_byte (b:=x/2^i%2) h2 (by omega) (Nat.mod_lt _ (by decide))
  rw[h3,h4]at hy
  refine⟨by omega,?_⟩
  rw[leN_set hj (by omega) (by omega),hy,Nat.add_sub_cancel_left,wput_bit,hv,←Nat.mul_assoc,←Nat.pow_add,Nat.div_add_mod]
theorem u8_set{bs:List UInt8}{j y:Nat}(cs:List Value)(hj:j<bs.length)(hy:y<256):(bytesV bs++cs).set (j*1) (.int .u8 ((y:Nat):Int))=bytesV (bs.set j (UInt8.ofNat y))++cs:=by
  have e:(Value.int .u8 ((y:Nat):Int))=u8 (UInt8.ofNat y):=by
    show _=Value.int .u8 (((UInt8.ofNat y).toNat:Nat):Int)
    rw[UInt8.toNat_ofNat',Nat.mod_eq_of_lt hy]
  rw[Nat.mul_one,List.set_append_left _ _ (by rw[Bh];exact hj),e]
  congr 1
  show(bs.map u8).set j (u8 (UInt8.ofNat y))=(bs.set j (UInt8.ofNat y)).map u8
  rw[List.map_set]
def WAt(wb:Nat)(s:Wr)(f g:Frag):Prop:=∃v bs,f=⟨wb,0,[v,.int .i64 ((s.2:Nat):Int)]⟩∧Bs v bs g∧leN bs=s.1∧bs.length=(s.2+7)/8∧WrOk s
theorem put_walk{K:Known}(wb:Nat)(s:Wr)(x n:Nat)(hs:WrOk s)(hx:x<4611686018427387904)(hn:n≤1024)(hk:s.2≤35184372088832)(v0:Value)(bs0:List UInt8)(g0:Frag)(hB0:Bs v0 bs0 g0)(hv0:leN bs0=s.1)(hl0:bs0.length=(s.2+7)/8):Fn Tryz.prog K 41 #[.pointer (some ⟨wb,0,none⟩),.int .i64 ((x:Nat):Int),.int .i64 ((n:Nat):Int)] ([⟨wb,0,[v0,.int .i64 (((s.2):Nat):Int)]⟩,g0]) (fun r L=>∃f g,r=.tuple #[]∧WAt wb (wput s x n) f g∧L=[f,g]):=by
 refine Fn.intro (args:=[.pointer (some ⟨wb,0,none⟩),.int .i64 ((x:Nat):Int),.int .i64 ((n:Nat):Int)]) (RR:=Ret0 _) Tryz.func41 rfl rfl Tryz.ntmps41 (res0 Tryz.results41) ?_
 refine Bi (env2:=[(0,.pointer (some ⟨wb,0,none⟩)),(1,.int .i64 ((x:Nat):Int)),(2,.int .i64 ((n:Nat):Int))]) U<|Cr<|Em U U<|Em U U<|Ek4 0 1 7 8 U<|As ?_
 refine Bw (fun mm ee ll=>∃(i:Nat),∃(v:Value),∃(bs:List UInt8),∃(g:Frag),keeps ee [0,1,7,8]=some [(0,.pointer (some ⟨wb,0,none⟩)),(1,.int .i64 ((x:Nat):Int)),(7,.int .i64 ((n:Nat):Int)),(8,.int .i64 ((i:Nat):Int))]∧ll=[⟨wb,0,[v,.int .i64 (((s.2+i):Nat):Int)]⟩,g]∧(i≤n)∧(Bs v bs g)∧(leN bs=(wput s x i).1)∧(bs.length=(s.2+i+7)/8)∧mm=n-i) (_) ⟨0,v0,bs0,g0,rfl,rfl,Nat.zero_le _,hB0,(by rw[hv0];simp[wput,Nat.mod_one]),hl0,rfl⟩ ?_
 rintro m0 _ _⟨i,v,bs,g,hk0,rfl,hi,hB,hv,hl,hm0⟩
 refine Av _ hk0<|Cr<|Aa (Dl U U) U<|Ek5 0 1 7 8 9 U<|Am<|Bf U (fun h9=>?_) (fun h9=>?_)
 ·have hi2:i<n:=by omega
  refine Ap<|Am<|As<|Cr<|Em U U<|Ea U U<|Ek6 0 1 6 7 8 9 U<|Du (M:=fun ee ll=>∃(v2:Value),∃(bs2:List UInt8),∃(g2:Frag),keeps ee [0,1,6,7,8]=some [(0,.pointer (some ⟨wb,0,none⟩)),(1,.int .i64 ((x:Nat):Int)),(6,.int .i64 ((i:Nat):Int)),(7,.int .i64 ((n:Nat):Int)),(8,.int .i64 ((i:Nat):Int))]∧ll=[⟨wb,0,[v2,.int .i64 (((s.2+i):Nat):Int)]⟩,g2]∧(Sl 1 v2 bs2.length (bytesV bs2) [g2])∧(leN bs2=(wput s x i).1)∧(bs2.length=((s.2+i)/8)+1)) ?_ ?_
  ·refine Cr<|Em U U<|Aa (Ad U) U<|Aa (Ab U fa111_1) U<|Ag (Aj 0 (k:=1) U U U Ta3) U<|Aa (S.rem (a:=((s.2+i:Nat):Int)) (b:=((8:Nat):Int)) (r:=((((s.2+i)%8):Nat):Int)) U U (by omega) (by rw[←Int.ofNat_tmod])) U<|Aa (Ef (b:=((0:Nat):Int)) U U) U<|Ek7 0 1 6 7 8 9 16 U<|Bf U (fun h16=>?_) (fun h16=>?_)
   ·have hr8:((s.2+i)%8)=0:=by omega
    refine Al<|Em U U<|Em U U<|Aa (Ad U) U<|Aa (Ab U fa111_0) U<|Ag (Aj 0 (k:=0) U U U Ta25) U ?_
    refine Ai (Bn (vs:=[.int .u8 0]) (e:=5) [(0,.int .u8 0)] U (fun w=>by simp[Instr.buildSlice,Instr.fill,Value.cells,newRow,Tryz.runUnderlying25,Tryz.typeInfo5];rw[arr1])) U ?_
    rintro _ _⟨yb,rfl,rfl⟩
    refine Dd [2,0,0] (A:=[_,_,_]) (F:=[]) U<|Ax (L2:=g::[_,_]) U ?_
    refine Ai (X.appendBs (xs:=bs) (ys:=[0]) (F:=[_,_]) U U hB U (by simp) (.inr ⟨yb,0,rfl,Reads.mem (k:=0) (.tail _ (.head _)) U⟩) (by rw[hl];simp only[List.length_cons,List.length_nil];omega)) U ?_
    rintro v4 _⟨g4,hB4,rfl⟩
    refine Ds [2,0] (A:=[_,_]) U<|Aa (Ad U) U<|Aa (Ab U fa111_0) U ?_
    refine Ao (Aq 0 (k:=0) U U U (Bs.one (.inr hB4)) U Tz25) ?_;rintro _ _⟨rfl,rfl⟩;refine Er2 U ?_
    refine Ek7 0 1 6 7 8 9 16 U ?_
    exact⟨v4,bs++[0],g4,rfl,rfl,hB4,(by rw[leN_append];simp[leN,hv]),(by rw[List.length_append,hl];simp only[List.length_cons,List.length_nil];omega)⟩
   have hr8:((s.2+i)%8)≠0:=by omega
   refine Ap ?_
   exact⟨v,bs,g,rfl,rfl,hB.sl (by omega),hv,by omega⟩
  rintro _ _⟨v2,bs2,g2,hq5,rfl,hB2,hv2,hl2⟩
  refine Av _ hq5 ?_
  obtain⟨b,o,c,cs,rfl,rfl,hcl,hcm⟩:=hB2.bytes1 (by omega)
  have hj:((s.2+i)/8)<bs2.length:=by omega
  have hget:(bytesV bs2++cs)[((s.2+i)/8)*1]? =some (u8 bs2[((s.2+i)/8)]):=by rw[Nat.mul_one];exact bytes_get hj
  have hsh:=Nat.shiftRight_le x i
  have h1:x>>>i&&&1≤1:=Nat.and_le_right
  have hb8:=bs2[((s.2+i)/8)].toNat_lt
  have hbp:=bit_put (y:=(bs2[((s.2+i)/8)].toNat|||((x>>>i&&&1)<<<((s.2+i)%8))%256)) hs hl2 hv2 hj rfl
  refine Am<|Bt [0,1,2,4,0,16,32,64,128,264,512,0,0,6144,8192,16384,0,65536,131072,262144,524288,1081344,2098176,8388607,16777215] (.pure 0 4192752 (.pure 1 4192753 (.pure 2 4192755 (.pure 4 4192271 (.pure 5 4192287 (.pure 6 4192319 (.pure 11 2037759 (.pure 12 2035711 (.pure 13 2039807 (.pure 14 2047999 (.pure 15 2064383 (.pure 16 65535 (.pure 17 131071 (.pure 18 262143 (.seg [(3,4192759),(7,4192383),(8,4192511),(9,4192767),(10,4193279),(19,524287),(20,1048575),(21,2097151),(22,4194303),(23,8388607)] (.alt 24 .done .stop)))))))))))))))) mixed (by decide+kernel)<|Dm U U U<|Ah U (Ad U) U<|Ah U (Ab U fa111_0) U<|Dm U U U<|Ah U (Ad U) U<|Ah U (Ab U fa111_1) U<|Dm U U U<|Dm U U U<|Ah U (Fl U U (by omega) (N.shr64 (by omega) _)) U<|Ah U (Fa (b:=((1:Nat):Int)) U U (N.and64 (by omega) (by omega))) U ?_
  refine Ah U (Bv U Tu3 Tu5 (N.in_u8 (by omega))) U<|Dm U U U<|Ah U (Ad U) U<|Ah U (Ab U fa111_1) U<|Dc (by decide)<|Au U (Aj 0 (k:=0) U U U Ta25) U<|Au U (Aj 0 (k:=1) U U U Ta3) U ?_
  refine Ba U (S.quo (a:=((s.2+i:Nat):Int)) (b:=((8:Nat):Int)) (r:=((((s.2+i)/8):Nat):Int)) U U (by omega) (by rw[←Int.ofNat_tdiv];exact N.i64n (by omega))) U ?_
  refine Ba U (Bm U U hj Tu25 Tz5) U<|Au U (Aj 1 (k:=((s.2+i)/8)*1) U U hget Ta5) U<|Au U (Aj 0 (k:=1) U U U Ta3) U<|Ba U (S.rem (a:=((s.2+i:Nat):Int)) (b:=((8:Nat):Int)) (r:=((((s.2+i)%8):Nat):Int)) U U (by omega) (by rw[←Int.ofNat_tmod])) U<|Ba U (Fy U U (by omega) (N.shl_u8 _ _)) U<|Ba U (S.or U U (N.or_u8 (by omega) (by omega))) U<|Ba U (Bm U U hj Tu25 Tz5) U<|Da<|By ?_
  refine Di U (Aq 1 (k:=((s.2+i)/8)*1) U U U U (by rw[Nat.blt_eq,List.length_append,Bh];omega) Tz5) ?_
  rintro _ _⟨rfl,rfl⟩
  refine Dz (L2:=[_,⟨b,o,bytesV (bs2.set ((s.2+i)/8) (UInt8.ofNat (bs2[((s.2+i)/8)].toNat|||((x>>>i&&&1)<<<((s.2+i)%8))%256)))++cs⟩]) (by show [_,(⟨b,o,(bytesV bs2++cs).set _ _⟩:Frag)]=_;rw[u8_set cs hj hbp.1]) ?_
  refine Dk5 0 1 6 7 8 U<|Al<|Em U U<|Aa (Ad U) U<|Aa (Ab U fa111_1) U<|Ag (Aj 0 (k:=1) U U U Ta3) U<|Aa (Bl (b:=((1:Nat):Int)) U U (N.add64 (by omega))) U<|Aa (Ad U) U<|Aa (Ab U fa111_1) U ?_
  refine Ao (Aq 0 (k:=1) U U U U U Tz3) ?_;rintro _ _⟨rfl,rfl⟩;refine Er2 U ?_
  refine Ek5 0 1 6 7 8 U<|Al<|Aa (Bl (b:=((1:Nat):Int)) U U (N.add64 (by omega))) U<|Em U U<|Ek5 0 1 6 7 8 U ?_
  refine⟨_,?_,i+1,_,bs2.set ((s.2+i)/8) (UInt8.ofNat (bs2[((s.2+i)/8)].toNat|||((x>>>i&&&1)<<<((s.2+i)%8))%256)),_,rfl,rfl,by omega,(Or.inr (Sl.mkS (by rw[List.length_set]) hcl hcm)),hbp.2,(by rw[List.length_set];omega),rfl⟩;omega
 have hi2:i=n:=by omega
 subst hi2
 refine Bu U ?_
 refine⟨_,_,rfl,⟨_,bs,rfl,hB,hv,hl,Fc hs x i⟩,rfl⟩
theorem Gd{K:Known}{wb:Nat}{s:Wr}{f g:Frag}(h:WAt wb s f g)(x n:Nat)(hx:x<4611686018427387904)(hn:n≤1024)(hk:s.2≤35184372088832):
    Fn Tryz.prog K 41 #[.pointer (some ⟨wb,0,none⟩),.int .i64 ((x:Nat):Int),.int .i64 ((n:Nat):Int)] [f,g] fun r L=>∃f g,r=.tuple #[]∧WAt wb (wput s x n) f g∧L=[f,g]:=by
  obtain⟨v,bs,rfl,hB,hv,hl,hs⟩:=h
  exact put_walk wb s x n hs hx hn hk v bs g hB hv hl
theorem code_step{s:Wr}{x n j:Nat}(hj:j<n):wput (wput s (revB j (x/2^(n-j))) j) (x>>>(n-1-j)) 1=wput s (revB (j+1) (x/2^(n-(j+1)))) (j+1):=by
  have e:x/2^(n-(j+1))/2=x/2^(n-j):=by rw[Nat.div_div_eq_div_mul,←Nat.pow_succ,show(n-(j+1)).succ=n-j by omega]
  have hr:revB (j+1) (x/2^(n-(j+1)))=(x/2^(n-(j+1))%2)*2^j+revB j (x/2^(n-j)):=by rw[revB,e]
  have h1:=Eh (j+1) (x/2^(n-(j+1)))
  have h2:=Eh j (x/2^(n-j))
  unfold wput
  simp only
  rw[Nat.mod_eq_of_lt h2,Nat.mod_eq_of_lt h1,hr,Nat.shiftRight_eq_div_pow,show n-1-j=n-(j+1) by omega,Nat.pow_one,Nat.pow_add,Nat.mul_add,Nat.add_assoc,Nat.add_assoc,Nat.mul_assoc,Nat.mul_comm (2^j) (x/2^(n-(j+1))%2),Nat.add_comm (2^s.2*revB j _)]
theorem code_walk{K:Known}(wb:Nat)(s:Wr)(x n:Nat)(hx:x<4611686018427387904)(hn:n≤1024)(hk:s.2+n≤35184372088832)(f0 g0:Frag)(hW:WAt wb s f0 g0):Fn Tryz.prog K 60 #[.pointer (some ⟨wb,0,none⟩),.int .i64 ((x:Nat):Int),.int .i64 ((n:Nat):Int)] ([f0,g0]) (fun r L=>∃f g,r=.tuple #[]∧WAt wb (wput s (revB n x) n) f g∧L=[f,g]):=by
 refine Fn.intro (args:=[.pointer (some ⟨wb,0,none⟩),.int .i64 ((x:Nat):Int),.int .i64 ((n:Nat):Int)]) (RR:=Ret0 _) Tryz.func60 rfl rfl Tryz.ntmps60 (res0 Tryz.results60) ?_
 refine Bi (env2:=[(0,.pointer (some ⟨wb,0,none⟩)),(1,.int .i64 ((x:Nat):Int)),(2,.int .i64 ((n:Nat):Int))]) U<|Cr<|Em U U<|Aa (Dr (b:=((1:Nat):Int)) U U (N.subZ (by omega))) U<|Ea U U<|An (v:=.int .i64 ((n:Int)-1-((0:Nat):Int))) (by simp)<|Ek3 0 1 6 U<|As<|Bw (fun mm ee ll=>∃(j:Nat),∃(f:Frag),∃(g:Frag),keeps ee [0,1,6]=some [(0,.pointer (some ⟨wb,0,none⟩)),(1,.int .i64 ((x:Nat):Int)),(6,.int .i64 ((n:Int)-1-(j:Int)))]∧ll=[f,g]∧(j≤n)∧(WAt wb (wput s (revB j (x/2^(n-j))) j) f g)∧mm=n-j) (_) ⟨0,f0,g0,rfl,rfl,Nat.zero_le _,(by simpa[wput,Nat.mod_one]using hW),rfl⟩ ?_
 rintro m0 _ _⟨j,f,g,hk0,rfl,hj,hW,hm0⟩
 refine Av _ hk0<|Am<|Cr<|Em U U<|Aa (S.ge (b:=((0:Nat):Int)) U U) U<|Ek4 0 1 6 10 U<|Bf U (fun h10=>?_) (fun h10=>?_)
 ·have hj2:j<n:=by omega
  have hsh:=Nat.shiftRight_le x (n-1-j)
  refine Ap<|Am<|As<|Al<|Em U U<|Em U U<|Em U U<|An (v:=.int .i64 ((n-1-j:Nat):Int)) (congrArg (Value.int .i64) (by omega))<|Aa (Fl U U (by omega) (N.shr64 (by omega) _)) U ?_
  refine Ai (OpX.pick [0,0] (F:=[]) U (Ar U Tryz.call41 (Gd hW _ 1 (by omega) (by decide) (by show s.2+j≤_;omega)))) U ?_;rintro _ _⟨_,⟨f2,g2,rfl,hW2,rfl⟩,rfl⟩;refine Er2 U ?_
  refine Ek4 0 1 6 10 U<|Al<|Em U U<|Aa (Dr (b:=((1:Nat):Int)) U U (N.subZ (by omega))) U<|Ea U U<|An (v:=.int .i64 ((n:Int)-1-((j+1:Nat):Int))) (congrArg (Value.int .i64) (by omega))<|Ek4 0 1 6 10 U ?_
  refine⟨_,?_,j+1,f2,g2,rfl,rfl,by omega,(by rw[←code_step hj2];exact hW2),rfl⟩;omega
 have hj2:j=n:=by omega
 subst hj2
 refine Bu U ?_
 refine⟨f,g,rfl,?_,rfl⟩
 rw[Nat.sub_self,Nat.pow_zero,Nat.div_one]at hW
 exact hW
theorem code_spec{K:Known}{wb:Nat}{s:Wr}{f g:Frag}(h:WAt wb s f g)(lens:List Nat)(v:Nat)(hx:codeOf lens v<4611686018427387904)(hn:lenOf lens v≤15)(hk:s.2≤35184372088000):
    Fn Tryz.prog K 60 #[.pointer (some ⟨wb,0,none⟩),.int .i64 ((codeOf lens v:Nat):Int),.int .i64 ((lenOf lens v:Nat):Int)] [f,g] fun r L=>∃f g,r=.tuple #[]∧WAt wb (wcode s lens v) f g∧L=[f,g]:=
  code_walk wb s _ _ hx (by omega) (by omega) f g h
theorem place_spec{K:Known}(b o c:Nat)(l:List Nat)(x:Nat)(hc:∀i,i<l.length→cellAt K b (o+i*1)=some (.int .i64 ((l.getD i 0:Nat):Int)))(h1:0<l.length)(hl:l.length≤1000)(h0:l.getD 0 0≤x):Fn Tryz.prog K 61 #[.slice (some ⟨b,o,none⟩) (l.length) (c),.int .i64 ((x:Nat):Int)] ([]) (fun r L=>r=.int .i64 ((placeL l x:Nat):Int)∧L=[]):=by
 refine Fn.intro (args:=[.slice (some ⟨b,o,none⟩) (l.length) (c),.int .i64 ((x:Nat):Int)]) (RR:=Ret1 4 _) Tryz.func61 rfl rfl Tryz.ntmps61 (res1 Tryz.results61) ?_
 refine Bi (env2:=[(0,.slice (some ⟨b,o,none⟩) (l.length) (c)),(1,.int .i64 ((x:Nat):Int))]) U<|Cr<|Ea U U<|Ek3 0 1 4 U<|Cr<|Em U U<|Aa (Bc U Tu23) U<|Aa (Dr (b:=((1:Nat):Int)) U U (N.sub64 (by omega) (by omega))) U<|Ea U U<|Ek4 0 1 4 5 U<|Am<|As ?_
 refine Bw (fun mm ee ll=>∃(i:Nat),keeps ee [0,1,5]=some [(0,.slice (some ⟨b,o,none⟩) (l.length) (c)),(1,.int .i64 ((x:Nat):Int)),(5,.int .i64 ((i:Nat):Int))]∧ll=[]∧(i<l.length)∧(placeL l x=Gs l x i)∧mm=i) (_) ⟨l.length-1,rfl,rfl,by omega,rfl,rfl⟩ ?_
 rintro m0 _ _⟨i,hk0,rfl,hi,hp,hm0⟩
 refine Av _ hk0<|Am<|Cr<|Em U U<|Em U U<|Aa (Bm U U (by omega) Tu23 Tz3) U<|Ag (Be U (hc i hi) Ta3) U<|Em U U<|Aa (Fh U U) U<|Ek4 0 1 5 14 U<|Bf U (fun h14=>?_) (fun h14=>?_)
 ·obtain⟨i3,hi3⟩:∃i3,i=i3+1:=by
    cases i with
    |zero=>exact absurd h14 (by omega)
    |succ k=>exact⟨k,rfl⟩
  refine Ap<|As<|Al<|Em U U<|Aa (Dr (b:=((1:Nat):Int)) U U (N.sub64 (by omega) (by omega))) U<|Ea U U<|Ek4 0 1 5 14 U ?_
  refine⟨_,?_,i-1,rfl,rfl,by omega,(by rw[hp,hi3,Gs,if_pos (by rw[←hi3];omega)];rfl),rfl⟩;omega
 have hpi:Gs l x i=i:=by
   cases i with
   |zero=>rfl
   |succ k=>rw[Gs,if_neg (by omega)]
 refine Bu U<|Cr<|Em U U<|Ea U U<|Ek5 0 1 4 5 14 U<|Bb ?_
 exact⟨_,rfl,by rw[hp,hpi],rfl⟩
theorem u64_nat(z:Int):∃m:Nat,IntKind.u64.wrap z=(m:Int):=by
  refine⟨(IntKind.u64.wrap z).toNat,?_⟩
  have:0≤IntKind.u64.wrap z:=by
    simp only[IntKind.wrap,IntKind.signed,Bool.false_and,Bool.false_eq_true,if_false]
    exact Int.emod_nonneg _ (by simp[IntKind.bits])
  omega
theorem Ho{K:Known}(cb:Nat)(na:Option Addr)(nn nc:Nat)(hZ:SzA K (.slice na nn nc))(at_ n:Nat)(hat:at_≤4611686018427387904)(hn:0<n)(hnl:n≤1099511627776):Fn Tryz.prog K 62 #[.pointer (some ⟨cb,0,none⟩),.int .i64 ((n:Nat):Int)] ([⟨cb,0,[.slice na nn nc,.int .i64 (((at_):Nat):Int)]⟩]) (fun r L=>∃q at2,r=.int .i64 ((q:Nat):Int)∧q<n∧at2≤at_+1∧NxR K na nn at_ n q at2∧L=[⟨cb,0,[.slice na nn nc,.int .i64 (((at2):Nat):Int)]⟩]):=by
 refine Fn.intro (args:=[.pointer (some ⟨cb,0,none⟩),.int .i64 ((n:Nat):Int)]) (RR:=Ret1 4 _) Tryz.func62 rfl rfl Tryz.ntmps62 (res1 Tryz.results62) ?_
 refine Bi (env2:=[(0,.pointer (some ⟨cb,0,none⟩)),(1,.int .i64 ((n:Nat):Int))]) U<|Cr ?_
 obtain⟨a9,n9,c9,e9,hcl9,hZ9⟩:=hZ
 cases e9
 refine Ea U U<|Ek3 0 1 4 U<|Am<|Cr<|Em U U<|Aa (Ad U) U<|Aa (Ab U fa119_0) U<|Ag (Aj 0 (k:=0) U U U Ta23) U<|Aa (Bc U Tu23) U<|Aa (Ef (b:=((0:Nat):Int)) U U) U<|Ek4 0 1 4 10 U<|Bf U (fun h10=>?_) (fun h10=>?_)
 ·refine Cr<|Ea U U<|Ek4 0 1 4 10 U<|Bb ?_
  exact⟨_,rfl,0,at_,rfl,hn,by omega,.inl ⟨by omega,rfl,rfl⟩,rfl⟩
 have hn0:0<nn:=by omega
 have hlt:at_%nn<nn:=Nat.mod_lt _ hn0
 obtain⟨yb,yo,rfl,hyv⟩:=hZ9.resolve_left (by omega)
 obtain⟨z,hz⟩:=hyv (at_%nn) hlt
 obtain⟨m,hm⟩:=u64_nat z
 have hmn:m%n<n:=Nat.mod_lt _ hn
 refine Ap<|Cr<|Em U U<|Aa (Ad U) U<|Aa (Ab U fa119_1) U<|Ag (Aj 0 (k:=1) U U U Ta3) U<|Aa (Bl (b:=((1:Nat):Int)) U U (N.add64 (by omega))) U<|Aa (Ad U) U<|Aa (Ab U fa119_1) U ?_
 refine Ao (Aq 0 (k:=1) U U U U U Tz3) ?_;rintro _ _⟨rfl,rfl⟩;refine Er1 U ?_
 refine Ek4 0 1 4 10 U<|Am<|Bt [0,1,2,4,0,16,32,64,128,0,512,1024,2048,4096,8448,16392,32768,65536,0,262144,655360,1048576,4194303] (.pure 0 819184 (.pure 1 819185 (.pure 2 819187 (.pure 4 802319 (.pure 5 802335 (.pure 6 802367 (.pure 9 786943 (.pure 10 787455 (.pure 11 788479 (.pure 18 262143 (.pure 19 524287 (.seg [(3,819191),(7,802431),(8,802559),(12,790527),(13,794623),(14,802815),(15,819199),(16,851967),(17,917503),(20,1048575),(21,2097151),(22,4194303)] .done)))))))))))) mixed (by decide+kernel)<|Dm U U U<|Ah U (Ad U) U<|Ah U (Ab U fa119_0) U<|Dm U U U<|Ah U (Ad U) U<|Ah U (Ab U fa119_1) U<|Dm U U U<|Ah U (Ad U) U<|Ah U (Ab U fa119_0) U ?_
 refine Dm U U U<|Ah U (Bv U Tu3 Tu137 (N.in_u64 (by omega))) U<|Dc (by decide)<|Au U (Aj 0 (k:=0) U U U Ta23) U<|Au U (Aj 0 (k:=1) U U U Ta3) U<|Ba U (Dr (b:=((1:Nat):Int)) U U (N.sub64 (by omega) (by omega))) U<|Dy (v:=.int .i64 ((at_:Nat):Int)) (by simp)<|Au U (Aj 0 (k:=0) U U U Ta23) U<|Ba U (Bc U Tu23) U<|Ba U (S.rem (a:=((at_:Nat):Int)) (b:=((nn:Nat):Int)) (r:=((at_%nn:Nat):Int)) U U (by omega) (by rw[←Int.ofNat_tmod])) U<|Ba U (Bm U U (by omega) Tu23 Tz3) U<|Au U (Be U hz Ta3) U ?_
 refine Ba U (Bv U Tu3 Tu137 hm) U<|Ba U (S.rem (a:=((m:Nat):Int)) (b:=((n:Nat):Int)) (r:=((m%n:Nat):Int)) U U (by omega) (by rw[←Int.ofNat_tmod])) U<|Ba U (Bv U Tu137 Tu3 (N.i64n (by omega))) U<|Ba U (Az U) U<|Da<|Dk3 0 4 10 U<|Bb ?_
 exact⟨_,rfl,m%n,at_+1,rfl,hmn,by omega,.inr ⟨hn0,rfl,yb,yo,z,m,rfl,hz,hm,rfl⟩,rfl⟩
def wt(x:Nat):Nat:=if x=0 then 0 else 2^(15-x)
theorem Fx(x:Nat)(r:List Nat):fullN (x::r)=wt x+fullN r:=by simp[fullN,wt]
theorem fullN_nil:fullN []=0:=rfl
theorem fullN_append:∀(a b:List Nat),fullN (a++b)=fullN a+fullN b
  | [],b=>by simp[fullN_nil]
  |x::r,b=>by rw[List.cons_append,Fx,Fx,fullN_append r b];omega
theorem fullN_set:∀{l:List Nat} {i:Nat} (x:Nat) (h:i<l.length),fullN (l.set i x)+wt l[i]=fullN l+wt x
  |y::r,0,x,_=>by rw[List.set_cons_zero,Fx,Fx,List.getElem_cons_zero];omega
  |y::r,i+1,x,h=>by
    have:=fullN_set (l:=r) (i:=i) x (by simpa using h)
    rw[List.set_cons_succ,Fx,Fx,List.getElem_cons_succ];omega
theorem fullN_erase:∀{l:List Nat} {i:Nat} (h:i<l.length),fullN (l.take i++l.drop (i+1))+wt l[i]=fullN l
  |y::r,0,_=>by rw[List.take_zero,List.nil_append,List.drop_succ_cons,List.drop_zero,Fx,List.getElem_cons_zero];omega
  |y::r,i+1,h=>by
    have:=fullN_erase (l:=r) (i:=i) (by simpa using h)
    rw[List.take_succ_cons,List.cons_append,List.drop_succ_cons,Fx,Fx,List.getElem_cons_succ];omega
theorem wt_split{x:Nat}(h1:1≤x)(h2:x<15):wt x=2*wt (x+1):=by
  unfold wt
  rw[if_neg (by omega),if_neg (by omega),show 15-x=(15-(x+1))+1 by omega,Nat.pow_succ];omega
structure Leaves(most:Nat)(ls:List Nat):Prop where
  two:2≤ls.length
  rng:∀x∈ls,1≤x∧x≤most
  full:fullN ls=32768
theorem Leaves.start{most:Nat}(h:1≤most):Leaves most [1,1]:=⟨by decide,fun x hx=>by simp at hx;subst hx;exact⟨Nat.le_refl _,h⟩,by decide⟩
theorem mem_set_or{α:Type}:∀{l:List α} {i:Nat} {x y:α},y∈l.set i x→y∈l∨y=x
  | [],_,_,_,h=>by simp at h
  |a::r,0,x,y,h=>by
    rw[List.set_cons_zero]at h
    rcases List.mem_cons.1 h with h|h
    · exact .inr h
    · exact .inl (.tail _ h)
  |a::r,i+1,x,y,h=>by
    rw[List.set_cons_succ]at h
    rcases List.mem_cons.1 h with h|h
    · exact .inl (h▸.head _)
    · exact(mem_set_or h).imp (.tail _) id
theorem Leaves.split{most i:Nat}{ls:List Nat}(h:Leaves most ls)(hm:most≤15)(hi:i<ls.length)(hx:ls[i]<most):Leaves most (ls.set i (ls[i]+1)++[ls[i]+1]):=by
  obtain⟨r1,r2⟩:=h.rng _ (List.getElem_mem hi)
  refine⟨?_,fun x hx=>?_,?_⟩
  · have:=h.two
    rw[List.length_append,List.length_set];omega
  · rcases List.mem_append.1 hx with h1|h1
    · rcases mem_set_or h1 with h2|h2
      · exact h.rng x h2
      · omega
    · have:=List.mem_singleton.1 h1
      omega
  · have h1:=fullN_set (ls[i]+1) hi
    have h2:=wt_split r1 (by omega)
    have h3:=h.full
    rw[fullN_append,Fx,fullN_nil];omega
theorem fullN_all{x:Nat}:∀{l:List Nat},(∀y∈l,y=x)→fullN l=l.length*wt x
  | [],_=>by simp[fullN_nil]
  |y::r,h=>by
    rw[Fx,fullN_all (fun z hz=>h z (.tail _ hz)),h y (.head _),List.length_cons,Nat.add_mul];omega
theorem Leaves.some{most:Nat}{ls:List Nat}(h:Leaves most ls)(h1:1≤most)(hm:most≤15)(hn:ls.length<2^most):∃j,∃hj:j<ls.length,ls[j]<most:=by
  refine Classical.byContradiction fun hc=>?_
  have hall:∀y∈ls,y=most:=by
    intro y hy
    obtain⟨j,hj,rfl⟩:=List.getElem_of_mem hy
    have h2:=(h.rng _ hy).2
    rcases Nat.lt_or_ge ls[j] most with h3|h3
    · exact absurd ⟨j,hj,h3⟩ hc
    · omega
  have h2:=fullN_all hall
  rw[h.full,wt,if_neg (by omega)]at h2
  have h3:ls.length*2^(15-most)<2^most*2^(15-most):=Nat.mul_lt_mul_of_pos_right hn (Nat.pow_pos (by decide))
  rw[←h2,←Nat.pow_add,show most+(15-most)=15 by omega]at h3
  exact absurd h3 (by decide)
structure LensOk(us:List Bool)(most:Nat)(os:List Nat):Prop where
  len:os.length=us.length
  used:∀k,k<us.length→(0<lenOf os k↔us.getD k false=true)
  top:∀x∈os,x≤most
  full:fullN os=32768
structure Deal(most:Nat)(us:List Bool)(i:Nat)(ls os:List Nat):Prop where
  len:os.length=us.length
  past:∀k,k<i→(0<lenOf os k↔us.getD k false=true)
  rest:∀k,i≤k→lenOf os k=0
  rng:∀x∈ls,1≤x∧x≤most
  top:∀x∈os,x≤most
  full:fullN ls+fullN os=32768
  cnt:ls.length=(us.drop i).count true
theorem lenOf_rep(n k:Nat):lenOf (List.replicate n 0) k=0:=by
  rw[lenOf,List.getD_eq_getElem?_getD,List.getElem?_replicate];split<;>rfl
theorem Deal.start{most:Nat}{us:List Bool}{ls:List Nat}(h:Leaves most ls)(hn:ls.length=us.count true):Deal most us 0 ls (List.replicate us.length 0):=by
  refine⟨by simp,fun k hk=>by omega,fun k _=>lenOf_rep _ _,h.rng,fun x hx=>?_,?_,by rw[List.drop_zero];exact hn⟩
  · rw[(List.mem_replicate.1 hx).2];omega
  · have:fullN (List.replicate us.length 0)=us.length*wt 0:=by
      have:=fullN_all (x:=0) (l:=List.replicate us.length 0) fun y hy=>(List.mem_replicate.1 hy).2
      rw[this,List.length_replicate]
    rw[this,h.full];rfl
theorem Gp{α:Type}{l:List α}{i:Nat}{d:α}(h:i<l.length):l.getD i d=l[i]:=by rw[List.getD_eq_getElem?_getD,List.getElem?_eq_getElem h];rfl
theorem Deal.skip{most i:Nat}{us:List Bool}{ls os:List Nat}(h:Deal most us i ls os)(hi:i<us.length)(hu:us[i]=false):Deal most us (i+1) ls os:=by
  refine⟨h.len,fun k hk=>?_,fun k hk=>h.rest k (by omega),h.rng,h.top,h.full,?_⟩
  · rcases Nat.lt_succ_iff_lt_or_eq.1 hk with h1|h1
    · exact h.past k h1
    · subst h1
      rw[h.rest k (Nat.le_refl _),Gp hi,hu];simp
  · rw[h.cnt,List.drop_eq_getElem_cons hi,hu];simp
theorem lenOf_set{os:List Nat}{i x:Nat}(hi:i<os.length)(k:Nat):lenOf (os.set i x) k=if k=i then x else lenOf os k:=by
  rw[lenOf,lenOf,List.getD_eq_getElem?_getD,List.getD_eq_getElem?_getD,List.getElem?_set]
  by_cases h:i=k
  · subst h;rw[if_pos rfl,if_pos hi,if_pos rfl];rfl
  · rw[if_neg h,if_neg (fun e=>h e.symm)]
theorem Deal.take{most i j:Nat}{us:List Bool}{ls os:List Nat}(h:Deal most us i ls os)(hi:i<us.length)(hu:us[i]=true)(hj:j<ls.length):Deal most us (i+1) (ls.take j++ls.drop (j+1)) (os.set i ls[j]):=by
  have hl:i<os.length:=by rw[h.len];exact hi
  obtain⟨r1,r2⟩:=h.rng _ (List.getElem_mem hj)
  refine⟨by rw[List.length_set];exact h.len,fun k hk=>?_,fun k hk=>?_,fun x hx=>?_,fun x hx=>?_,?_,?_⟩
  · rw[lenOf_set hl]
    split
    · rename_i e;subst e
      rw[Gp hi,hu]
      exact⟨fun _=>rfl,fun _=>by omega⟩
    · exact h.past k (by omega)
  · rw[lenOf_set hl,if_neg (by omega)];exact h.rest k (by omega)
  · rcases List.mem_append.1 hx with h1|h1
    · exact h.rng x (List.mem_of_mem_take h1)
    · exact h.rng x (List.mem_of_mem_drop h1)
  · rcases mem_set_or hx with h1|h1
    · exact h.top x h1
    · omega
  · have h1:=fullN_erase hj
    have h2:=fullN_set ls[j] hl
    have h3:os[i]=0:=by rw[←Bp hl];exact h.rest i (Nat.le_refl _)
    have h4:=h.full
    rw[h3,show wt 0=0 from rfl]at h2
    omega
  · have h1:=h.cnt
    rw[List.drop_eq_getElem_cons hi,hu,List.count_cons_self]at h1
    rw[List.length_append,List.length_take,List.length_drop];omega
theorem Deal.done{most:Nat}{us:List Bool}{ls os:List Nat}(h:Deal most us us.length ls os):LensOk us most os:=by
  have h0:ls=[]:=List.eq_nil_of_length_eq_zero (by rw[h.cnt];simp)
  have h1:=h.full
  rw[h0,fullN_nil]at h1
  exact⟨h.len,h.past,h.top,by omega⟩
theorem dist_lt{i j L:Nat}(hi:i<L)(hj:j<L)(hne:i≠j):(j+L-(i+1)%L)%L<(j+L-i)%L:=by
  rcases Nat.lt_or_ge (i+1) L with h|h
  · rw[Nat.mod_eq_of_lt h]
    rcases Nat.lt_or_ge i j with h1|h1
    · rw[show j+L-(i+1)=(j-(i+1))+L by omega,show j+L-i=(j-i)+L by omega,Nat.add_mod_right,Nat.add_mod_right,Nat.mod_eq_of_lt (by omega),Nat.mod_eq_of_lt (by omega)];omega
    · rw[Nat.mod_eq_of_lt (show j+L-(i+1)<L by omega),Nat.mod_eq_of_lt (show j+L-i<L by omega)];omega
  · have e:i+1=L:=by omega
    rw[e,Nat.mod_self,Nat.sub_zero,Nat.add_mod_right,Nat.mod_eq_of_lt hj,Nat.mod_eq_of_lt (show j+L-i<L by omega)];omega
theorem count_step{us:List Bool}{i:Nat}(h:i<us.length):(us.take (i+1)).count true=(us.take i).count true+(if us[i]=true then 1 else 0):=by
  rw[List.take_add_one,List.getElem?_eq_getElem h,List.count_append]
  cases us[i]<;>simp
set_option maxHeartbeats 1000000
def boolsV(us:List Bool):List Value:=us.map fun b=>Value.bool b
theorem Gj(us:List Bool):(boolsV us).length=us.length:=by simp[boolsV]
theorem boolsV_get{us:List Bool}{i:Nat}(h:i<us.length):(boolsV us)[i*1]? =some (.bool us[i]):=by rw[Nat.mul_one,boolsV,List.getElem?_map,List.getElem?_eq_getElem h];rfl
theorem ints_set{ls:List Nat}{i x:Nat}(cs:List Value)(h:i<ls.length):(intsV ls++cs).set (i*1) (.int .i64 ((x:Nat):Int))=intsV (ls.set i x)++cs:=by
  rw[Nat.mul_one,List.set_append_left _ _ (by rw[Db];exact h)]
  congr 1
  unfold intsV
  rw[List.map_set]
theorem ints_set_get{ls:List Nat}{i x:Nat}(cs:List Value)(h:i<ls.length):(intsV (ls.set i x)++cs)[i*1]? =some (.int .i64 ((x:Nat):Int)):=by
  rw[←ints_set cs h,List.getElem?_set,if_pos rfl,if_pos (by rw[List.length_append,Db];omega)]
theorem Sl.mkI{b o c n:Nat}{xs:List Nat}{cs:List Value}(hn:n=xs.length)(h:n+cs.length=c)(hc:c≤9223372036854775807):Sl 1 (.slice (some ⟨b,o,none⟩) n c) xs.length (intsV xs) [⟨b,o,intsV xs++cs⟩]:=by
  subst hn
  exact⟨by rw[Db,Nat.mul_one],.inr ⟨b,o,c,_,rfl,rfl,by rw[List.length_append,Db,Nat.mul_one,h],by omega,hc,by rw[Nat.mul_one];exact List.take_left' (Db xs)⟩⟩
theorem Sl.ints1{v:Value}{xs:List Nat}{Lf:Frags}(h:Sl 1 v xs.length (intsV xs) Lf)(hm:0<xs.length):∃b o c cs,v=.slice (some ⟨b,o,none⟩) xs.length c∧Lf=[⟨b,o,intsV xs++cs⟩]∧xs.length+cs.length=c∧c≤9223372036854775807:=by
  obtain⟨b,o,c,cs,rfl,rfl,h1,h2,h3,h4⟩:=h.one hm
  rw[Nat.mul_one]at h4 h1
  exact⟨b,o,c,cs.drop xs.length,rfl,by rw[←h4,List.take_append_drop],by rw[List.length_drop];omega,h3⟩
def LvAt(v:Value)(ls:List Nat)(g:Frag):Prop:=(ls=[]∧∃a c,v=.slice a 0 c)∨∃b o c cs,v=.slice (some ⟨b,o,none⟩) ls.length c∧g=⟨b,o,intsV ls++cs⟩∧ls.length+cs.length=c∧c≤9223372036854775807
theorem lv_of{v:Value}{ls:List Nat}{Lf:Frags}(h:Sl 1 v ls.length (intsV ls) Lf)(x:Frag):∃g F,LvAt v ls g∧Lf++[x]=g::F:=by
  by_cases h0:0<ls.length
  · obtain⟨b,o,c,cs,rfl,rfl,h1,h2⟩:=h.ints1 h0
    exact⟨_,[x],.inr ⟨b,o,c,cs,rfl,rfl,h1,h2⟩,rfl⟩
  · have e:ls=[]:=List.eq_nil_of_length_eq_zero (by omega)
    subst e
    rcases h.2 with⟨rfl,_,rfl⟩|⟨b,o,c,cs,rfl,rfl,h1,h2,h3,_⟩
    · exact⟨x,[],.inl ⟨rfl,_,_,rfl⟩,rfl⟩
    · exact⟨_,[x],.inl ⟨rfl,_,_,rfl⟩,rfl⟩
section
variable {P:Program}{n:Nat}{env:Env}{ty:TypeId}
theorem S.slHM{t e s:TypeId}{x y z:Operand}{b o l c hi mx:Nat}{k k':IntKind}(hx:ev? env x=some (.slice (some ⟨b,o,none⟩) l c))(hy:ev? env y=some (.int k (hi:Int)))(hz:ev? env z=some (.int k' (mx:Int)))
    (h1:hi≤mx)(h2:mx≤c)(ht:P.underlying t=some (.slice e))(hs:∀w,(sizeOf e).run P w=.ok s w):
    OpP P n (.slice t x none (some y) (some z)) ty env (.slice (some ⟨b,o,none⟩) hi mx):=by
  intro ac w hf
  simp only[exop,execOp,hf.eval hx,Option.map_some,Option.map_none,hf.eval hy,hf.eval hz]
  have he:P.elem t=e:=by simp[Program.elem,ht]
  have ht':P.underlying t=some (.slice (P.elem t)):=by rw[he];exact ht
  rw[show(do pure (Next.value (←Instr.sliceAt t (.slice (some ⟨b,o,none⟩) l c) none (some (.int k (hi:Int))) (some (.int k' (mx:Int))))):Sem Next).run P w=_ from by
    rw[Sem.run_bind,run_sliceAt_slice (P:=P) w t _ _ _ _ ht',run_slice_hm (P:=P) w t (some ⟨b,o,none⟩) l c ht' k k' hi mx (by omega) (by omega) (by omega)]]
  have:part o 0 mx s=o:=by unfold part;split<;>simp
  simp[he,hs,sliced_eq,this]
end
theorem rd_tail{K:Known}{L:Frags}{b o c j p:Nat}{ls:List Nat}{cs:List Value}(hm:(⟨b,o+p,intsV (ls.drop j)++cs⟩:Frag)∈L)(hp:p=j)(hj:j<ls.length)(hc:ls.length+cs.length=c)(hne:ls.drop (j+1)≠[]):Reads K L b (part o (j+1) c 1) (intsV (ls.drop (j+1))):=by
  subst hp
  have h1:(ls.drop (p+1)).length≠0:=fun h=>hne (List.eq_nil_of_length_eq_zero h)
  rw[List.length_drop]at h1
  have e:part o (p+1) c 1=o+p+1:=by unfold part;rw[if_neg (by omega)];omega
  rw[e]
  refine Reads.mem (k:=1) hm ?_
  rw[List.drop_eq_getElem_cons hj]
  show((intsV (ls.drop (p+1))++cs)).take _=_
  exact List.take_left' rfl
theorem ints_split(ls:List Nat)(j:Nat)(cs:List Value):intsV ls++cs=intsV (ls.take j)++(intsV (ls.drop j)++cs):=by
  rw[←List.append_assoc,←intsV_append,List.take_append_drop]
theorem ints_rep(n:Nat):intsV (List.replicate n 0)=List.replicate n (Value.int .i64 0):=by simp[intsV]
theorem Leaves.deal{most:Nat}{us:List Bool}{ls:List Nat}(h:Leaves most ls)(hn:ls.length=us.count true):Deal most us 0 ls (List.replicate us.length 0):=Deal.start h hn
section
variable {P:Program}{K:Known}{n:Nat}{env:Env}{ty:TypeId}{L:Frags}
theorem OpX.sameL{op:Op}{L2:Frags}{R:Value→Frags→Prop}(s:Same L L2)(h:OpX P K n op ty env L2 R):OpX P K n op ty env L R:=by
  intro a w hf hw
  refine out_mono ?_ (h a w hf ((s.agree K w.heap).1 hw))
  rintro v w'⟨L',r,t⟩
  exact⟨L',r,t.sameL s⟩
theorem D.lose{ops:Array Oper}{ds:List Nat}{p:Plan}{A F:Frags}{N:Post}(s:Same L (A++F))(h:wpD P K n ops ds p env A N):wpD P K n ops ds p env L N:=by
  refine D.same s ?_
  intro fuel listed l h0 h00 h1 h2 a w hf hw Nw k
  exact h fuel listed l h0 h00 h1 h2 a w hf hw.drop Nw fun e l a' w' h f t=>k e l a' w' h f (To.frame hw t).drop
end
theorem lens_walk{K:Known}(cb:Nat)(na:Option Addr)(nn nc:Nat)(hZ:SzA K (.slice na nn nc))(at_:Nat)(hat:at_≤1099511627776)(ub uo uc:Nat)(us:List Bool)(most n:Nat)(hul:us.length≤300)(hn:us.count true=n)(hn2:2≤n)(hnm:n≤2^most)(h1:1≤most)(h15:most≤15):Fn Tryz.prog K 63 #[.pointer (some ⟨cb,0,none⟩),.slice (some ⟨ub,uo,none⟩) us.length uc,.int .i64 ((most:Nat):Int)] ([⟨cb,0,[.slice na nn nc,.int .i64 (((at_):Nat):Int)]⟩,⟨ub,uo,boolsV us⟩]) (fun r L=>∃L2 J,Same L (L2++J)∧∃ob os at2,r=.slice (some ⟨ob,0,none⟩) us.length us.length∧LensOk us most os∧at2≤at_+700∧LensD K na nn us most at_ os at2∧L2=[⟨ob,0,intsV os⟩,⟨cb,0,[.slice na nn nc,.int .i64 (((at2):Nat):Int)]⟩,⟨ub,uo,boolsV us⟩]):=by
 refine Fn.intro (args:=[.pointer (some ⟨cb,0,none⟩),.slice (some ⟨ub,uo,none⟩) us.length uc,.int .i64 ((most:Nat):Int)]) (RR:=Ret1 6 _) Tryz.func63 rfl rfl Tryz.ntmps63 (res1 Tryz.results63) ?_
 refine Bi (env2:=[(0,.pointer (some ⟨cb,0,none⟩)),(1,.slice (some ⟨ub,uo,none⟩) us.length uc),(2,.int .i64 ((most:Nat):Int))]) U<|Cr ?_
 have hnl:n≤us.length:=by rw[←hn];exact List.count_le_length
 refine Ea U U<|Ek4 0 1 2 6 U<|Cr<|Ea U U<|Ek5 0 1 2 6 7 U<|Am<|Cr<|Em U U<|Aa (Bc U Tu108) U<|Em U U<|Ek8 0 1 2 6 7 16 17 18 U<|As ?_
 refine Bw (fun mm ee ll=>∃(i:Nat),keeps ee [0,1,2,7,16,17,18]=some [(0,.pointer (some ⟨cb,0,none⟩)),(1,.slice (some ⟨ub,uo,none⟩) us.length uc),(2,.int .i64 ((most:Nat):Int)),(7,.int .i64 (((us.take i).count true:Nat):Int)),(16,.slice (some ⟨ub,uo,none⟩) us.length uc),(17,.int .i64 ((us.length:Nat):Int)),(18,.int .i64 ((i:Nat):Int))]∧ll=[⟨cb,0,[.slice na nn nc,.int .i64 (((at_):Nat):Int)]⟩,⟨ub,uo,boolsV us⟩]∧(i≤us.length)∧mm=us.length-i) (_) ⟨0,rfl,rfl,by omega,rfl⟩ ?_
 rintro m0 _ _⟨i,hk0,rfl,hi,hm0⟩
 refine Av _ hk0<|Cr<|Aa (Dl U U) U<|Ek8 0 1 2 7 16 17 18 19 U<|Am<|Bf U (fun h19=>?_) (fun h19=>?_)
 ·have hi2:i<us.length:=by omega
  have hcs:=count_step hi2
  have hget:=boolsV_get hi2
  have hct:(us.take i).count true≤i:=Nat.le_trans List.count_le_length (by rw[List.length_take];omega)
  refine Ap<|Du (M:=fun ee ll=>∃(m:Nat),keeps ee [0,1,2,7,16,17,18]=some [(0,.pointer (some ⟨cb,0,none⟩)),(1,.slice (some ⟨ub,uo,none⟩) us.length uc),(2,.int .i64 ((most:Nat):Int)),(7,.int .i64 ((m:Nat):Int)),(16,.slice (some ⟨ub,uo,none⟩) us.length uc),(17,.int .i64 ((us.length:Nat):Int)),(18,.int .i64 ((i:Nat):Int))]∧ll=[⟨cb,0,[.slice na nn nc,.int .i64 (((at_):Nat):Int)]⟩,⟨ub,uo,boolsV us⟩]∧(m=(us.take (i+1)).count true)) ?_ ?_
  ·refine As<|Cr<|Aa (Bm U U (by omega) Tu108 Tz4) U<|Ag (Aj 1 (k:=i*1) U U hget Ta4) U<|Ea U U<|Ek9 0 1 2 7 9 16 17 18 19 U<|Cr<|Em U U<|Ek10 0 1 2 7 9 16 17 18 19 22 U<|Eg U (fun h22=>?_) (fun h22=>?_)
   ·refine Al<|Em U U<|Aa (Bl (b:=((1:Nat):Int)) U U (N.add64 (by omega))) U<|Ea U U<|Ek10 0 1 2 7 9 16 17 18 19 22 U ?_
    exact⟨_,rfl,rfl,by rw[hcs,if_pos h22]⟩
   refine Ap ?_
   exact⟨_,rfl,rfl,by rw[hcs,if_neg (by rw[h22];decide)];rfl⟩
  rintro _ _⟨m,hq7,rfl,hm⟩
  refine Av _ hq7 ?_
  subst hm
  refine Al<|Aa (Bl (b:=((1:Nat):Int)) U U (N.add64 (by omega))) U<|Em U U<|Ek7 0 1 2 7 16 17 18 U ?_
  refine⟨_,?_,i+1,rfl,rfl,by omega,rfl⟩;omega
 have hi2:i=us.length:=by omega
 subst hi2
 rw[List.take_length,hn]
 refine Bu U<|Cr ?_
 refine Ai (Bn (vs:=[.int .i64 1,.int .i64 1]) (e:=3) [(0,.int .i64 1),(1,.int .i64 1)] U (fun w=>by simp[Instr.buildSlice,Instr.fill,Value.cells,newRow,Tryz.runUnderlying23,Tryz.typeInfo3];rw[arr2])) U ?_;rintro _ _⟨lb,rfl,rfl⟩;refine Er3 U ?_
 refine Ea U U<|Ek9 0 1 2 7 10 16 17 18 19 U<|Am<|As<|Bw (fun mm ee ll=>∃(ls:List Nat),∃(lb:Nat),∃(lo:Nat),∃(lc:Nat),∃(lcs:List Value),∃(at2:Nat),keeps ee [0,1,2,7,10]=some [(0,.pointer (some ⟨cb,0,none⟩)),(1,.slice (some ⟨ub,uo,none⟩) us.length uc),(2,.int .i64 ((most:Nat):Int)),(7,.int .i64 ((n:Nat):Int)),(10,.slice (some ⟨lb,lo,none⟩) ls.length lc)]∧ll=[⟨lb,lo,intsV ls++lcs⟩,⟨cb,0,[.slice na nn nc,.int .i64 (((at2):Nat):Int)]⟩,⟨ub,uo,boolsV us⟩]∧(Leaves most ls)∧(ls.length≤n)∧(ls.length+lcs.length=lc)∧(lc≤9223372036854775807)∧(at2≤at_+ls.length)∧(Star (SplitS K na nn most n) ([1,1],at_) (ls,at2))∧mm=n-ls.length) (_) ⟨[1,1],lb,0,2,[],at_,rfl,rfl,Leaves.start h1,hn2,rfl,by decide,by omega,Star.refl _,rfl⟩ ?_
 rintro m1 _ _⟨ls,lb,lo,lc,lcs,at2,hk1,rfl,hL,hln,hlc,hcm,hat2,hSt,hm1⟩
 refine Av _ hk1<|Am<|Cr<|Em U U<|Aa (Bc U Tu23) U<|Em U U<|Aa (Dl U U) U<|Ek6 0 1 2 7 10 30 U<|Bf U (fun h30=>?_) (fun h30=>?_)
 ·obtain⟨j,hj,hjm⟩:=hL.some h1 h15 (by omega)
  have hL2:=hL.two
  refine Ap<|As<|Cr<|Em U U<|Em U U<|Aa (Bc U Tu23) U ?_
  refine Ai (OpX.pick [1] (F:=[_,_]) U (Ar U Tryz.call62 (Ho cb na nn nc hZ at2 ls.length (by omega) (by omega) (by omega)))) U ?_;rintro _ _⟨_,⟨i0,at3,rfl,hi0,hat3,hNat3,rfl⟩,rfl⟩;refine Er3 U ?_
  refine Dd [1,0,0] U<|Er3 U<|Ea U U<|Ek7 0 1 2 7 10 11 30 U<|Am<|As<|Bw (fun mm ee ll=>∃(i:Nat),keeps ee [0,1,2,7,10,11]=some [(0,.pointer (some ⟨cb,0,none⟩)),(1,.slice (some ⟨ub,uo,none⟩) us.length uc),(2,.int .i64 ((most:Nat):Int)),(7,.int .i64 ((n:Nat):Int)),(10,.slice (some ⟨lb,lo,none⟩) ls.length lc),(11,.int .i64 ((i:Nat):Int))]∧ll=[⟨lb,lo,intsV ls++lcs⟩,⟨cb,0,[.slice na nn nc,.int .i64 (((at3):Nat):Int)]⟩,⟨ub,uo,boolsV us⟩]∧(i<ls.length)∧(∃k,i=(i0+k)%ls.length∧∀q,q<k→ls.getD ((i0+q)%ls.length) 0=most)∧mm=(j+ls.length-i)%ls.length) (_) ⟨i0,rfl,rfl,hi0,⟨0,(Nat.mod_eq_of_lt hi0).symm,fun _ h=>absurd h (Nat.not_lt_zero _)⟩,rfl⟩ ?_
  rintro m2 _ _⟨i,hk2,rfl,hi,hsk,hm2⟩
  refine Av _ hk2<|Am<|Cr<|Em U U<|Em U U<|Aa (Bm U U (by omega) Tu23 Tz3) U<|Ag (Aj 0 (k:=i*1) U U (Ej hi) Ta3) U<|Em U U<|Aa (Ef U U) U<|Ek7 0 1 2 7 10 11 40 U<|Bf U (fun h40=>?_) (fun h40=>?_)
  ·have hne:i≠j:=by rintro rfl;omega
   have hgi:ls.getD i 0=ls[i]:=Gp hi
   refine Ap<|As<|Al<|Em U U<|Aa (Bl (b:=((1:Nat):Int)) U U (N.add64 (by omega))) U<|Em U U<|Aa (Bc U Tu23) U<|Aa (S.rem (a:=((i+1:Nat):Int)) (b:=((ls.length:Nat):Int)) (r:=(((i+1)%ls.length:Nat):Int)) U U (by omega) (by rw[←Int.ofNat_tmod])) U<|Ea U U<|Ek7 0 1 2 7 10 11 40 U ?_
   refine⟨_,?_,(i+1)%ls.length,rfl,rfl,Nat.mod_lt _ (by omega),(seek_next hsk (by rw[hgi];omega)),rfl⟩;(rw[hm2];exact dist_lt hi hj hne)
  have hgi:ls.getD i 0=ls[i]:=Gp hi
  have hsk2:Seek ls most i0 i:=by obtain⟨k,e,h⟩:=hsk;exact⟨k,e,by rw[hgi];omega,h⟩
  have hxm:ls[i]<most:=by have:=(hL.rng _ (List.getElem_mem hi)).2;omega
  refine Bu U<|Cr<|Em U U<|Em U U<|Aa (Bm U U (by omega) Tu23 Tz3) U<|Ag (Aj 0 (k:=i*1) U U (Ej hi) Ta3) U<|Aa (Bl (b:=((1:Nat):Int)) U U (N.add64 (by omega))) U<|Aa (Bm U U (by omega) Tu23 Tz3) U ?_
  refine Ao (Aq 0 (k:=i*1) U U U U (by rw[Nat.blt_eq,List.length_append,Db];omega) Tz3) ?_
  rintro _ _⟨rfl,rfl⟩
  refine Ax (L2:=[⟨lb,lo,intsV (ls.set i (ls[i]+1))++lcs⟩,_,_]) (by show [(⟨lb,lo,(intsV ls++lcs).set _ _⟩:Frag),_,_]=_;rw[ints_set lcs hi]) ?_
  refine Ek7 0 1 2 7 10 11 40 U<|Al<|Em U U<|Em U U<|Em U U<|Aa (Bm U U (by omega) Tu23 Tz3) U<|Ag (Aj 0 (k:=i*1) U U (ints_set_get lcs hi) Ta3) U ?_
  refine Ai (Bn (vs:=[.int .i64 ((ls[i]+1:Nat):Int)]) (e:=3) [(0,.int .i64 ((ls[i]+1:Nat):Int))] U (fun w=>by simp[Instr.buildSlice,Instr.fill,Value.cells,newRow,Tryz.runUnderlying23,Tryz.typeInfo3];rw[arr1])) U ?_
  rintro _ _⟨yb,rfl,rfl⟩
  refine Dd [1,0,0,0] (A:=[_,_,_,_]) (F:=[]) U<|Ax (L2:=[⟨lb,lo,intsV (ls.set i (ls[i]+1))++lcs⟩]++[⟨yb,0,_⟩,_,_]) U ?_
  refine Ai (Fu (xs:=(ls.set i (ls[i]+1))) (ys:=[ls[i]+1]) U U (Sl.mkI (n:=ls.length) (by rw[List.length_set]) hlc hcm) U (.inr ⟨yb,0,rfl,Reads.mem (k:=0) (.tail _ (.head _)) U⟩) (by rw[List.length_set];simp only[List.length_cons,List.length_nil];omega)) U ?_
  rintro v4 _⟨Lf2,hsl2,rfl⟩
  obtain⟨lb2,lo2,lc2,lcs2,rfl,rfl,hlc2,hcm2⟩:=hsl2.ints1 (by rw[List.length_append];simp)
  refine Ds [0,1,1] (A:=[_,_,_]) U<|Ea U U<|Ek7 0 1 2 7 10 11 40 U ?_
  refine⟨_,?_,(ls.set i (ls[i]+1))++[ls[i]+1],lb2,lo2,lc2,lcs2,at3,rfl,rfl,hL.split h15 hi hxm,(by rw[List.length_append,List.length_set];simp only[List.length_cons,List.length_nil];omega),hlc2,hcm2,(by rw[List.length_append,List.length_set];simp only[List.length_cons,List.length_nil];omega),(hSt.snoc ⟨(by show ls.length<n;omega),i0,i,hNat3,hsk2,(by show _=_;rw[hgi])⟩),rfl⟩;(rw[List.length_append,List.length_set];simp only[List.length_cons,List.length_nil];omega)
 have hlen:ls.length=n:=by omega
 refine Bu U<|Cr<|Em U U<|Aa (Bc U Tu108) U ?_
 refine Ai (Hx (l:=us.length) (c:=us.length) (bytes:=8) Tu23 infoI (z:=.int .i64 0) U U U U U U (Nat.le_refl _) (by omega) (by omega)) U ?_;rintro _ _⟨ob,rfl,rfl⟩;refine Er4 U ?_
 refine Ea U U<|Ek7 0 1 2 7 10 12 30 U<|Am<|Cr<|Em U U<|Aa (Bc U Tu108) U<|Em U U<|Ek10 0 1 2 7 10 12 30 62 63 64 U<|As<|Bw (fun mm ee ll=>∃(i:Nat),∃(ls2:List Nat),∃(os:List Nat),∃(lv:Value),∃(lg:Frag),∃(at4:Nat),keeps ee [0,1,10,12,62,63,64]=some [(0,.pointer (some ⟨cb,0,none⟩)),(1,.slice (some ⟨ub,uo,none⟩) us.length uc),(10,lv),(12,.slice (some ⟨ob,0,none⟩) us.length us.length),(62,.slice (some ⟨ub,uo,none⟩) us.length uc),(63,.int .i64 ((us.length:Nat):Int)),(64,.int .i64 ((i:Nat):Int))]∧ll=[⟨ob,0,intsV os⟩,lg,⟨cb,0,[.slice na nn nc,.int .i64 (((at4):Nat):Int)]⟩,⟨ub,uo,boolsV us⟩]∧(i≤us.length)∧(Deal most us i ls2 os)∧(LvAt lv ls2 lg)∧(at4≤at_+n+i)∧(Star (DealS K na nn us) (0,ls,List.replicate us.length 0,at2) (i,ls2,os,at4))∧mm=us.length-i) (_) ⟨0,ls,List.replicate us.length 0,_,_,at2,rfl,(by rw[ints_rep]),Nat.zero_le _,(hL.deal (hlen.trans hn.symm)),(Or.inr ⟨lb,lo,lc,lcs,rfl,rfl,hlc,hcm⟩),by omega,Star.refl _,rfl⟩ ?_
 rintro m3 _ _⟨i,ls2,os,lv,lg,at4,hk3,rfl,hi,hD,hLv,hat4,hSd,hm3⟩
 refine Av _ hk3<|Cr<|Aa (Dl U U) U<|Ek8 0 1 10 12 62 63 64 65 U<|Am<|Bf U (fun h65=>?_) (fun h65=>?_)
 ·have hi2:i<us.length:=by omega
  have hget:=boolsV_get hi2
  have hol:=hD.len
  have hgu:us.getD i false=us[i]:=Gp hi2
  refine Ap<|Du (M:=fun ee ll=>∃(ls3:List Nat),∃(os3:List Nat),∃(lv3:Value),∃(lg3:Frag),∃(at5:Nat),keeps ee [0,1,10,12,62,63,64]=some [(0,.pointer (some ⟨cb,0,none⟩)),(1,.slice (some ⟨ub,uo,none⟩) us.length uc),(10,lv3),(12,.slice (some ⟨ob,0,none⟩) us.length us.length),(62,.slice (some ⟨ub,uo,none⟩) us.length uc),(63,.int .i64 ((us.length:Nat):Int)),(64,.int .i64 ((i:Nat):Int))]∧ll=[⟨ob,0,intsV os3⟩,lg3,⟨cb,0,[.slice na nn nc,.int .i64 (((at5):Nat):Int)]⟩,⟨ub,uo,boolsV us⟩]∧(Deal most us (i+1) ls3 os3)∧(LvAt lv3 ls3 lg3)∧(at5≤at_+n+(i+1))∧(Star (DealS K na nn us) (0,ls,List.replicate us.length 0,at2) (i+1,ls3,os3,at5))) ?_ ?_
  ·refine As<|Cr<|Em U U<|Aa (Bm U U (by omega) Tu108 Tz4) U<|Ag (Aj 3 (k:=i*1) U U hget Ta4) U<|Ea U U<|Ea U U<|Ek10 0 1 10 12 13 14 62 63 64 65 U<|Cr<|Em U U<|Ek11 0 1 10 12 13 14 62 63 64 65 69 U<|Eg U (fun h69=>?_) (fun h69=>?_)
   ·have hpos:0<ls2.length:=by rw[hD.cnt,List.drop_eq_getElem_cons hi2,h69];simp
    have hlt2:ls2.length≤us.length:=by rw[hD.cnt];exact Nat.le_trans List.count_le_length (by rw[List.length_drop];omega)
    obtain⟨b,o,c,cs,rfl,rfl,hlc2,hcm2⟩:=hLv.resolve_left (fun h=>by rw[h.1]at hpos;simp at hpos)
    refine Cr<|Em U U<|Em U U<|Aa (Bc U Tu23) U ?_
    refine Ai (OpX.pick [2] (F:=[_,_,_]) U (Ar U Tryz.call62 (Ho cb na nn nc hZ at4 ls2.length (by omega) (by omega) (by omega)))) U ?_;rintro _ _⟨_,⟨j,at6,rfl,hj,hat6,hNat6,rfl⟩,rfl⟩;refine Er4 U ?_
    refine Dd [1,1,0,0] U<|Er4 U<|Ea U U<|Ek12 0 1 10 12 13 14 15 62 63 64 65 69 U<|Cr<|Em U U<|Em U U<|Em U U<|Em U U<|Aa (Bm U U (by omega) Tu23 Tz3) U<|Ag (Aj 1 (k:=j*1) U U (Ej hj) Ta3) U<|Aa (Bm U U (by omega) Tu23 Tz3) U ?_
    refine Ao (Aq 0 (k:=i*1) U U U U (by rw[Nat.blt_eq,Db];omega) Tz3) ?_
    rintro _ _⟨rfl,rfl⟩
    refine Ax (L2:=[⟨ob,0,intsV (os.set i ls2[j])⟩,_,_,_]) (by show [(⟨ob,0,(intsV os).set _ _⟩:Frag),_,_,_]=_;rw[←List.append_nil (intsV os),ints_set [] (by omega),List.append_nil]) ?_
    refine Ek12 0 1 10 12 13 14 15 62 63 64 65 69 U<|Bt [0,0,0,7,0,0,32,80,136,511] (.pure 0 246 (.pure 1 245 (.pure 2 243 (.pure 3 247 (.pure 4 111 (.pure 5 31 (.pure 6 63 (.pure 7 127 (.alt 8 (.pure 9 511 .done) .stop))))))))) mixed (by decide+kernel)<|Dm U U U<|Dm U U U<|Dm U U U<|Ah U (S.slHM U U U (Nat.le_refl _) (by omega) Tu23 Tz3) U<|Dm U U U<|Dm U U U<|Ah U (Bl (b:=((1:Nat):Int)) U U (N.add64 (by omega))) U<|Ah U (S.slL U U (by omega) Tu23 Tz3) U<|By ?_
    refine Bo U (OpX.perm (L2:=⟨b,o,intsV ls2++cs⟩::[_,_,_]) (Br (is:=[1,0,0,0]) (A:=[_,_,_,_]) (F:=[]) U) (OpX.sameL (Same.trans (Same.of_eq (by rw[ints_split ls2 j])) (Same.split b o _ _ _)) (Fu (L:=_::[_,_,_]) (xs:=ls2.take j) (ys:=ls2.drop (j+1)) U U (Lf:=[⟨b,o,intsV (ls2.take j)⟩]) (by have:=Sl.mkI (b:=b) (o:=o) (n:=j) (c:=j) (xs:=ls2.take j) (cs:=[]) (by rw[List.length_take];omega) U (by omega);rwa [List.append_nil]at this) (by rw[List.length_drop]) (by by_cases hne:ls2.drop (j+1)=[];exact .inl hne;exact .inr ⟨b,_,rfl,rd_tail (.tail _ (.head _)) (by rw[Db,List.length_take];omega) hj hlc2 hne⟩) (by rw[List.length_take,List.length_drop];omega)))) U ?_
    rintro lv3 _⟨Lf2,hsl3,rfl⟩
    obtain⟨g3,F3,hlv,hgf⟩:=lv_of hsl3 ⟨b,o+(intsV (ls2.take j)).length,intsV (ls2.drop j)++cs⟩
    refine D.lose (A:=[⟨ob,0,intsV (os.set i ls2[j])⟩,g3,⟨cb,0,[.slice na nn nc,.int .i64 (((at6):Nat):Int)]⟩,⟨ub,uo,boolsV us⟩]) (F:=F3) (Same.trans (Same.of_eq (show _=(g3::F3)++[_,_,_] by rw[←hgf,List.append_assoc];rfl)) (Same.perm (permF fun x=>by simp only[List.append_eq,List.count_append,List.count_cons,List.count_nil];omega))) ?_
    refine Ah U (Az U) U<|Dk12 0 1 10 12 13 14 15 62 63 64 65 69 U ?_
    exact⟨_,_,_,_,at6,rfl,rfl,hD.take hi2 h69 hj,hlv,by omega,(hSd.snoc ⟨hi2,rfl,.inr ⟨hgu.trans h69,j,hNat6,rfl,(by show _=_;rw[Gp hj])⟩⟩)⟩
   refine Ap ?_
   exact⟨_,_,_,_,at4,rfl,rfl,hD.skip hi2 h69,hLv,by omega,(hSd.snoc ⟨hi2,rfl,.inl ⟨hgu.trans h69,rfl⟩⟩)⟩
  rintro _ _⟨ls3,os3,lv3,lg3,at5,hq23,rfl,hD3,hLv3,hat5,hSd3⟩
  refine Av _ hq23<|Al<|Aa (Bl (b:=((1:Nat):Int)) U U (N.add64 (by omega))) U<|Em U U<|Ek7 0 1 10 12 62 63 64 U ?_
  refine⟨_,?_,i+1,ls3,os3,lv3,lg3,at5,rfl,rfl,by omega,hD3,hLv3,hat5,hSd3,rfl⟩;omega
 have hi2:i=us.length:=by omega
 subst hi2
 refine Bu U<|Cr<|Em U U<|Ea U U<|Ek9 0 1 6 10 12 62 63 64 65 U<|Bb ?_
 refine⟨_,rfl,[_,_,_],[_],Same.perm (Br (A:=[_,_,_]) (F:=[_]) (is:=[0,1,1]) U),ob,os,at4,rfl,hD.done,by omega,⟨ls,at2,ls2,(by rw[hn];exact hSt),by omega,hSd⟩,rfl⟩
theorem lens_spec{K:Known}(cb:Nat)(na:Option Addr)(nn nc:Nat)(hZ:SzA K (.slice na nn nc))(at_:Nat)(hat:at_≤1099511627776)(ub uo uc:Nat)(us:List Bool)(most n:Nat)(hul:us.length≤300)(hn:us.count true=n)(hn2:2≤n)(hnm:n≤2^most)(h1:1≤most)(h15:most≤15):
    Fn Tryz.prog K 63 #[.pointer (some ⟨cb,0,none⟩),.slice (some ⟨ub,uo,none⟩) us.length uc,.int .i64 ((most:Nat):Int)] [⟨cb,0,[.slice na nn nc,.int .i64 (((at_):Nat):Int)]⟩,⟨ub,uo,boolsV us⟩] fun r L=>∃ob os at2,r=.slice (some ⟨ob,0,none⟩) us.length us.length∧LensOk us most os∧at2≤at_+700∧LensD K na nn us most at_ os at2∧L=[⟨ob,0,intsV os⟩,⟨cb,0,[.slice na nn nc,.int .i64 (((at2):Nat):Int)]⟩,⟨ub,uo,boolsV us⟩]:=by
  refine Fn.lose (lens_walk cb na nn nc hZ at_ hat ub uo uc us most n hul hn hn2 hnm h1 h15) ?_
  rintro r L⟨L2,J,hS,h⟩
  exact⟨L2,J,hS,h⟩
def TabS(K:Known)(g:Nat)(l:List Nat):Prop:=∃b o c,cellAt K g 0=some (.slice (some ⟨b,o,none⟩) l.length c)∧∀i,i<l.length→cellAt K b (o+i*1)=some (.int .i64 ((l.getD i 0:Nat):Int))
structure SpT(K:Known):Prop where
  order:TabS K 7 ordL
  sizes:TabS K 3 sizesL
  more:TabS K 4 moreL
  far:TabS K 5 farL
  further:TabS K 6 furL
theorem Sl.form{s m:Nat}{v:Value}{xs:List Value}{Lf:Frags}(h:Sl s v m xs Lf):∃a c,v=.slice a m c:=by
  rcases h.2 with⟨rfl,rfl,_⟩|⟨b,o,c,cs,rfl,_⟩
  · exact⟨_,_,rfl⟩
  · exact⟨_,_,rfl⟩
set_option maxHeartbeats 1000000
set_option maxHeartbeats 1000000
abbrev TokM:=UInt8×Int×Int
def tokCells(t:TokM):List Value:=[u8 t.1,.int .i64 t.2.1,.int .i64 t.2.2]
def tkOf(t:TokM):Tk:=if t.2.1=0 then .lit t.1 else .copy t.2.1.toNat t.2.2.toNat
def TokOk(t:TokM):Prop:=t.2.1=0∨∃n d:Nat,t.2.1=(n:Int)∧t.2.2=(d:Int)∧3≤n∧n≤258∧1≤d∧d≤32768
def TokA(K:Known)(v:Value)(l:List TokM):Prop:=∃a c,v=.slice a l.length c∧(l=[]∨∃b o,a=some ⟨b,o,none⟩∧∀i (h:i<l.length),∀j u,(tokCells l[i])[j]? =some u→cellAt K b (o+i*3+j)=some u)
theorem codesF_done{lens:List Nat}{k:Nat}(h:0<lenOf lens k):codesF lens lens.length k=codeOf lens k:=if_pos ⟨Dx h,h⟩
theorem codes_get{lens:List Nat}{k:Nat}(h:0<lenOf lens k):(cellsI lens.length (codesF lens lens.length))[k*1]? =some (.int .i64 ((codeOf lens k:Nat):Int)):=by rw[Ec (Dx h),codesF_done h]
theorem lens_get{lens:List Nat}{vs:List Value}{k:Nat}(h:0<lenOf lens k):(intsV lens++vs)[k*1]? =some (.int .i64 ((lenOf lens k:Nat):Int)):=by rw[Ej (Dx h),Bp (Dx h)]
theorem code_small{lens:List Nat}{k:Nat}(hok:okLens lens)(h15:∀x∈lens,x≤15)(h:0<lenOf lens k):codeOf lens k<32768∧lenOf lens k≤15:=by
  have h1:=Hh h15 k
  have h2:=Gf (Jj hok) h
  have h3:(2:Nat)^lenOf lens k≤2^15:=Nat.pow_le_pow_right (by decide) h1
  exact⟨by omega,h1⟩
theorem moreAt_le:∀i,i<29→moreL.getD i 0≤5:=by decide
theorem furAt_le:∀i,i<30→furL.getD i 0≤13:=by decide
theorem tkPut_room{lit dist:List Nat}{s:Wr}{k:Tk}{out:List UInt8}(h1:∀x∈lit,x≤15)(h2:∀x∈dist,x≤15)(hk:tkOk out k):(tkPut lit dist s k).2≤s.2+48:=by
  cases k with
  |lit c=>have:=Hh h1 c.toNat;simp only[tkPut,wcode,wput];omega
  |copy n d=>
    obtain⟨o1,o2,o3,o4,_⟩:=hk
    have a1:=Hh h1 (257+placeL sizesL n)
    have a2:=Hh h2 (placeL farL d)
    have a3:=moreAt_le _ (place_size o1 o2).1
    have a4:=furAt_le _ (place_far o3 o4).1
    simp only[tkPut,wcode,wput];omega
theorem tks_room{lit dist:List Nat}(h1:∀x∈lit,x≤15)(h2:∀x∈dist,x≤15):∀{l:List Tk} {s:Wr} {out:List UInt8},tksOk out l→(tksPut lit dist s l).2≤s.2+48*l.length
  | [],_,_,_=>Nat.le_refl _
  |k::r,s,out,⟨ho,hr⟩=>by
    have a1:=tkPut_room (lit:=lit) (dist:=dist) (s:=s) h1 h2 ho
    have a2:=tks_room h1 h2 (l:=r) (s:=tkPut lit dist s k) hr
    rw[List.length_cons]
    show(tksPut lit dist (tkPut lit dist s k) r).2≤_
    omega
theorem tksOk_take:∀{l:List Tk} {out:List UInt8} (i:Nat),tksOk out l→tksOk out (l.take i)
  | [],_,_,_=>by rw[List.take_nil];trivial
  |k::r,_,0,_=>trivial
  |k::r,out,i+1,⟨h1,h2⟩=>⟨h1,tksOk_take (l:=r) i h2⟩
theorem tksPut_snoc(lit dist:List Nat)(s:Wr)(l:List Tk)(k:Tk):tksPut lit dist s (l++[k])=tkPut lit dist (tksPut lit dist s l) k:=by unfold tksPut;rw[List.foldl_append];rfl
theorem snocT{l:List Tk}{i:Nat}{x:Tk}(h:l[i]? =some x):l.take (i+1)=l.take i++[x]:=by rw[List.take_add_one,h];rfl
theorem tks_step{lit dist:List Nat}{s:Wr}{l:List Tk}{i:Nat}{k:Tk}(h:l[i]? =some k):tksPut lit dist s (l.take (i+1))=tkPut lit dist (tksPut lit dist s (l.take i)) k:=by rw[snocT h,tksPut_snoc]
theorem tokens_walk{K:Known}(hS:SpT K)(wb:Nat)(s:Wr)(lb lo lc db do_ dc:Nat)(ls ds:List Value)(lit dist:List Nat)(hk1:okLens lit)(hk2:okLens dist)(h15a:∀x∈lit,x≤15)(h15b:∀x∈dist,x≤15)(hl1:lit.length≤320)(hl2:dist.length≤320)(h256:0<lenOf lit 256)(tv:Value)(tl:List TokM)(hT:TokA K tv tl)(htl:tl.length≤1099511627)(hto:∀t∈tl,TokOk t)(out:List UInt8)(htk:tksOk out (tl.map tkOf))(hu:∀k∈tl.map tkOf,tkUse lit dist k)(hk:s.2≤1099511627776)(f0 g0:Frag)(hW0:WAt wb s f0 g0):Fn Tryz.prog K 43 #[.pointer (some ⟨wb,0,none⟩),tv,.slice (some ⟨lb,lo,none⟩) lit.length lc,.slice (some ⟨db,do_,none⟩) dist.length dc] ([f0,g0,⟨lb,lo,intsV lit++ls⟩,⟨db,do_,intsV dist++ds⟩]) (fun r L=>∃L2 J,Same L (L2++J)∧∃f g,r=.tuple #[]∧WAt wb (wcode (tksPut lit dist s (tl.map tkOf)) lit 256) f g∧L2=[f,g,⟨lb,lo,intsV lit++ls⟩,⟨db,do_,intsV dist++ds⟩]):=by
 refine Fn.intro (args:=[.pointer (some ⟨wb,0,none⟩),tv,.slice (some ⟨lb,lo,none⟩) lit.length lc,.slice (some ⟨db,do_,none⟩) dist.length dc]) (RR:=Ret0 _) Tryz.func43 rfl rfl Tryz.ntmps43 (res0 Tryz.results43) ?_
 refine Bi (env2:=[(0,.pointer (some ⟨wb,0,none⟩)),(1,tv),(2,.slice (some ⟨lb,lo,none⟩) lit.length lc),(3,.slice (some ⟨db,do_,none⟩) dist.length dc)]) U<|Cr ?_
 obtain⟨ta,tc,rfl,hTa⟩:=hT
 obtain⟨sb1,so1,sc1,hS1,hSc1⟩:=hS.sizes
 obtain⟨sb2,so2,sc2,hS2,hSc2⟩:=hS.more
 obtain⟨sb3,so3,sc3,hS3,hSc3⟩:=hS.far
 obtain⟨sb4,so4,sc4,hS4,hSc4⟩:=hS.further
 refine Em U U ?_
 refine Ai (OpX.pick [2] (F:=[_,_,_]) U (Ar U Tryz.call59 (codes_spec lb lo lc ls lit h15a hl1))) U ?_;rintro _ _⟨_,⟨a1,rfl,rfl⟩,rfl⟩;refine Er5 U ?_
 refine Em U U ?_
 refine Ai (OpX.pick [4] (F:=[_,_,_,_]) U (Ar U Tryz.call59 (codes_spec db do_ dc ds dist h15b hl2))) U ?_;rintro _ _⟨_,⟨a2,rfl,rfl⟩,rfl⟩;refine Er6 U ?_
 refine Ea U U<|Ea U U<|Ek6 0 1 2 3 8 9 U<|Hv [2,0,2,2,1,0] (A:=[_,_,_,_,_,_]) (F:=[]) U<|Bx (L2:=[_,_,_,_,_,_]) U<|Am<|Cr<|Em U U<|Aa (Bc U Tu71) U<|Em U U<|Ek8 0 2 3 8 9 17 18 19 U<|As ?_
 refine Bw (fun mm ee ll=>∃(i:Nat),∃(f:Frag),∃(g:Frag),keeps ee [0,2,3,8,9,17,18,19]=some [(0,.pointer (some ⟨wb,0,none⟩)),(2,.slice (some ⟨lb,lo,none⟩) lit.length lc),(3,.slice (some ⟨db,do_,none⟩) dist.length dc),(8,.slice (some ⟨a1,0,none⟩) lit.length lit.length),(9,.slice (some ⟨a2,0,none⟩) dist.length dist.length),(17,.slice ta tl.length tc),(18,.int .i64 ((tl.length:Nat):Int)),(19,.int .i64 ((i:Nat):Int))]∧ll=[⟨a1,0,cellsI lit.length (codesF lit lit.length)⟩,⟨a2,0,cellsI dist.length (codesF dist dist.length)⟩,f,g,⟨lb,lo,intsV lit++ls⟩,⟨db,do_,intsV dist++ds⟩]∧(i≤tl.length)∧(WAt wb (tksPut lit dist s ((tl.map tkOf).take i)) f g)∧mm=tl.length-i) (_) ⟨0,f0,g0,rfl,rfl,Nat.zero_le _,hW0,rfl⟩ ?_
 rintro m0 _ _⟨i,f,g,hk0,rfl,hi,hW,hm0⟩
 refine Av _ hk0<|Cr<|Aa (Dl U U) U<|Ek9 0 2 3 8 9 17 18 19 20 U<|Am<|Bf U (fun h20=>?_) (fun h20=>?_)
 ·have hi2:i<tl.length:=by omega
  obtain⟨t,ht⟩:∃t,t=tl[i]:=⟨_,rfl⟩
  have htm:t∈tl:=ht▸List.getElem_mem hi2
  have hkt:(tl.map tkOf)[i]? =some (tkOf t):=by rw[List.getElem?_map,List.getElem?_eq_getElem hi2,←ht];rfl
  have hut:=hu _ (List.mem_map_of_mem htm)
  have hot:=hto t htm
  have hrm:=tks_room h15a h15b (s:=s) (tksOk_take i htk)
  rw[List.length_take,List.length_map]at hrm
  obtain⟨tb,to,hta,hTc⟩:=hTa.resolve_left (fun h=>by rw[h]at hi2;simp at hi2)
  have hTc2:=hTc i hi2
  rw[←ht]at hTc2
  refine Ap<|Du (M:=fun ee ll=>∃(f5:Frag),∃(g5:Frag),keeps ee [0,2,3,8,9,17,18,19]=some [(0,.pointer (some ⟨wb,0,none⟩)),(2,.slice (some ⟨lb,lo,none⟩) lit.length lc),(3,.slice (some ⟨db,do_,none⟩) dist.length dc),(8,.slice (some ⟨a1,0,none⟩) lit.length lit.length),(9,.slice (some ⟨a2,0,none⟩) dist.length dist.length),(17,.slice ta tl.length tc),(18,.int .i64 ((tl.length:Nat):Int)),(19,.int .i64 ((i:Nat):Int))]∧ll=[⟨a1,0,cellsI lit.length (codesF lit lit.length)⟩,⟨a2,0,cellsI dist.length (codesF dist dist.length)⟩,f5,g5,⟨lb,lo,intsV lit++ls⟩,⟨db,do_,intsV dist++ds⟩]∧(WAt wb (tkPut lit dist (tksPut lit dist s ((tl.map tkOf).take i)) (tkOf t)) f5 g5)) ?_ ?_
  ·refine As<|Cr ?_
   refine Aa (Bm (b:=tb) (o:=to) (l:=tl.length) (c:=tc) (i:=i) (k:=.i64) (by rw[←hta];rfl) U hi2 Tu71 Tz75) U ?_
   refine Ag (Gg (vs:=tokCells t) U hTc2 U Tryz.isAgg75 Tz75) U ?_
   refine Ai (Dq Tryz.zeroValue75) U ?_;rintro _ _⟨b11,rfl,rfl⟩;refine Er7 U ?_
   refine Ax (L2:=⟨b11,0,[.int .u8 0,.int .i64 0,.int .i64 0]⟩::[⟨a1,0,cellsI lit.length (codesF lit lit.length)⟩,⟨a2,0,cellsI dist.length (codesF dist dist.length)⟩,f,g,⟨lb,lo,intsV lit++ls⟩,⟨db,do_,intsV dist++ds⟩]) (by kernel_rfl) ?_
   refine Ao (Bq 0 (k:=0) U U U U U U Tz75 U) ?_;rintro _ _⟨rfl,rfl⟩;refine Er7 U ?_
   refine Ek10 0 2 3 8 9 11 17 18 19 20 U<|Am<|Cr<|Aa (Ab U fa75_1) U<|Ag (Aj 0 (k:=1) U U U Ta3) U<|Aa (Ef (b:=((0:Nat):Int)) U U) U<|Ek11 0 2 3 8 9 11 17 18 19 20 25 U<|Bf U (fun h25=>?_) (fun h25=>?_)
   ·have hz:t.2.1=0:=by omega
    have htk1:tkOf t=.lit t.1:=if_pos hz
    rw[htk1]at hut
    replace hut:0<lenOf lit t.1.toNat:=hut
    have hc1:=code_small hk1 h15a hut
    have hlt1:=Dx hut
    refine Am<|Bt [0,0,0,4,10,16,0,0,128,320,512,1057] (.pure 0 2046 (.pure 1 1997 (.pure 2 1987 (.pure 6 447 (.pure 7 127 (.seg [(3,1991),(4,1999),(5,2015),(8,255),(9,511),(10,1023)] (.alt 11 .done .stop))))))) mixed (by decide+kernel)<|Dm U U U<|Dm U U U<|Ah U (Ab U fa75_0) U<|Dm U U U<|Ah U (Ab U fa75_0) U<|Dc (by decide)<|Au U (Aj 0 (k:=0) U U U Ta5) U<|Ba U (Bm U U (by omega) Tu23 Tz3) U<|Au U (Aj 1 (k:=t.1.toNat*1) U U (codes_get hut) Ta3) U<|Au U (Aj 0 (k:=0) U U U Ta5) U ?_
    refine Ba U (Bm U U (by omega) Tu23 Tz3) U<|Au U (Aj 5 (k:=t.1.toNat*1) U U (lens_get hut) Ta3) U<|Da<|By ?_
    refine Bo U (OpX.pick [3,3] (F:=[_,_,_,_,_]) U (Ar U Tryz.call60 (code_spec hW lit t.1.toNat (by omega) hc1.2 (by omega)))) U ?_;rintro _ _⟨_,⟨f1,g1,rfl,hW1,rfl⟩,rfl⟩;refine Dr7 U ?_
    refine Hb [2,2,2,0,0,0,0] U<|Dr7 U<|D.forget [1,1,1,1,1,1] (A:=[_,_,_,_,_,_]) (F:=[_]) U<|Dk11 0 2 3 8 9 11 17 18 19 20 25 U<|Bu U ?_
    exact⟨_,_,rfl,rfl,(by rw[htk1];exact hW1)⟩
   obtain⟨n,d,hn,hd,hn3,hn4,hd1,hd2⟩:=hot.resolve_left (fun h=>by omega)
   have htk2:tkOf t=.copy n d:=by unfold tkOf;rw[if_neg (by omega),hn,hd];rfl
   rw[htk2]at hut
   obtain⟨hu1,hu2⟩:=hut
   have hc1:=code_small hk1 h15a hu1
   have hc2:=code_small hk2 h15b hu2
   have hlt1:=Dx hu1
   have hlt2:=Dx hu2
   have hps:=place_size hn3 hn4
   have hpf:=place_far hd1 hd2
   have hm5:=moreAt_le _ hps.1
   have hf13:=furAt_le _ hpf.1
   have hsl29:sizesL.length=29:=rfl
   have hml29:moreL.length=29:=rfl
   have hfl30:farL.length=30:=rfl
   have hul30:furL.length=30:=rfl
   refine Ap<|Cr<|Ag (Be U hS1 Ta23) U<|Aa (Ab U fa75_1) U<|Ag (Aj 0 (k:=1) U U U Ta3) U<|An (v:=.int .i64 ((n:Nat):Int)) (by rw[hn]) ?_
   refine Ai (OpX.pick [] (F:=[_,_,_,_,_,_,_]) U (Ar U Tryz.call61 (place_spec sb1 so1 sc1 sizesL n hSc1 (by decide) (by decide) (show(3:Nat)≤n from hn3)))) U ?_;rintro _ _⟨_,⟨rfl,rfl⟩,rfl⟩;refine Er7 U ?_
   refine Ea U U<|Ek12 0 2 3 8 9 11 12 17 18 19 20 25 U<|Am<|Bt [0,0,0,4,10,16,0,0,128,320,512,1057] (.pure 0 2046 (.pure 1 1997 (.pure 2 1987 (.pure 3 1991 (.pure 4 1999 (.pure 6 447 (.pure 7 127 (.pure 8 255 (.pure 9 511 (.seg [(5,2015),(10,1023)] (.alt 11 .done .stop))))))))))) mixed (by decide+kernel)<|Dm U U U<|Dm U U U<|Dm U U U<|Ah U (Bl (a:=((257:Nat):Int)) U U (N.add64 (by omega))) U<|Ah U (Bm U U (by omega) Tu23 Tz3) U<|Dm U U U<|Dm U U U<|Ah U (Bl (a:=((257:Nat):Int)) U U (N.add64 (by omega))) U ?_
   refine Ah U (Bm U U (by omega) Tu23 Tz3) U<|Dc (by decide)<|Au U (Aj 1 (k:=(257+(placeL sizesL n))*1) U U (codes_get hu1) Ta3) U<|Au U (Aj 5 (k:=(257+(placeL sizesL n))*1) U U (lens_get hu1) Ta3) U<|Da<|By ?_
   refine Bo U (OpX.pick [3,3] (F:=[_,_,_,_,_]) U (Ar U Tryz.call60 (code_spec hW lit (257+(placeL sizesL n)) (by omega) hc1.2 (by omega)))) U ?_;rintro _ _⟨_,⟨f1,g1,rfl,hW1,rfl⟩,rfl⟩;refine Dr7 U ?_
   refine Hb [2,2,2,0,0,0,0] U<|Dr7 U<|Dk12 0 2 3 8 9 11 12 17 18 19 20 25 U<|Am<|Bt [0,0,2,0,0,24,32,68,0,0,768,1024,2177] (.pure 0 4094 (.pure 1 3961 (.pure 4 3855 (.pure 9 511 (.seg [(2,3963),(3,3863),(5,3871),(6,3903),(7,3967),(8,767),(10,1023),(11,2047)] (.alt 12 .done .stop)))))) mixed (by decide+kernel)<|Dm U U U<|Ah U (Ab U fa75_1) U<|Dm U U U<|Dm U U U<|Dc (by decide)<|Au U (Aj 0 (k:=1) U U U Ta3) U<|Dy (v:=.int .i64 ((n:Nat):Int)) (by rw[hn]) ?_
   refine Au U (Be U hS1 Ta23) U<|Ba U (Bm U U (by omega) Tu23 Tz3) U<|Au U (Be U (hSc1 (placeL sizesL n) (by omega)) Ta3) U<|Ba U (Dr U U (N.sub64 (by omega) (by omega))) U<|Au U (Be U hS2 Ta23) U<|Ba U (Bm U U (by omega) Tu23 Tz3) U<|Au U (Be U (hSc2 (placeL sizesL n) (by omega)) Ta3) U<|Da<|By ?_
   refine Bo U (OpX.pick [3,3] (F:=[_,_,_,_,_]) U (Ar U Tryz.call41 (Gd hW1 _ _ (by omega) (by omega) (by simp only[wcode,wput];omega)))) U ?_;rintro _ _⟨_,⟨f2,g2,rfl,hW2,rfl⟩,rfl⟩;refine Dr7 U ?_
   refine Hb [2,2,2,0,0,0,0] U<|Dr7 U<|Dk12 0 2 3 8 9 11 12 17 18 19 20 25 U<|Cr<|Ag (Be U hS3 Ta23) U<|Aa (Ab U fa75_2) U<|Ag (Aj 0 (k:=2) U U U Ta3) U<|An (v:=.int .i64 ((d:Nat):Int)) (by rw[hd]) ?_
   refine Ai (OpX.pick [] (F:=[_,_,_,_,_,_,_]) U (Ar U Tryz.call61 (place_spec sb3 so3 sc3 farL d hSc3 (by decide) (by decide) (show(1:Nat)≤d from hd1)))) U ?_;rintro _ _⟨_,⟨rfl,rfl⟩,rfl⟩;refine Er7 U ?_
   refine Ea U U<|Ek12 0 2 3 8 9 11 12 17 18 19 20 25 U<|Am<|Bt [0,0,0,6,8,0,0,96,128,273] (.pure 0 510 (.pure 1 485 (.pure 2 483 (.pure 3 487 (.pure 5 95 (.pure 6 63 (.pure 7 127 (.seg [(4,495),(8,255)] (.alt 9 .done .stop))))))))) mixed (by decide+kernel)<|Dm U U U<|Dm U U U<|Dm U U U<|Ah U (Bm U U (by omega) Tu23 Tz3) U<|Dm U U U<|Dm U U U<|Ah U (Bm U U (by omega) Tu23 Tz3) U<|Dc (by decide) ?_
   refine Au U (Aj 2 (k:=(placeL farL d)*1) U U (codes_get hu2) Ta3) U<|Au U (Aj 6 (k:=(placeL farL d)*1) U U (lens_get hu2) Ta3) U<|Da<|By ?_
   refine Bo U (OpX.pick [3,3] (F:=[_,_,_,_,_]) U (Ar U Tryz.call60 (code_spec hW2 dist (placeL farL d) (by omega) hc2.2 (by simp only[wcode,wput];omega)))) U ?_;rintro _ _⟨_,⟨f3,g3,rfl,hW3,rfl⟩,rfl⟩;refine Dr7 U ?_
   refine Hb [2,2,2,0,0,0,0] U<|Dr7 U<|Dk12 0 2 3 8 9 11 12 17 18 19 20 25 U<|Bt [0,0,2,0,0,24,32,68,0,0,768,1024,2177] (.pure 0 4094 (.pure 1 3961 (.pure 4 3855 (.pure 9 511 (.seg [(2,3963),(3,3863),(5,3871),(6,3903),(7,3967),(8,767),(10,1023),(11,2047)] (.alt 12 .done .stop)))))) mixed (by decide+kernel)<|Dm U U U<|Ah U (Ab U fa75_2) U<|Dm U U U<|Dm U U U<|Dc (by decide)<|Au U (Aj 0 (k:=2) U U U Ta3) U<|Dy (v:=.int .i64 ((d:Nat):Int)) (by rw[hd])<|Au U (Be U hS3 Ta23) U ?_
   refine Ba U (Bm U U (by omega) Tu23 Tz3) U<|Au U (Be U (hSc3 (placeL farL d) (by omega)) Ta3) U<|Ba U (Dr U U (N.sub64 (by omega) (by omega))) U<|Au U (Be U hS4 Ta23) U<|Ba U (Bm U U (by omega) Tu23 Tz3) U<|Au U (Be U (hSc4 (placeL farL d) (by omega)) Ta3) U<|Da<|By ?_
   refine Bo U (OpX.pick [3,3] (F:=[_,_,_,_,_]) U (Ar U Tryz.call41 (Gd hW3 _ _ (by omega) (by omega) (by simp only[wcode,wput];omega)))) U ?_;rintro _ _⟨_,⟨f4,g4,rfl,hW4,rfl⟩,rfl⟩;refine Dr7 U ?_
   refine Hb [2,2,2,0,0,0,0] U<|Dr7 U<|D.forget [1,1,1,1,1,1] (A:=[_,_,_,_,_,_]) (F:=[_]) U<|Dk12 0 2 3 8 9 11 12 17 18 19 20 25 U ?_
   exact⟨_,_,rfl,rfl,(by rw[htk2];exact hW4)⟩
  rintro _ _⟨f5,g5,hq12,rfl,hW5⟩
  refine Av _ hq12<|Al<|Aa (Bl (b:=((1:Nat):Int)) U U (N.add64 (by omega))) U<|Em U U<|Ek8 0 2 3 8 9 17 18 19 U ?_
  refine⟨_,?_,i+1,f5,g5,rfl,rfl,by omega,(by rw[tks_step hkt];exact hW5),rfl⟩;omega
 have hi2:i=tl.length:=by omega
 subst hi2
 have hrm:=tks_room h15a h15b (s:=s) htk
 rw[List.length_map]at hrm
 rw[List.take_of_length_le (show(tl.map tkOf).length≤tl.length by rw[List.length_map];exact Nat.le_refl _)]at hW
 have hc1:=code_small hk1 h15a h256
 have hlt1:=Dx h256
 refine Bu U<|Bt [0,0,2,4,0,16,32,73] (.pure 0 126 (.pure 1 113 (.pure 2 115 (.pure 4 15 (.pure 5 31 (.seg [(3,119),(6,63)] (.alt 7 .done .stop))))))) mixed (by decide+kernel)<|Dm U U U<|Dm U U U<|Ah U (Bm (i:=256) U U (by omega) Tu23 Tz3) U<|Dm U U U<|Ah U (Bm (i:=256) U U (by omega) Tu23 Tz3) U<|Dc (by decide)<|Au U (Aj 0 (k:=256*1) U U (codes_get h256) Ta3) U<|Au U (Aj 4 (k:=256*1) U U (lens_get h256) Ta3) U<|Da<|By ?_
 refine Bo U (OpX.pick [2,2] (F:=[_,_,_,_]) U (Ar U Tryz.call60 (code_spec hW lit 256 (by omega) hc1.2 (by omega)))) U ?_;rintro _ _⟨_,⟨f6,g6,rfl,hW6,rfl⟩,rfl⟩;refine Dr6 U ?_
 refine Hb [2,2,0,0,0,0] U<|Dr6 U<|Dk9 0 2 3 8 9 17 18 19 20 U ?_
 exact⟨[_,_,_,_],[_,_],Same.perm (Br (A:=[_,_,_,_]) (F:=[_,_]) (is:=[2,2,2,2]) U),f6,g6,rfl,hW6,rfl⟩
theorem tokens_spec{K:Known}(hS:SpT K)(wb:Nat)(s:Wr)(lb lo lc db do_ dc:Nat)(ls ds:List Value)(lit dist:List Nat)(hk1:okLens lit)(hk2:okLens dist)(h15a:∀x∈lit,x≤15)(h15b:∀x∈dist,x≤15)(hl1:lit.length≤320)(hl2:dist.length≤320)(h256:0<lenOf lit 256)(tv:Value)(tl:List TokM)(hT:TokA K tv tl)(htl:tl.length≤1099511627)(hto:∀t∈tl,TokOk t)(out:List UInt8)(htk:tksOk out (tl.map tkOf))(hu:∀k∈tl.map tkOf,tkUse lit dist k)(hk:s.2≤1099511627776)(f0 g0:Frag)(hW0:WAt wb s f0 g0):
    Fn Tryz.prog K 43 #[.pointer (some ⟨wb,0,none⟩),tv,.slice (some ⟨lb,lo,none⟩) lit.length lc,.slice (some ⟨db,do_,none⟩) dist.length dc] [f0,g0,⟨lb,lo,intsV lit++ls⟩,⟨db,do_,intsV dist++ds⟩] fun r L=>∃f g,r=.tuple #[]∧WAt wb (wcode (tksPut lit dist s (tl.map tkOf)) lit 256) f g∧L=[f,g,⟨lb,lo,intsV lit++ls⟩,⟨db,do_,intsV dist++ds⟩]:=by
  refine Fn.lose (tokens_walk hS wb s lb lo lc db do_ dc ls ds lit dist hk1 hk2 h15a h15b hl1 hl2 h256 tv tl hT htl hto out htk hu hk f0 g0 hW0) ?_
  rintro r L⟨L2,J,hS,h⟩
  exact⟨L2,J,hS,h⟩
def Mark(us os:List Bool):Tk→Prop
  |.lit c=>us.getD c.toNat false=true
  |.copy n d=>us.getD (257+placeL sizesL n) false=true∧os.getD (placeL farL d) false=true
theorem Hq{us:List Bool}{j:Nat}{b:Bool}(hj:j<us.length)(k:Nat):(us.set j b).getD k false=if k=j then b else us.getD k false:=by
  rw[List.getD_eq_getElem?_getD,List.getD_eq_getElem?_getD,List.getElem?_set]
  by_cases h:j=k
  · subst h;rw[if_pos rfl,if_pos hj,if_pos rfl];rfl
  · rw[if_neg h,if_neg (fun e=>h e.symm)]
theorem Ft{us:List Bool}{j k:Nat}(hj:j<us.length)(h:us.getD k false=true):(us.set j true).getD k false=true:=by
  rw[Hq hj];split
  · rfl
  · exact h
theorem Mark.us{us os:List Bool}{k:Tk}{j:Nat}(hj:j<us.length)(h:Mark us os k):Mark (us.set j true) os k:=by
  cases k with
  |lit c=>exact Ft hj h
  |copy n d=>exact⟨Ft hj h.1,h.2⟩
theorem Mark.os{us os:List Bool}{k:Tk}{j:Nat}(hj:j<os.length)(h:Mark us os k):Mark us (os.set j true) k:=by
  cases k with
  |lit c=>exact h
  |copy n d=>exact⟨h.1,Ft hj h.2⟩
theorem count_set:∀{us:List Bool} {j:Nat} (hj:j<us.length),us[j]=false→(us.set j true).count true=us.count true+1
  |b::r,0,_,h=>by simp at h;subst h;simp
  |b::r,j+1,hj,h=>by
    have:=count_set (us:=r) (j:=j) (by simpa using hj) (by simpa using h)
    rw[List.set_cons_succ,List.count_cons,List.count_cons,this];omega
theorem getD_lt_len{us:List Bool}{i:Nat}(h:us.getD i false=true):i<us.length:=by
  rcases Nat.lt_or_ge i us.length with h1|h1
  · exact h1
  · rw[List.getD_eq_getElem?_getD,List.getElem?_eq_none h1]at h;cases h
theorem count_pos_of{us:List Bool}{i:Nat}(h:us.getD i false=true):1≤us.count true:=by
  have h1:=getD_lt_len h
  rw[Gp h1]at h
  exact List.count_pos_iff.2 (h▸List.getElem_mem h1)
theorem count_two:∀{us:List Bool} {i j:Nat},i<j→us.getD i false=true→us.getD j false=true→2≤us.count true
  | [],i,j,_,h,_=>by simp at h
  |b::r,0,j+1,_,h1,h2=>by
    have e:b=true:=h1
    have:=count_pos_of (us:=r) (i:=j) h2
    subst e
    rw[List.count_cons_self];omega
  |b::r,i+1,j+1,hij,h1,h2=>by
    have:=count_two (us:=r) (i:=i) (j:=j) (by omega) h1 h2
    rw[List.count_cons];omega
theorem count_prefix{us:List Bool}:∀{i:Nat},i≤us.length→(∀j,j<i→us.getD j false=true)→i≤us.count true:=by
  induction us with
  |nil=>intro i h _;simp at h;omega
  |cons b r ih=>
    intro i h hj
    cases i with
    |zero=>omega
    |succ i=>
      have h0:b=true:=hj 0 (by omega)
      subst h0
      have:=ih (i:=i) (by simpa using h) (fun j hlt=>hj (j+1) (by omega))
      rw[List.count_cons_self];omega
theorem lenOf_take{ls:List Nat}{m:Nat}(h:∀k,m≤k→lenOf ls k=0)(k:Nat):lenOf (ls.take m) k=lenOf ls k:=by
  by_cases hk:k<m
  · rw[lenOf,lenOf,List.getD_eq_getElem?_getD,List.getD_eq_getElem?_getD,List.getElem?_take,if_pos hk]
  · rw[h k (by omega),lenOf,List.getD_eq_getElem?_getD,List.getElem?_take,if_neg hk];rfl
theorem drop_zero{ls:List Nat}{m:Nat}(h:∀k,m≤k→lenOf ls k=0):∀y∈ls.drop m,y=0:=by
  intro y hy
  obtain⟨j,hj,rfl⟩:=List.getElem_of_mem hy
  rw[List.length_drop]at hj
  rw[List.getElem_drop,←Bp (by omega)]
  exact h _ (by omega)
theorem fullN_trim{ls:List Nat}{m:Nat}(h:∀k,m≤k→lenOf ls k=0):fullN (ls.take m)=fullN ls:=by
  have e:=fullN_append (ls.take m) (ls.drop m)
  rw[List.take_append_drop,fullN_all (drop_zero h)]at e
  rw[e];simp[wt]
theorem lone_take{ls:List Nat}{m:Nat}(h:∀k,m≤k→lenOf ls k=0)(hl:lone ls):lone (ls.take m):=by
  refine⟨fun x hx=>hl.1 x (List.mem_of_mem_take hx),?_⟩
  have e:(ls.take m++ls.drop m).sum=(ls.take m).sum+(ls.drop m).sum:=List.sum_append
  rw[List.take_append_drop,hl.2]at e
  have hz:∀r:List Nat,(∀y∈r,y=0)→r.sum=0:=by
    intro r
    induction r with
    |nil=>intro _;rfl
    |cons x r ih=>intro hr;rw[List.sum_cons,ih fun y hy=>hr y (.tail _ hy),hr x (.head _)]
  rw[hz _ (drop_zero h)]at e
  omega
structure LitF(us:List Bool)(ls:List Nat):Prop where
  top:∀x∈ls,x≤15
  full:fullN ls=32768
  used:∀k,us.getD k false=true→0<lenOf ls k
structure DistF(os:List Bool)(dl:List Nat):Prop where
  top:∀x∈dl,x≤15
  ok:fullN dl=0∨fullN dl=32768∨lone dl
  used:∀k,os.getD k false=true→0<lenOf dl k
theorem LensOk.use{us:List Bool}{most:Nat}{ls:List Nat}(h:LensOk us most ls){k:Nat}(hk:us.getD k false=true):0<lenOf ls k:=(h.used k (getD_lt_len hk)).2 hk
theorem LitF.of{us:List Bool}{ls:List Nat}(h:LensOk us 15 ls):LitF us ls:=⟨h.top,h.full,fun _ hk=>h.use hk⟩
theorem LitF.okL{us:List Bool}{ls:List Nat}(h:LitF us ls):okLens ls:=ok_of_full h.top h.full
theorem LitF.trim{us:List Bool}{ls:List Nat}{m:Nat}(h:LitF us ls)(hz:∀k,m≤k→lenOf ls k=0):LitF us (ls.take m):=
  ⟨fun x hx=>h.top x (List.mem_of_mem_take hx),by rw[fullN_trim hz];exact h.full,fun k hk=>by rw[lenOf_take hz];exact h.used k hk⟩
theorem DistF.okL{os:List Bool}{dl:List Nat}(h:DistF os dl):okLens dl:=by
  rcases h.ok with h1|h1|h1
  · exact ok_of_zero h1
  · exact ok_of_full h.top h1
  · exact ok_of_lone h1
theorem DistF.trim{os:List Bool}{dl:List Nat}{m:Nat}(h:DistF os dl)(hz:∀k,m≤k→lenOf dl k=0):DistF os (dl.take m):=
  ⟨fun x hx=>h.top x (List.mem_of_mem_take hx),by rw[fullN_trim hz];exact h.ok.imp id (Or.imp id (lone_take hz)),fun k hk=>by rw[lenOf_take hz];exact h.used k hk⟩
theorem DistF.zero{os:List Bool}(h:os.count true=0):DistF os [0]:=
  ⟨fun x hx=>by simp at hx;omega,.inl rfl,fun k hk=>by have:=count_pos_of hk;omega⟩
theorem DistF.many{os:List Bool}{dl:List Nat}(h:LensOk os 15 dl):DistF os dl:=⟨h.top,.inr (.inl h.full),fun _ hk=>h.use hk⟩
def ones(os:List Bool):List Nat:=os.map fun b=>if b then 1 else 0
theorem ones_sum:∀(os:List Bool),(ones os).sum=os.count true
  | []=>rfl
  |b::r=>by
    rw[ones,List.map_cons,List.sum_cons,List.count_cons]
    have:=ones_sum r
    unfold ones at this
    rw[this];cases b<;>simp<;>omega
theorem ones_len(os:List Bool):(ones os).length=os.length:=by simp[ones]
theorem ones_at{os:List Bool}{k:Nat}(h:k<os.length):lenOf (ones os) k=if os[k]then 1 else 0:=by rw[Bp (by rw[ones_len];exact h)];simp[ones]
theorem DistF.one{os:List Bool}(h:os.count true=1):DistF os (ones os):=by
  have hle:∀x∈ones os,x≤1:=by
    intro x hx
    obtain⟨b,_,rfl⟩:=List.mem_map.1 hx
    split<;>omega
  refine⟨fun x hx=>by have:=hle x hx;omega,.inr (.inr ⟨hle,by rw[ones_sum,h]⟩),fun k hk=>?_⟩
  have h1:=getD_lt_len hk
  rw[Gp h1]at hk
  rw[ones_at h1,hk];decide
def onesI(os:List Bool)(i:Nat):List Nat:=ones (os.take i)++List.replicate (os.length-i) 0
theorem onesI_zero(os:List Bool):onesI os 0=List.replicate os.length 0:=by simp[onesI,ones]
theorem onesI_full(os:List Bool):onesI os os.length=ones os:=by simp[onesI]
theorem onesI_len{os:List Bool}{i:Nat}(h:i≤os.length):(onesI os i).length=os.length:=by
  rw[onesI,List.length_append,ones_len,List.length_take,List.length_replicate];omega
theorem onesI_step{os:List Bool}{i:Nat}(h:i<os.length):onesI os (i+1)=if os[i]=true then(onesI os i).set i 1 else onesI os i:=by
  have e:ones (os.take (i+1))=ones (os.take i)++[if os[i]=true then 1 else 0]:=by
    unfold ones;rw[List.take_add_one,List.getElem?_eq_getElem h,List.map_append];rfl
  have hl:(ones (os.take i)).length=i:=by rw[ones_len,List.length_take];omega
  unfold onesI
  rw[e,show os.length-i=(os.length-(i+1))+1 by omega,List.replicate_succ]
  split
  · rw[List.set_append_right _ _ (by omega),hl,Nat.sub_self,List.set_cons_zero,List.append_assoc];rfl
  · rw[List.append_assoc];rfl
theorem Mark.use{us os:List Bool}{ls dl:List Nat}{k:Tk}(h:Mark us os k)(h1:LitF us ls)(h2:DistF os dl):tkUse ls dl k:=by
  cases k with
  |lit c=>exact h1.used _ h
  |copy n d=>exact⟨h1.used _ h.1,h2.used _ h.2⟩
structure ToldI(all:List Nat)(i:Nat)(tl:List (Nat×Nat)):Prop where
  exp:tl.foldl tExp []=all.take i
  ok:tsOk [] tl
  rng:∀t∈tl,t.1<19∧t.2<128
theorem ToldI.start(all:List Nat):ToldI all 0 []:=⟨by simp,trivial,fun _ h=>by cases h⟩
theorem fold_snoc(tl:List (Nat×Nat))(t:Nat×Nat):(tl++[t]).foldl tExp []=tExp (tl.foldl tExp []) t:=by rw[List.foldl_append];rfl
theorem ToldI.lit{all:List Nat}{i:Nat}{tl:List (Nat×Nat)}(h:ToldI all i tl)(hi:i<all.length)(h16:all[i]<16):ToldI all (i+1) (tl++[(all[i],0)]):=by
  refine⟨?_,tsOk_snoc h.ok (.inl h16),fun t ht=>?_⟩
  · rw[fold_snoc,h.exp,tExp,if_pos h16,List.take_add_one,List.getElem?_eq_getElem hi];rfl
  · rcases List.mem_append.1 ht with h1|h1
    · exact h.rng t h1
    · rw[List.mem_singleton.1 h1];exact⟨by show all[i]<19;omega,by show 0<128;decide⟩
theorem take_run{all:List Nat}{i v:Nat}:∀{n:Nat},i+n≤all.length→(∀k,k<n→lenOf all (i+k)=v)→all.take (i+n)=all.take i++List.replicate n v
  |0,_,_=>by simp
  |n+1,h,hr=>by
    have ih:=take_run (n:=n) (by omega) (fun k hk=>hr k (by omega))
    have h1:=hr n (by omega)
    rw[Bp (by omega)]at h1
    rw[←Nat.add_assoc,List.take_add_one,List.getElem?_eq_getElem (by omega),ih,h1,List.replicate_succ',List.append_assoc];rfl
theorem ToldI.rep{all:List Nat}{i n a v:Nat}{tl:List (Nat×Nat)}(h:ToldI all i tl)(ha:a=16∨a=17∨a=18)(hn:repB a≤n)(hx:n-repB a<2^repN a)(hi:i+n≤all.length)(hr:∀k,k<n→lenOf all (i+k)=v)(h16:a=16→0<i∧lenOf all (i-1)=v)(h17:a≠16→v=0):
    ToldI all (i+n) (tl++[(a,n-repB a)]):=by
  have hp:(2:Nat)^repN a≤2^7:=Nat.pow_le_pow_right (by decide) (by unfold repN;split;omega;split<;>omega)
  have hlen:(tl.foldl tExp []).length=i:=by rw[h.exp,List.length_take];omega
  refine⟨?_,tsOk_snoc h.ok (.inr ⟨by show 16≤a;omega,by show a<19;omega,hx,?_⟩),fun t ht=>?_⟩
  · rw[fold_snoc,h.exp,tExp,if_neg (by show¬a<16;omega),take_run hi hr]
    simp only
    rw[show repB a+(n-repB a)=n by omega]
    by_cases e:a=16
    · obtain⟨k1,k2⟩:=h16 e
      rw[if_pos e]
      congr 2
      have hne:all.take i≠[]:=fun h0=>by have:=congrArg List.length h0;rw[List.length_take,List.length_nil]at this;omega
      rw[Bp (by omega:i-1<all.length)]at k2
      rw[List.getLastD_eq_getLast?,List.getLast?_eq_getElem?,List.length_take,show min i all.length=i by omega,List.getElem?_take,if_pos (show i-1<i by omega),List.getElem?_eq_getElem (show i-1<all.length by omega),k2];rfl
    · rw[if_neg e,h17 e]
  · rintro⟨e,h0⟩
    have:=h16 e
    rw[h0]at hlen;simp at hlen;omega
  · rcases List.mem_append.1 ht with h1|h1
    · exact h.rng t h1
    · rw[List.mem_singleton.1 h1];exact⟨by show a<19;omega,by show n-repB a<128;omega⟩
theorem tPut_room{cl:List Nat}{s:Wr}(h7:∀x∈cl,x≤7)(t:Nat×Nat):(tPut cl s t).2≤s.2+14:=by
  have h1:lenOf cl t.1≤7:=by
    rcases Nat.lt_or_ge t.1 cl.length with h|h
    · rw[Bp h];exact h7 _ (List.getElem_mem h)
    · rw[lenOf,List.getD_eq_getElem?_getD,List.getElem?_eq_none h];exact Nat.zero_le _
  have h2:repN t.1≤7:=by unfold repN;split;omega;split<;>omega
  unfold tPut
  split<;>(simp only[wcode,wput];omega)
theorem tsPut_room{cl:List Nat}(h7:∀x∈cl,x≤7):∀{l:List (Nat×Nat)} {s:Wr},(l.foldl (tPut cl) s).2≤s.2+14*l.length
  | [],_=>Nat.le_refl _
  |t::r,s=>by
    have h1:=tPut_room (s:=s) h7 t
    have h2:=tsPut_room h7 (l:=r) (s:=tPut cl s t)
    rw[List.foldl_cons,List.length_cons];omega
def markF(u:List Bool×List Bool):Tk→List Bool×List Bool
  |.lit b=>(u.1.set b.toNat true,u.2)
  |.copy n d=>(u.1.set (257+placeL sizesL n) true,u.2.set (placeL farL d) true)
theorem setB_same:∀{l:List Bool} {i:Nat},l.getD i false=true→l.set i true=l
  | [],_,_=>rfl
  |x::r,0,h=>by
    have:x=true:=h
    rw[this];rfl
  |x::r,i+1,h=>by
    have:=setB_same (l:=r) (i:=i) (by simpa using h)
    rw[List.set_cons_succ,this]
def TrimR(f:Nat→Nat)(lo top m:Nat):Prop:=lo≤m∧m≤top∧(∀k,m≤k→k<top→f k=0)∧(m=lo∨f (m-1)≠0)
theorem TrimR.det{f:Nat→Nat}{lo top m m2:Nat}(h:TrimR f lo top m)(h2:TrimR f lo top m2):m=m2:=by
  obtain⟨a1,a2,a3,a4⟩:=h
  obtain⟨b1,b2,b3,b4⟩:=h2
  rcases Nat.lt_trichotomy m m2 with h|h|h
  · exact absurd (a3 (m2-1) (by omega) (by omega)) (b4.resolve_left (by omega))
  · exact h
  · exact absurd (b3 (m-1) (by omega) (by omega)) (a4.resolve_left (by omega))
def RunR(all:List Nat)(i run:Nat):Prop:=1≤run∧i+run≤all.length∧(∀k,k<run→lenOf all (i+k)=lenOf all i)∧(i+run=all.length∨lenOf all (i+run)≠lenOf all i)
theorem RunR.det{all:List Nat}{i r r2:Nat}(h:RunR all i r)(h2:RunR all i r2):r=r2:=by
  obtain⟨a1,a2,a3,a4⟩:=h
  obtain⟨b1,b2,b3,b4⟩:=h2
  rcases Nat.lt_trichotomy r r2 with h|h|h
  · exact absurd (b3 r h) (a4.resolve_left (by omega))
  · exact h
  · exact absurd (a3 r2 h) (b4.resolve_left (by omega))
section
variable {K:Known}{na:Option Addr}{nn:Nat}
def CondN(K:Known)(na:Option Addr)(nn:Nat)(c:Prop)(at_:Nat)(q:Bool)(at2:Nat):Prop:=(c∧∃z,NxR K na nn at_ 2 z at2∧(q=true↔z=0))∨(¬c∧q=false∧at2=at_)
theorem CondN.det{c:Prop}{at_ a a2:Nat}{q q2:Bool}(h:CondN K na nn c at_ q a)(h2:CondN K na nn c at_ q2 a2):q=q2∧a=a2:=by
  rcases h with⟨hc,z,h3,h4⟩|⟨hc,rfl,rfl⟩
  · rcases h2 with⟨_,z2,h5,h6⟩|⟨hn,_⟩
    · obtain⟨e,e2⟩:=h3.det h5
      subst e
      exact⟨by cases q<;>cases q2<;>simp_all,e2⟩
    · exact absurd hc hn
  · rcases h2 with⟨hn,_⟩|⟨_,rfl,rfl⟩
    · exact absurd hn hc
    · exact⟨rfl,rfl⟩
def RepS(K:Known)(na:Option Addr)(nn sym base bound i at_:Nat)(tl:List (Nat×Nat))(s2:Nat×List (Nat×Nat)×Nat):Prop:=∃z,NxR K na nn at_ bound z s2.2.2∧s2.1=i+(base+z)∧s2.2.1=tl++[(sym,base+z-base)]
theorem RepS.det{sym base bound i at_:Nat}{tl:List (Nat×Nat)}{b c:Nat×List (Nat×Nat)×Nat}(h:RepS K na nn sym base bound i at_ tl b)(h2:RepS K na nn sym base bound i at_ tl c):b=c:=by
  obtain⟨z,h3,h4,h5⟩:=h
  obtain⟨z2,h6,h7,h8⟩:=h2
  obtain⟨e,e2⟩:=h3.det h6
  subst e
  exact Prod.ext (h4.trans h7.symm) (Prod.ext (h5.trans h8.symm) e2)
def ToldS(K:Known)(na:Option Addr)(nn:Nat)(all:List Nat)(s s2:Nat×List (Nat×Nat)×Nat):Prop:=
  s.1<all.length∧∃run q1 a1,RunR all s.1 run∧CondN K na nn (lenOf all s.1=0∧11≤run) s.2.2 q1 a1∧
    ((q1=true∧RepS K na nn 18 11 (min run 138-10) s.1 a1 s.2.1 s2)∨
     (q1=false∧∃q2 a2,CondN K na nn (lenOf all s.1=0∧3≤run) a1 q2 a2∧
      ((q2=true∧RepS K na nn 17 3 (min run 10-2) s.1 a2 s.2.1 s2)∨
       (q2=false∧∃q3 a3,CondN K na nn (0<s.1∧lenOf all s.1=lenOf all (s.1-1)∧3≤run) a2 q3 a3∧
        ((q3=true∧RepS K na nn 16 3 (min run 6-2) s.1 a3 s.2.1 s2)∨(q3=false∧s2=(s.1+1,s.2.1++[(lenOf all s.1,0)],a3)))))))
theorem ToldS.det{all:List Nat}{a b c:Nat×List (Nat×Nat)×Nat}(h:ToldS K na nn all a b)(h2:ToldS K na nn all a c):b=c:=by
  obtain⟨_,run,q1,a1,hr,hc,h⟩:=h
  obtain⟨_,run',q1',a1',hr',hc',h2⟩:=h2
  have e:=hr.det hr'
  subst e
  obtain⟨e,e2⟩:=hc.det hc'
  subst e e2
  rcases h with⟨x,h⟩|⟨x,q2,a2,hc,h⟩
  · rcases h2 with⟨_,h2⟩|⟨y,_⟩
    · exact h.det h2
    · rw[x]at y;cases y
  rcases h2 with⟨y,_⟩|⟨_,q2',a2',hc',h2⟩
  · rw[x]at y;cases y
  obtain⟨e,e2⟩:=hc.det hc'
  subst e e2
  rcases h with⟨x,h⟩|⟨x,q3,a3,hc,h⟩
  · rcases h2 with⟨_,h2⟩|⟨y,_⟩
    · exact h.det h2
    · rw[x]at y;cases y
  rcases h2 with⟨y,_⟩|⟨_,q3',a3',hc',h2⟩
  · rw[x]at y;cases y
  obtain⟨e,e2⟩:=hc.det hc'
  subst e e2
  rcases h with⟨x,h⟩|⟨x,h⟩
  · rcases h2 with⟨_,h2⟩|⟨y,_⟩
    · exact h.det h2
    · rw[x]at y;cases y
  rcases h2 with⟨y,_⟩|⟨_,h2⟩
  · rw[x]at y;cases y
  · exact h.trans h2.symm
def FixS(s s2:Nat×List Bool):Prop:=s.2.count true<2∧s2=(s.1+1,s.2.set s.1 true)
theorem FixS.det{a b c:Nat×List Bool}(h:FixS a b)(h2:FixS a c):b=c:=h.2.trans h2.2.symm
def us0(r:Nat):List Bool:=((List.replicate 286 false).set 256 true).set r true
def useF(tl:List (Nat×Nat)):List Bool:=tl.foldl (fun u t=>u.set t.1 true) (List.replicate 19 false)
def OwnD(K:Known)(na:Option Addr)(nn:Nat)(toks:List Tk)(at_:Nat)(s:Wr)(lit dist:List Nat)(s2:Wr):Prop:=
  ∃r at1 ls at2 dl at3 m md at4 tl2 i2 use cl at5 cnt,NxR K na nn at_ 256 r at1∧LensD K na nn (toks.foldl markF (us0 r,List.replicate 30 false)).1 15 at1 ls at2∧
    ((((toks.foldl markF (us0 r,List.replicate 30 false)).2.count true=0)∧dl=[0]∧at3=at2)∨(((toks.foldl markF (us0 r,List.replicate 30 false)).2.count true=1)∧dl=ones (toks.foldl markF (us0 r,List.replicate 30 false)).2∧at3=at2)∨
      (2≤(toks.foldl markF (us0 r,List.replicate 30 false)).2.count true∧LensD K na nn (toks.foldl markF (us0 r,List.replicate 30 false)).2 15 at2 dl at3))∧
    TrimR (lenOf ls) 257 286 m∧TrimR (lenOf dl) 1 dl.length md∧lit=ls.take m∧dist=dl.take md∧
    Star (ToldS K na nn (lit++dist)) (0,[],at3) ((lit++dist).length,tl2,at4)∧Star FixS (0,useF tl2) (i2,use)∧¬use.count true<2∧LensD K na nn use 7 at4 cl at5∧
    TrimR (fun i=>lenOf cl (ordL.getD i 0)) 4 19 cnt∧s2=tl2.foldl (tPut cl) (clPut (lenOf cl) (ordL.take cnt) (wput (wput (wput s (m-257) 5) (md-1) 5) (cnt-4) 4))
theorem OwnD.det{toks:List Tk}{at_:Nat}{s s2 s3:Wr}{lit dist lit2 dist2:List Nat}(h:OwnD K na nn toks at_ s lit dist s2)(h':OwnD K na nn toks at_ s lit2 dist2 s3):lit=lit2∧dist=dist2∧s2=s3:=by
  obtain⟨r,at1,ls,at2,dl,at3,m,md,at4,tl2,i2,use,cl,at5,cnt,h1,h2,h3,h4,h5,rfl,rfl,h6,h7,h8,h9,h10,rfl⟩:=h
  obtain⟨r',at1',ls',at2',dl',at3',m',md',at4',tl2',i2',use',cl',at5',cnt',k1,k2,k3,k4,k5,rfl,rfl,k6,k7,k8,k9,k10,rfl⟩:=h'
  obtain⟨e,e2⟩:=h1.det k1
  subst e e2
  obtain⟨e,e2⟩:=h2.det k2
  subst e e2
  have hd:dl=dl'∧at3=at3':=by
    rcases h3 with⟨x,rfl,rfl⟩|⟨x,rfl,rfl⟩|⟨x,h3⟩
    · rcases k3 with⟨y,rfl,rfl⟩|⟨y,_⟩|⟨y,_⟩
      · exact⟨rfl,rfl⟩
      · omega
      · omega
    · rcases k3 with⟨y,_⟩|⟨y,rfl,rfl⟩|⟨y,_⟩
      · omega
      · exact⟨rfl,rfl⟩
      · omega
    · rcases k3 with⟨y,_⟩|⟨y,_⟩|⟨y,k3⟩
      · omega
      · omega
      · exact h3.det k3
  obtain⟨e,e2⟩:=hd
  subst e e2
  have e:=h4.det k4
  subst e
  have e:=h5.det k5
  subst e
  have e:=Star.det (R:=ToldS K na nn (ls.take m++dl.take md)) (fun a b=>ToldS.det a b) h6 k6 (fun x hx=>Nat.lt_irrefl _ hx.1) (fun x hx=>Nat.lt_irrefl _ hx.1)
  injection e with _ e
  injection e with e1 e2
  subst e1 e2
  have e:=Star.det (R:=FixS) (fun a b=>FixS.det a b) h7 k7 (fun x hx=>h8 hx.1) (fun x hx=>k8 hx.1)
  injection e with e1 e2
  subst e1 e2
  obtain⟨e,e2⟩:=h9.det k9
  subst e e2
  have e:=h10.det k10
  subst e
  exact⟨rfl,rfl,rfl⟩
end
end Go.Eng
