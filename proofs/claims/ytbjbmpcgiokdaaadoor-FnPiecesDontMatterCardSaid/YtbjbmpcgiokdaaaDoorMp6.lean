/-
  Texts of this proof,merged: WKd,Bnd,WUn,WUp,WEq,WWak,WSo.
-/
import Derived.Test.YtbjbmpcgiokdaaaDoorMp5
import Derived.Test.YtbjbmpcgiokdaaaDoorMp2
import Derived.Test.YtbjbmpcgiokdaaaDoorMp3
import Derived.Lib.SlBytesConst
set_option linter.unusedVariables false
set_option linter.unusedSimpArgs false
namespace Go.Eng
open Go Go.Proofs
set_option maxRecDepth 100000

theorem kind_spec {K : Known} {ea : Fin 5 → Addr} (hs : Sents K ea) (e : Er) : Fn Tryd.prog K 27 #[Er.val ea e] ([]) (fun r L => r = .int .i64 ((kindOf e : Nat) : Int) ∧ L = []) := by
 refine Fn.intro (args := [Er.val ea e]) (RR := Ret1 2 _) Tryd.func27 rfl rfl Tryd.ntmps27 (res1 Tryd.results27) ?_
 refine C.reenv (env2 := [(0,Er.val ea e)]) rfl ?_
 refine C.sr ?_
 refine E.pure (S.assign rfl) rfl ?_
 refine E.kp [(0,_),(2,_)] rfl ?_
 refine C.seq ?_
 refine C.block ?_
 refine C.sr ?_
 refine E.pure (S.move rfl) rfl ?_
 refine E.still (S.eqErNil rfl) rfl ?_
 refine E.pure (S.assign rfl) rfl ?_
 refine E.kp [(0,_),(2,_),(3,_)] rfl ?_
 first | refine C.ifp rfl (fun h3 => ?_) (fun h3 => ?_) | refine C.ifNone rfl (fun h3 => ?_) (fun h3 => ?_) | refine C.ifSome rfl (fun h3 => ?_) (fun h3 => ?_) | refine C.ifSe rfl (fun h3 => ?_) (fun h3 => ?_) | refine C.ifNotSe rfl (fun h3 => ?_) (fun h3 => ?_) | refine C.cond rfl (fun h3 => ?_) (fun h3 => ?_)
 ·
  refine C.sr ?_
  refine E.pure (S.assign rfl) rfl ?_
  refine E.kp [(0,_),(2,_),(3,_)] rfl ?_
  refine C.ret ?_
  exact ⟨_,rfl,by rw [h3]; rfl,rfl⟩
 refine C.sr ?_
 refine E.pure (S.move rfl) rfl ?_
 refine E.still (S.loadBase rfl hs.g0 Tryd.isAgg59) rfl ?_
 refine E.still (S.eqEr hs rfl rfl) rfl ?_
 refine E.pure (S.assign rfl) rfl ?_
 refine E.kp [(0,_),(2,_),(3,_),(6,_)] rfl ?_
 first | refine C.ifp rfl (fun h6 => ?_) (fun h6 => ?_) | refine C.ifNone rfl (fun h6 => ?_) (fun h6 => ?_) | refine C.ifSome rfl (fun h6 => ?_) (fun h6 => ?_) | refine C.ifSe rfl (fun h6 => ?_) (fun h6 => ?_) | refine C.ifNotSe rfl (fun h6 => ?_) (fun h6 => ?_) | refine C.cond rfl (fun h6 => ?_) (fun h6 => ?_)
 ·
  refine C.sr ?_
  refine E.pure (S.assign rfl) rfl ?_
  refine E.kp [(0,_),(2,_),(3,_),(6,_)] rfl ?_
  refine C.ret ?_
  first | exact ⟨_,rfl,by rw [h3]; rfl,rfl⟩ | exact ⟨_,rfl,by rw [h6]; rfl,rfl⟩ | exact ⟨_,rfl,by rw [h10]; rfl,rfl⟩ | exact ⟨_,rfl,by rw [h14]; rfl,rfl⟩ | exact ⟨_,rfl,by rw [kindOf_other h3 h6 h10 h14]; rfl,rfl⟩
 refine C.sr ?_
 refine E.pure (S.move rfl) rfl ?_
 refine E.still (S.loadBase rfl hs.g1 Tryd.isAgg59) rfl ?_
 refine E.still (S.eqEr hs rfl rfl) rfl ?_
 refine E.pure (S.assign rfl) rfl ?_
 refine E.kp [(0,_),(2,_),(3,_),(6,_),(10,_)] rfl ?_
 first | refine C.ifp rfl (fun h10 => ?_) (fun h10 => ?_) | refine C.ifNone rfl (fun h10 => ?_) (fun h10 => ?_) | refine C.ifSome rfl (fun h10 => ?_) (fun h10 => ?_) | refine C.ifSe rfl (fun h10 => ?_) (fun h10 => ?_) | refine C.ifNotSe rfl (fun h10 => ?_) (fun h10 => ?_) | refine C.cond rfl (fun h10 => ?_) (fun h10 => ?_)
 ·
  refine C.sr ?_
  refine E.pure (S.assign rfl) rfl ?_
  refine E.kp [(0,_),(2,_),(3,_),(6,_),(10,_)] rfl ?_
  refine C.ret ?_
  first | exact ⟨_,rfl,by rw [h3]; rfl,rfl⟩ | exact ⟨_,rfl,by rw [h6]; rfl,rfl⟩ | exact ⟨_,rfl,by rw [h10]; rfl,rfl⟩ | exact ⟨_,rfl,by rw [h14]; rfl,rfl⟩ | exact ⟨_,rfl,by rw [kindOf_other h3 h6 h10 h14]; rfl,rfl⟩
 refine C.sr ?_
 refine E.pure (S.move rfl) rfl ?_
 refine E.still (S.loadBase rfl hs.g2 Tryd.isAgg59) rfl ?_
 refine E.still (S.eqEr hs rfl rfl) rfl ?_
 refine E.pure (S.assign rfl) rfl ?_
 refine E.kp [(0,_),(2,_),(3,_),(6,_),(10,_),(14,_)] rfl ?_
 first | refine C.ifp rfl (fun h14 => ?_) (fun h14 => ?_) | refine C.ifNone rfl (fun h14 => ?_) (fun h14 => ?_) | refine C.ifSome rfl (fun h14 => ?_) (fun h14 => ?_) | refine C.ifSe rfl (fun h14 => ?_) (fun h14 => ?_) | refine C.ifNotSe rfl (fun h14 => ?_) (fun h14 => ?_) | refine C.cond rfl (fun h14 => ?_) (fun h14 => ?_)
 ·
  refine C.sr ?_
  refine E.pure (S.assign rfl) rfl ?_
  refine E.kp [(0,_),(2,_),(3,_),(6,_),(10,_),(14,_)] rfl ?_
  refine C.ret ?_
  first | exact ⟨_,rfl,by rw [h3]; rfl,rfl⟩ | exact ⟨_,rfl,by rw [h6]; rfl,rfl⟩ | exact ⟨_,rfl,by rw [h10]; rfl,rfl⟩ | exact ⟨_,rfl,by rw [h14]; rfl,rfl⟩ | exact ⟨_,rfl,by rw [kindOf_other h3 h6 h10 h14]; rfl,rfl⟩
 refine C.sr ?_
 refine E.pure (S.move rfl) rfl ?_
 refine E.pure (S.buildV (v := .agg #[]) [] rfl (fun w => by simp [Instr.build,Instr.fill,Value.cells,Tryd.zeroValue99])) rfl ?_
 refine E.pure (S.mkIface rfl conc99) rfl ?_
 refine E.still (S.eqErOther rfl rfl rfl rfl rfl) rfl ?_
 refine E.pure (S.assign rfl) rfl ?_
 refine E.kp [(0,_),(2,_),(3,_),(6,_),(10,_),(14,_),(18,_)] rfl ?_
 refine C.no rfl (rfl) ?_
 refine C.skip ?_
 refine C.sr ?_
 refine E.pure (S.assign rfl) rfl ?_
 refine E.kp [(0,_),(2,_),(3,_),(6,_),(10,_),(14,_),(18,_)] rfl ?_
 refine C.ret ?_
 first | exact ⟨_,rfl,by rw [h3]; rfl,rfl⟩ | exact ⟨_,rfl,by rw [h6]; rfl,rfl⟩ | exact ⟨_,rfl,by rw [h10]; rfl,rfl⟩ | exact ⟨_,rfl,by rw [h14]; rfl,rfl⟩ | exact ⟨_,rfl,by rw [kindOf_other h3 h6 h10 h14]; rfl,rfl⟩
/-- The extra field as it is handed out. -/
def ExOut (ex : Option (List UInt8)) (v : Value) (g : Frag) : Prop := match ex with
  | none => v = .slice none 0 0
  | some d => Own d v g
theorem exOut_one {ex : Option (List UInt8)} {v : Value} {g : Frag} (h : ExOut ex v g) : one v = true := by
  cases ex with
  | none => have h' : v = _ := h; rw [h']; rfl
  | some d => obtain ⟨b,o,c,cs,rfl,_⟩ := h; rfl

theorem headerOf_none {K : Known} (h : Hd) (hm : h.mod < 4294967296)  : Fn Tryd.prog K 28 #[.agg #[.string h.comment,.slice (none) 0 0,.int .u64 0,.int .i64 (timeV h.mod),.string h.name,.int .u8 ((h.os : Nat) : Int)]] ([]) (fun r L => r = .agg #[.string h.name,.string h.comment,.slice none 0 0,.int .i64 ((h.mod : Nat) : Int),.int .u8 ((h.os : Nat) : Int)]) := by
 refine Fn.intro (args := [.agg #[.string h.comment,.slice (none) 0 0,.int .u64 0,.int .i64 (timeV h.mod),.string h.name,.int .u8 ((h.os : Nat) : Int)]]) (RR := RetC 2 5  _) Tryd.func28 rfl rfl Tryd.ntmps28 (resC Tryd.results28 Tryd.isAgg27 Tryd.sizeOf27) ?_
 refine C.reenv (env2 := [(0,.agg #[.string h.comment,.slice (none) 0 0,.int .u64 0,.int .i64 (timeV h.mod),.string h.name,.int .u8 ((h.os : Nat) : Int)])]) rfl ?_
 refine C.sr ?_
 refine E.loud1 (X.box rfl) rfl ?_; rintro _ _ ⟨b1,rfl,rfl⟩; refine E.relist (L2 := [_]) rfl ?_
 refine E.loud1 (X.alloc Tryd.zeroValue27) rfl ?_; rintro _ _ ⟨b2,rfl,rfl⟩; refine E.relist (L2 := [_,_]) rfl ?_
 refine E.kp [(1,_),(2,_)] rfl ?_
 refine C.seq ?_
 refine C.known ?_
 intro K2 hK2 hc2
 refine C.draw [0,1,0,4,0,16,32,0,128,330,0,2047] (.pure 0 1532 (.pure 1 1533 (.pure 2 1523 (.pure 3 1527 (.pure 4 1423 (.pure 5 1439 (.pure 7 1151 (.pure 8 1279 (.alt 6 (.pure 9 1535 (.alt 10 (.alt 11 .done .stop) .stop)) (.alt 10 (.alt 6 (.pure 9 1535 (.alt 11 .done .stop)) .stop) .stop)))))))))) mixed (by decide +kernel) ?_
 refine D.pure rfl (S.field rfl fa69_3) rfl ?_
 refine D.known rfl (loadBaseK rfl (hc2 ⟨b1,0,_⟩ (.tail _ (.head _)) 4 _ rfl) Tryd.isAgg9) rfl ?_
 refine D.pure rfl (S.field rfl fa69_0) rfl ?_
 refine D.known rfl (loadBaseK rfl (hc2 ⟨b1,0,_⟩ (.tail _ (.head _)) 0 _ rfl) Tryd.isAgg9) rfl ?_
 refine D.pure rfl (S.field rfl fa69_1) rfl ?_
 refine D.known rfl (loadBaseK rfl (hc2 ⟨b1,0,_⟩ (.tail _ (.head _)) 1 _ rfl) Tryd.isAgg22) rfl ?_
 refine D.pure rfl (S.field rfl fa69_4) rfl ?_
 refine D.known rfl (loadBaseK rfl (hc2 ⟨b1,0,_⟩ (.tail _ (.head _)) 5 _ rfl) Tryd.isAgg5) rfl ?_
 refine D.alt ?_ ⟨?_,trivial⟩
 ·
  refine O.loud1 rfl (OpX.pick [] (F := []) rfl (X.call rfl Tryd.call24 clone_nil)) rfl ?_; rintro _ _ ⟨_,⟨rfl,rfl⟩,rfl⟩; refine D.relist (L2 := []) rfl ?_
  refine D.pure rfl (S.buildV (v := .agg #[.string h.name,.string h.comment,.slice none 0 0,.int .i64 0,.int .u8 ((h.os : Nat) : Int)]) [(0,.string h.name),(1,.string h.comment),(2,.slice none 0 0),(4,.int .u8 ((h.os : Nat) : Int))] rfl (fun w => by simp [Instr.build,Instr.fill,Value.cells,Tryd.zeroValue27])) rfl ?_
  refine D.one ?_
  refine O.loud1 rfl (X.alloc Tryd.zeroValue27) rfl ?_; rintro _ _ ⟨b3,rfl,rfl⟩; refine D.relist (L2 := [_]) rfl ?_
  refine D.one ?_
  refine O.loud0 rfl (X.storeA 0 (k := 0) rfl rfl rfl rfl rfl rfl Tryd.sizeOf27 rfl) ?_; rintro _ _ ⟨rfl,rfl⟩; refine D.relist (L2 := [_]) rfl ?_
  refine D.kp [(1,_),(2,_),(3,_)] rfl ?_
  refine C.relist (L2 := [_,_,_]) rfl ?_
  refine C.seq ?_
  refine C.sr ?_
  refine E.pure (S.field rfl fa69_2) rfl ?_
  refine E.still (S.loadA 2 (k := 2) rfl rfl rfl rfl Tryd.isAgg67 Tryd.sizeOf67) rfl ?_
  refine E.loud1 (OpX.pick [] (F := [_,_,_]) rfl (X.call rfl Tryd.call40 (isZero_spec (timeN h.mod)))) rfl ?_; rintro _ _ ⟨_,⟨_,rfl,rfl⟩,rfl⟩; refine E.relist (L2 := [_,_,_,_]) rfl ?_
  refine E.pure (S.notB rfl) rfl ?_
  refine E.kp [(1,_),(2,_),(3,_),(17,_)] rfl ?_
  first | refine C.ifp rfl (fun h17 => ?_) (fun h17 => ?_) | refine C.cond rfl (fun h17 => ?_) (fun h17 => ?_)
  ·
   have hz : h.mod ≠ 0 := by
     intro hz
     rw [timeN,if_pos hz] at h17
     simp at h17
   refine C.region ?_
   refine E.pure (S.field rfl fa69_2) rfl ?_
   refine E.still (S.loadA 3 (k := 2) rfl rfl rfl rfl Tryd.isAgg67 Tryd.sizeOf67) rfl ?_
   refine E.reslot (v := .agg #[.int .u64 0,.int .i64 ((h.mod + 62135596800 : Nat) : Int)]) (by show Value.agg #[.int .u64 0,.int .i64 (timeV h.mod)] = _; rw [timeV,timeN,if_neg hz]) ?_
   refine E.loud1 (OpX.pick [] (F := [_,_,_,_]) rfl (X.call rfl Tryd.call41 (timeUnix_spec h.mod (by omega)))) rfl ?_; rintro _ _ ⟨_,⟨_,rfl,rfl⟩,rfl⟩; refine E.relist (L2 := [_,_,_,_,_]) rfl ?_
   refine E.pure (S.field rfl fa27_3) rfl ?_
   refine E.loud0 (X.store 2 (k := 3) rfl rfl rfl rfl rfl Tryd.sizeOf2) ?_; rintro _ _ ⟨rfl,rfl⟩; refine E.relist (L2 := [_,_,_,_,_]) rfl ?_
   refine E.kp [(1,_),(2,_),(3,_),(17,_)] rfl ?_
   refine C.sr ?_
   refine E.still (S.loadA 2 (k := 0) rfl rfl rfl rfl Tryd.isAgg27 Tryd.sizeOf27) rfl ?_
   refine E.loud0 (X.storeA 3 (k := 0) rfl rfl rfl rfl rfl rfl Tryd.sizeOf27 rfl) ?_; rintro _ _ ⟨rfl,rfl⟩; refine E.relist (L2 := [_,_,_,_,_]) rfl ?_
   refine E.kp [(1,_),(2,_),(3,_),(17,_)] rfl ?_
   refine C.ret ?_
   refine ⟨_,⟨_,_,3,rfl,rfl,rfl⟩,rfl⟩
  have hz : h.mod = 0 := by
    unfold timeN at h17
    split at h17
    · assumption
    · simp at h17
  refine C.skip ?_
  refine C.sr ?_
  refine E.still (S.loadA 1 (k := 0) rfl rfl rfl rfl Tryd.isAgg27 Tryd.sizeOf27) rfl ?_
  refine E.loud0 (X.storeA 2 (k := 0) rfl rfl rfl rfl rfl rfl Tryd.sizeOf27 rfl) ?_; rintro _ _ ⟨rfl,rfl⟩; refine E.relist (L2 := [_,_,_,_]) rfl ?_
  refine E.kp [(1,_),(2,_),(3,_),(17,_)] rfl ?_
  refine C.ret ?_
  refine ⟨_,⟨_,_,2,rfl,rfl,rfl⟩,(by rw [hz]; rfl)⟩
 refine O.loud1 rfl (X.alloc Tryd.zeroValue27) rfl ?_; rintro _ _ ⟨b3,rfl,rfl⟩; refine D.relist (L2 := [_]) rfl ?_
 refine D.one ?_
 refine O.loud1 rfl (OpX.pick [] (F := [_]) rfl (X.call rfl Tryd.call24 clone_nil)) rfl ?_; rintro _ _ ⟨_,⟨rfl,rfl⟩,rfl⟩; refine D.relist (L2 := [_]) rfl ?_
 refine D.pure rfl (S.buildV (v := .agg #[.string h.name,.string h.comment,.slice none 0 0,.int .i64 0,.int .u8 ((h.os : Nat) : Int)]) [(0,.string h.name),(1,.string h.comment),(2,.slice none 0 0),(4,.int .u8 ((h.os : Nat) : Int))] rfl (fun w => by simp [Instr.build,Instr.fill,Value.cells,Tryd.zeroValue27])) rfl ?_
 refine D.one ?_
 refine O.loud0 rfl (X.storeA 0 (k := 0) rfl rfl rfl rfl rfl rfl Tryd.sizeOf27 rfl) ?_; rintro _ _ ⟨rfl,rfl⟩; refine D.relist (L2 := [_]) rfl ?_
 refine D.kp [(1,_),(2,_),(3,_)] rfl ?_
 refine C.relist (L2 := [_,_,_]) rfl ?_
 refine C.seq ?_
 refine C.sr ?_
 refine E.pure (S.field rfl fa69_2) rfl ?_
 refine E.still (S.loadA 2 (k := 2) rfl rfl rfl rfl Tryd.isAgg67 Tryd.sizeOf67) rfl ?_
 refine E.loud1 (OpX.pick [] (F := [_,_,_]) rfl (X.call rfl Tryd.call40 (isZero_spec (timeN h.mod)))) rfl ?_; rintro _ _ ⟨_,⟨_,rfl,rfl⟩,rfl⟩; refine E.relist (L2 := [_,_,_,_]) rfl ?_
 refine E.pure (S.notB rfl) rfl ?_
 refine E.kp [(1,_),(2,_),(3,_),(17,_)] rfl ?_
 first | refine C.ifp rfl (fun h17 => ?_) (fun h17 => ?_) | refine C.cond rfl (fun h17 => ?_) (fun h17 => ?_)
 ·
  have hz : h.mod ≠ 0 := by
    intro hz
    rw [timeN,if_pos hz] at h17
    simp at h17
  refine C.region ?_
  refine E.pure (S.field rfl fa69_2) rfl ?_
  refine E.still (S.loadA 3 (k := 2) rfl rfl rfl rfl Tryd.isAgg67 Tryd.sizeOf67) rfl ?_
  refine E.reslot (v := .agg #[.int .u64 0,.int .i64 ((h.mod + 62135596800 : Nat) : Int)]) (by show Value.agg #[.int .u64 0,.int .i64 (timeV h.mod)] = _; rw [timeV,timeN,if_neg hz]) ?_
  refine E.loud1 (OpX.pick [] (F := [_,_,_,_]) rfl (X.call rfl Tryd.call41 (timeUnix_spec h.mod (by omega)))) rfl ?_; rintro _ _ ⟨_,⟨_,rfl,rfl⟩,rfl⟩; refine E.relist (L2 := [_,_,_,_,_]) rfl ?_
  refine E.pure (S.field rfl fa27_3) rfl ?_
  refine E.loud0 (X.store 2 (k := 3) rfl rfl rfl rfl rfl Tryd.sizeOf2) ?_; rintro _ _ ⟨rfl,rfl⟩; refine E.relist (L2 := [_,_,_,_,_]) rfl ?_
  refine E.kp [(1,_),(2,_),(3,_),(17,_)] rfl ?_
  refine C.sr ?_
  refine E.still (S.loadA 2 (k := 0) rfl rfl rfl rfl Tryd.isAgg27 Tryd.sizeOf27) rfl ?_
  refine E.loud0 (X.storeA 3 (k := 0) rfl rfl rfl rfl rfl rfl Tryd.sizeOf27 rfl) ?_; rintro _ _ ⟨rfl,rfl⟩; refine E.relist (L2 := [_,_,_,_,_]) rfl ?_
  refine E.kp [(1,_),(2,_),(3,_),(17,_)] rfl ?_
  refine C.ret ?_
  refine ⟨_,⟨_,_,3,rfl,rfl,rfl⟩,rfl⟩
 have hz : h.mod = 0 := by
   unfold timeN at h17
   split at h17
   · assumption
   · simp at h17
 refine C.skip ?_
 refine C.sr ?_
 refine E.still (S.loadA 1 (k := 0) rfl rfl rfl rfl Tryd.isAgg27 Tryd.sizeOf27) rfl ?_
 refine E.loud0 (X.storeA 2 (k := 0) rfl rfl rfl rfl rfl rfl Tryd.sizeOf27 rfl) ?_; rintro _ _ ⟨rfl,rfl⟩; refine E.relist (L2 := [_,_,_,_]) rfl ?_
 refine E.kp [(1,_),(2,_),(3,_),(17,_)] rfl ?_
 refine C.ret ?_
 refine ⟨_,⟨_,_,2,rfl,rfl,rfl⟩,(by rw [hz]; rfl)⟩
theorem headerOf_some {K : Known} (h : Hd) (hm : h.mod < 4294967296) (eb : Nat) (d : List UInt8) (hd : d.length < 65536) : Fn Tryd.prog K 28 #[.agg #[.string h.comment,.slice (some ⟨eb,0,none⟩) d.length d.length,.int .u64 0,.int .i64 (timeV h.mod),.string h.name,.int .u8 ((h.os : Nat) : Int)]] ([⟨eb,0,bytesV d⟩]) (fun r L => ∃ v g,Own d v g ∧ g ∈ L ∧ r = .agg #[.string h.name,.string h.comment,v,.int .i64 ((h.mod : Nat) : Int),.int .u8 ((h.os : Nat) : Int)]) := by
 refine Fn.intro (args := [.agg #[.string h.comment,.slice (some ⟨eb,0,none⟩) d.length d.length,.int .u64 0,.int .i64 (timeV h.mod),.string h.name,.int .u8 ((h.os : Nat) : Int)]]) (RR := RetC 2 5  _) Tryd.func28 rfl rfl Tryd.ntmps28 (resC Tryd.results28 Tryd.isAgg27 Tryd.sizeOf27) ?_
 refine C.reenv (env2 := [(0,.agg #[.string h.comment,.slice (some ⟨eb,0,none⟩) d.length d.length,.int .u64 0,.int .i64 (timeV h.mod),.string h.name,.int .u8 ((h.os : Nat) : Int)])]) rfl ?_
 refine C.sr ?_
 refine E.loud1 (X.box rfl) rfl ?_; rintro _ _ ⟨b1,rfl,rfl⟩; refine E.relist (L2 := [_,_]) rfl ?_
 refine E.loud1 (X.alloc Tryd.zeroValue27) rfl ?_; rintro _ _ ⟨b2,rfl,rfl⟩; refine E.relist (L2 := [_,_,_]) rfl ?_
 refine E.kp [(1,_),(2,_)] rfl ?_
 refine C.seq ?_
 refine C.known ?_
 intro K2 hK2 hc2
 have hKB : KB K2 eb 0 d := fun j hj => hc2 ⟨eb,0,bytesV d⟩ (.tail _ (.tail _ (.head _))) j _ (bytesV_get hj)
 refine C.draw [0,1,0,4,0,16,32,0,128,330,0,2047] (.pure 0 1532 (.pure 1 1533 (.pure 2 1523 (.pure 3 1527 (.pure 4 1423 (.pure 5 1439 (.pure 7 1151 (.pure 8 1279 (.alt 6 (.pure 9 1535 (.alt 10 (.alt 11 .done .stop) .stop)) (.alt 10 (.alt 6 (.pure 9 1535 (.alt 11 .done .stop)) .stop) .stop)))))))))) mixed (by decide +kernel) ?_
 refine D.pure rfl (S.field rfl fa69_3) rfl ?_
 refine D.known rfl (loadBaseK rfl (hc2 ⟨b1,0,_⟩ (.tail _ (.head _)) 4 _ rfl) Tryd.isAgg9) rfl ?_
 refine D.pure rfl (S.field rfl fa69_0) rfl ?_
 refine D.known rfl (loadBaseK rfl (hc2 ⟨b1,0,_⟩ (.tail _ (.head _)) 0 _ rfl) Tryd.isAgg9) rfl ?_
 refine D.pure rfl (S.field rfl fa69_1) rfl ?_
 refine D.known rfl (loadBaseK rfl (hc2 ⟨b1,0,_⟩ (.tail _ (.head _)) 1 _ rfl) Tryd.isAgg22) rfl ?_
 refine D.pure rfl (S.field rfl fa69_4) rfl ?_
 refine D.known rfl (loadBaseK rfl (hc2 ⟨b1,0,_⟩ (.tail _ (.head _)) 5 _ rfl) Tryd.isAgg5) rfl ?_
 refine D.alt ?_ ⟨?_,trivial⟩
 ·
  refine O.loud1 rfl (X.call rfl Tryd.call24 (clone_spec eb 0 d.length d hKB.reads (by omega))) rfl ?_; rintro _ _ ⟨g,⟨cb,co,cc,cs,rfl,rfl,hcc⟩,rfl⟩; refine D.relist (L2 := [_]) rfl ?_
  refine D.pure rfl (S.buildV (v := .agg #[.string h.name,.string h.comment,.slice (some ⟨cb,co,none⟩) d.length cc,.int .i64 0,.int .u8 ((h.os : Nat) : Int)]) [(0,.string h.name),(1,.string h.comment),(2,.slice (some ⟨cb,co,none⟩) d.length cc),(4,.int .u8 ((h.os : Nat) : Int))] rfl (fun w => by simp [Instr.build,Instr.fill,Value.cells,Tryd.zeroValue27])) rfl ?_
  refine D.one ?_
  refine O.loud1 rfl (X.alloc Tryd.zeroValue27) rfl ?_; rintro _ _ ⟨b3,rfl,rfl⟩; refine D.relist (L2 := [_,_]) rfl ?_
  refine D.one ?_
  refine O.loud0 rfl (X.storeA 0 (k := 0) rfl rfl rfl rfl rfl rfl Tryd.sizeOf27 rfl) ?_; rintro _ _ ⟨rfl,rfl⟩; refine D.relist (L2 := [_,_]) rfl ?_
  refine D.kp [(1,_),(2,_),(3,_)] rfl ?_
  refine C.relist (L2 := [_,_,_,_,_]) rfl ?_
  refine C.seq ?_
  refine C.sr ?_
  refine E.pure (S.field rfl fa69_2) rfl ?_
  refine E.still (S.loadA 3 (k := 2) rfl rfl rfl rfl Tryd.isAgg67 Tryd.sizeOf67) rfl ?_
  refine E.loud1 (OpX.pick [] (F := [_,_,_,_,_]) rfl (X.call rfl Tryd.call40 (isZero_spec (timeN h.mod)))) rfl ?_; rintro _ _ ⟨_,⟨_,rfl,rfl⟩,rfl⟩; refine E.relist (L2 := [_,_,_,_,_,_]) rfl ?_
  refine E.pure (S.notB rfl) rfl ?_
  refine E.kp [(1,_),(2,_),(3,_),(17,_)] rfl ?_
  first | refine C.ifp rfl (fun h17 => ?_) (fun h17 => ?_) | refine C.cond rfl (fun h17 => ?_) (fun h17 => ?_)
  ·
   have hz : h.mod ≠ 0 := by
     intro hz
     rw [timeN,if_pos hz] at h17
     simp at h17
   refine C.region ?_
   refine E.pure (S.field rfl fa69_2) rfl ?_
   refine E.still (S.loadA 4 (k := 2) rfl rfl rfl rfl Tryd.isAgg67 Tryd.sizeOf67) rfl ?_
   refine E.reslot (v := .agg #[.int .u64 0,.int .i64 ((h.mod + 62135596800 : Nat) : Int)]) (by show Value.agg #[.int .u64 0,.int .i64 (timeV h.mod)] = _; rw [timeV,timeN,if_neg hz]) ?_
   refine E.loud1 (OpX.pick [] (F := [_,_,_,_,_,_]) rfl (X.call rfl Tryd.call41 (timeUnix_spec h.mod (by omega)))) rfl ?_; rintro _ _ ⟨_,⟨_,rfl,rfl⟩,rfl⟩; refine E.relist (L2 := [_,_,_,_,_,_,_]) rfl ?_
   refine E.pure (S.field rfl fa27_3) rfl ?_
   refine E.loud0 (X.store 2 (k := 3) rfl rfl rfl rfl rfl Tryd.sizeOf2) ?_; rintro _ _ ⟨rfl,rfl⟩; refine E.relist (L2 := [_,_,_,_,_,_,_]) rfl ?_
   refine E.kp [(1,_),(2,_),(3,_),(17,_)] rfl ?_
   refine C.sr ?_
   refine E.still (S.loadA 2 (k := 0) rfl rfl rfl rfl Tryd.isAgg27 Tryd.sizeOf27) rfl ?_
   refine E.loud0 (X.storeA 4 (k := 0) rfl rfl rfl rfl rfl rfl Tryd.sizeOf27 rfl) ?_; rintro _ _ ⟨rfl,rfl⟩; refine E.relist (L2 := [_,_,_,_,_,_,_]) rfl ?_
   refine E.kp [(1,_),(2,_),(3,_),(17,_)] rfl ?_
   refine C.ret ?_
   refine ⟨_,⟨_,_,4,rfl,rfl,rfl⟩,_,⟨cb,co,bytesV d ++ cs⟩,⟨cb,co,cc,cs,rfl,rfl,hcc⟩,by simp,rfl⟩
  have hz : h.mod = 0 := by
    unfold timeN at h17
    split at h17
    · assumption
    · simp at h17
  refine C.skip ?_
  refine C.sr ?_
  refine E.still (S.loadA 1 (k := 0) rfl rfl rfl rfl Tryd.isAgg27 Tryd.sizeOf27) rfl ?_
  refine E.loud0 (X.storeA 3 (k := 0) rfl rfl rfl rfl rfl rfl Tryd.sizeOf27 rfl) ?_; rintro _ _ ⟨rfl,rfl⟩; refine E.relist (L2 := [_,_,_,_,_,_]) rfl ?_
  refine E.kp [(1,_),(2,_),(3,_),(17,_)] rfl ?_
  refine C.ret ?_
  refine ⟨_,⟨_,_,3,rfl,rfl,rfl⟩,_,⟨cb,co,bytesV d ++ cs⟩,⟨cb,co,cc,cs,rfl,rfl,hcc⟩,by simp,(by rw [hz]; rfl)⟩
 refine O.loud1 rfl (X.alloc Tryd.zeroValue27) rfl ?_; rintro _ _ ⟨b3,rfl,rfl⟩; refine D.relist (L2 := [_]) rfl ?_
 refine D.one ?_
 refine O.loud1 rfl (X.call rfl Tryd.call24 (clone_spec eb 0 d.length d hKB.reads (by omega))) rfl ?_; rintro _ _ ⟨g,⟨cb,co,cc,cs,rfl,rfl,hcc⟩,rfl⟩; refine D.relist (L2 := [_,_]) rfl ?_
 refine D.pure rfl (S.buildV (v := .agg #[.string h.name,.string h.comment,.slice (some ⟨cb,co,none⟩) d.length cc,.int .i64 0,.int .u8 ((h.os : Nat) : Int)]) [(0,.string h.name),(1,.string h.comment),(2,.slice (some ⟨cb,co,none⟩) d.length cc),(4,.int .u8 ((h.os : Nat) : Int))] rfl (fun w => by simp [Instr.build,Instr.fill,Value.cells,Tryd.zeroValue27])) rfl ?_
 refine D.one ?_
 refine O.loud0 rfl (X.storeA 1 (k := 0) rfl rfl rfl rfl rfl rfl Tryd.sizeOf27 rfl) ?_; rintro _ _ ⟨rfl,rfl⟩; refine D.relist (L2 := [_,_]) rfl ?_
 refine D.kp [(1,_),(2,_),(3,_)] rfl ?_
 refine C.relist (L2 := [_,_,_,_,_]) rfl ?_
 refine C.seq ?_
 refine C.sr ?_
 refine E.pure (S.field rfl fa69_2) rfl ?_
 refine E.still (S.loadA 3 (k := 2) rfl rfl rfl rfl Tryd.isAgg67 Tryd.sizeOf67) rfl ?_
 refine E.loud1 (OpX.pick [] (F := [_,_,_,_,_]) rfl (X.call rfl Tryd.call40 (isZero_spec (timeN h.mod)))) rfl ?_; rintro _ _ ⟨_,⟨_,rfl,rfl⟩,rfl⟩; refine E.relist (L2 := [_,_,_,_,_,_]) rfl ?_
 refine E.pure (S.notB rfl) rfl ?_
 refine E.kp [(1,_),(2,_),(3,_),(17,_)] rfl ?_
 first | refine C.ifp rfl (fun h17 => ?_) (fun h17 => ?_) | refine C.cond rfl (fun h17 => ?_) (fun h17 => ?_)
 ·
  have hz : h.mod ≠ 0 := by
    intro hz
    rw [timeN,if_pos hz] at h17
    simp at h17
  refine C.region ?_
  refine E.pure (S.field rfl fa69_2) rfl ?_
  refine E.still (S.loadA 4 (k := 2) rfl rfl rfl rfl Tryd.isAgg67 Tryd.sizeOf67) rfl ?_
  refine E.reslot (v := .agg #[.int .u64 0,.int .i64 ((h.mod + 62135596800 : Nat) : Int)]) (by show Value.agg #[.int .u64 0,.int .i64 (timeV h.mod)] = _; rw [timeV,timeN,if_neg hz]) ?_
  refine E.loud1 (OpX.pick [] (F := [_,_,_,_,_,_]) rfl (X.call rfl Tryd.call41 (timeUnix_spec h.mod (by omega)))) rfl ?_; rintro _ _ ⟨_,⟨_,rfl,rfl⟩,rfl⟩; refine E.relist (L2 := [_,_,_,_,_,_,_]) rfl ?_
  refine E.pure (S.field rfl fa27_3) rfl ?_
  refine E.loud0 (X.store 3 (k := 3) rfl rfl rfl rfl rfl Tryd.sizeOf2) ?_; rintro _ _ ⟨rfl,rfl⟩; refine E.relist (L2 := [_,_,_,_,_,_,_]) rfl ?_
  refine E.kp [(1,_),(2,_),(3,_),(17,_)] rfl ?_
  refine C.sr ?_
  refine E.still (S.loadA 3 (k := 0) rfl rfl rfl rfl Tryd.isAgg27 Tryd.sizeOf27) rfl ?_
  refine E.loud0 (X.storeA 4 (k := 0) rfl rfl rfl rfl rfl rfl Tryd.sizeOf27 rfl) ?_; rintro _ _ ⟨rfl,rfl⟩; refine E.relist (L2 := [_,_,_,_,_,_,_]) rfl ?_
  refine E.kp [(1,_),(2,_),(3,_),(17,_)] rfl ?_
  refine C.ret ?_
  refine ⟨_,⟨_,_,4,rfl,rfl,rfl⟩,_,⟨cb,co,bytesV d ++ cs⟩,⟨cb,co,cc,cs,rfl,rfl,hcc⟩,by simp,rfl⟩
 have hz : h.mod = 0 := by
   unfold timeN at h17
   split at h17
   · assumption
   · simp at h17
 refine C.skip ?_
 refine C.sr ?_
 refine E.still (S.loadA 2 (k := 0) rfl rfl rfl rfl Tryd.isAgg27 Tryd.sizeOf27) rfl ?_
 refine E.loud0 (X.storeA 3 (k := 0) rfl rfl rfl rfl rfl rfl Tryd.sizeOf27 rfl) ?_; rintro _ _ ⟨rfl,rfl⟩; refine E.relist (L2 := [_,_,_,_,_,_]) rfl ?_
 refine E.kp [(1,_),(2,_),(3,_),(17,_)] rfl ?_
 refine C.ret ?_
 refine ⟨_,⟨_,_,3,rfl,rfl,rfl⟩,_,⟨cb,co,bytesV d ++ cs⟩,⟨cb,co,cc,cs,rfl,rfl,hcc⟩,by simp,(by rw [hz]; rfl)⟩
theorem headerOf_spec {K : Known} (h : Hd) (hm : h.mod < 4294967296) (xa : Option Addr) (xn : Nat) (X : Frag) (hX : ExAt h.extra xa xn X) :
    Fn Tryd.prog K 28 #[.agg #[.string h.comment,.slice xa xn xn,.int .u64 0,.int .i64 (timeV h.mod),.string h.name,.int .u8 ((h.os : Nat) : Int)]] [X] (fun r L => ∃ v g,ExOut h.extra v g ∧ L = [g] ∧ r = .agg #[.string h.name,.string h.comment,v,.int .i64 ((h.mod : Nat) : Int),.int .u8 ((h.os : Nat) : Int)]) := by
  cases hx : h.extra with
  | none =>
    rw [hx] at hX
    obtain ⟨rfl,rfl,_⟩ := hX
    refine Fn.lose (Fn.frame (F := [X]) (headerOf_none h hm)) ?_
    rintro v _ ⟨L1,rfl,rfl⟩
    refine ⟨[X],L1,Same.perm List.perm_append_comm,.slice none 0 0,X,rfl,rfl,rfl⟩
  | some d =>
    rw [hx] at hX
    obtain ⟨b,rfl,rfl,rfl,hd⟩ := hX
    refine Fn.lose (headerOf_some h hm b d hd) ?_
    rintro r L' ⟨v,g,h1,h2,rfl⟩
    obtain ⟨A',B',rfl⟩ := List.append_of_mem h2
    exact ⟨[g],A' ++ B',Same.perm List.perm_middle,v,g,h1,rfl,rfl⟩


theorem rd4_mod (l : List UInt8) (f d : Nat) (h : Hd) : (rd4 l f d h).2.2.mod = h.mod := by
  unfold rd4; split
  · rfl
  · split
    · rfl
    · split <;> rfl
theorem rd3_mod (l : List UInt8) (f d : Nat) (h : Hd) : (rd3 l f d h).2.2.mod = h.mod := by
  unfold rd3; split
  · exact rd4_mod ..
  · split
    · rfl
    · exact rd4_mod ..
theorem rd2_mod (l : List UInt8) (f d : Nat) (h : Hd) : (rd2 l f d h).2.2.mod = h.mod := by
  unfold rd2; split
  · exact rd3_mod ..
  · split
    · rfl
    · exact rd3_mod ..
theorem rd1_mod (l : List UInt8) (f d : Nat) (h : Hd) : (rd1 l f d h).2.2.mod = h.mod := by
  unfold rd1; split
  · exact rd2_mod ..
  · split
    · rfl
    · split
      · rfl
      · exact rd2_mod ..
theorem readHead_mod (l : List UInt8) : (readHead l).2.2.mod < 4294967296 := by
  unfold readHead; split
  · exact Nat.zero_lt_succ _
  · split
    · rw [rd1_mod]; exact le32_lt (UInt8.toNat_lt _) (UInt8.toNat_lt _) (UInt8.toNat_lt _) (UInt8.toNat_lt _)
    · exact Nat.zero_lt_succ _

end Go.Eng
namespace Go.Eng
open Go Go.Proofs
set_option maxRecDepth 100000

theorem sizes_le : ∀ x ∈ sizesL,x ≤ 258 := by decide
theorem more_le : ∀ x ∈ moreL,x ≤ 5 := by decide
theorem getD_le {l : List Nat} {m : Nat} (h : ∀ x ∈ l,x ≤ m) (i : Nat) : l.getD i 0 ≤ m := by
  rcases Nat.lt_or_ge i l.length with h1 | h1
  · rw [List.getD_eq_getElem?_getD,List.getElem?_eq_getElem h1]; exact h _ (List.getElem_mem h1)
  · rw [List.getD_eq_getElem?_getD,List.getElem?_eq_none h1]; exact Nat.zero_le _
theorem copyR_le {t : Tabs} {D : List UInt8} {v p n d p2 : Nat} (h : copyR t D v p = some (n,d,p2)) : n ≤ 290 := by
  unfold copyR at h
  have h1 := getD_le sizes_le (v - 257)
  have h2 := takeB_lt D p (moreL.getD (v - 257) 0)
  have h3 : 2 ^ moreL.getD (v - 257) 0 ≤ 2 ^ 5 := Nat.pow_le_pow_right (by omega) (getD_le more_le _)
  split at h
  · cases h
  · split at h
    · cases h
    · split at h
      · cases h
      · split at h
        · cases h
        · simp only [Option.some.injEq,Prod.mk.injEq] at h
          omega
theorem copyN_len (out : List UInt8) (d n : Nat) : (copyN out d n).length = out.length + n := by
  induction n with
  | zero => rfl
  | succ n ih => rw [copyN,List.length_append,ih]; rfl

theorem run_len_aux (D : List UInt8) : ∀ k ph out p,8 * D.length - p < k → (run D ph out p).1.length ≤ out.length + 300 * (8 * D.length - p) := by
  intro k
  induction k with
  | zero => exact fun ph out p hk => absurd hk (Nat.not_lt_zero _)
  | succ k ih =>
    intro ph out p hk
    have st : ∀ ph o2 p2,p < p2 ∧ p2 ≤ 8 * D.length → o2.length ≤ out.length + 300 * (p2 - p) → (run D ph o2 p2).1.length ≤ out.length + 300 * (8 * D.length - p) := fun ph o2 p2 h h2 => by
      have := ih ph o2 p2 (by omega)
      omega
    have n0 : out.length ≤ out.length + 300 * (8 * D.length - p) := Nat.le_add_right _ _
    rw [run.eq_def]
    split
    · split
      · exact n0
      · rename_i hl
        unfold left at hl
        split
        · split
          · exact n0
          · rename_i n hn
            unfold storedN at hn
            split at hn
            · cases hn
            · split
              · simp only [List.length_append,List.length_drop]; omega
              · split
                · simp only [List.length_append,List.length_take,List.length_drop]; omega
                · split
                  · rename_i h
                    exact st _ _ _ h (by simp only [List.length_append,List.length_take,List.length_drop]; omega)
                  · exact n0
        · split
          · split
            · rename_i h; exact st _ _ _ h (Nat.le_add_right _ _)
            · exact n0
          · split
            · split
              · exact n0
              · split
                · rename_i h; exact st _ _ _ h (Nat.le_add_right _ _)
                · exact n0
            · exact n0
    · split
      · exact n0
      · split
        · split
          · rename_i h; exact st _ _ _ h (by rw [List.length_append,List.length_singleton]; omega)
          · exact n0
        · split
          · split
            · exact n0
            · split
              · rename_i h; exact st _ _ _ h (Nat.le_add_right _ _)
              · exact n0
          · split
            · exact n0
            · split
              · exact n0
              · rename_i n d p2 hc
                have hn := copyR_le hc
                split
                · exact n0
                · split
                  · rename_i h; exact st _ _ _ h (by rw [copyN_len]; omega)
                  · exact n0
theorem run_len (D : List UInt8) (ph : Ph) (out : List UInt8) (p : Nat) : (run D ph out p).1.length ≤ out.length + 300 * (8 * D.length - p) := run_len_aux D _ ph out p (Nat.lt_succ_self _)

theorem gzR_len_aux (ms : Bool) : ∀ k D,D.length < k → D.length ≤ 65536 → (gzR ms D).1.length ≤ 157286400 * D.length := by
  intro k
  induction k with
  | zero => exact fun D hk _ => absurd hk (Nat.not_lt_zero _)
  | succ k ih =>
    intro D hk hD
    have h1 := run_len D .next [] 0
    simp only [List.length_nil] at h1
    rw [gzR]
    split
    · simp only; omega
    · split
      · simp only; omega
      · split
        · simp only; omega
        · split
          · simp only; omega
          · split
            · simp only; omega
            · split
              · rename_i h
                have := ih _ (Nat.lt_of_lt_of_le h (Nat.le_of_lt_succ hk)) (by omega)
                simp only [List.length_append]
                omega
              · simp only; omega
theorem gzR_len (ms : Bool) (D : List UInt8) (h : D.length ≤ 65536) : (gzR ms D).1.length ≤ 10307921510400 := by
  have := gzR_len_aux ms _ D (Nat.lt_succ_self _) h
  omega
end Go.Eng
namespace Go.Eng
open Go Go.Proofs
set_option maxRecDepth 100000

set_option maxHeartbeats 1000000
/-- A slice of ints. -/
def SzA (K : Known) (sv : Value) : Prop := ∃ a n c,sv = .slice a n c ∧ n ≤ 9223372036854775807 ∧ (n = 0 ∨ ∃ b o,a = some ⟨b,o,none⟩ ∧ ∀ j,j < n → ∃ v : Int,cellAt K b (o + j * 1) = some (.int .i64 v))
theorem SzA.nil (K : Known) : SzA K (.slice none 0 0) := ⟨none,0,0,rfl,by decide,.inl rfl⟩

theorem sizeAt_none {K : Known} (a : Option Addr) (c i : Nat) : Fn Tryd.prog K 43 #[.slice a 0 c,.int .i64 ((i : Nat) : Int)] ([]) (fun r L => r = .int .i64 ((512 : Nat) : Int) ∧ L = []) := by
 refine Fn.intro (args := [.slice a 0 c,.int .i64 ((i : Nat) : Int)]) (RR := Ret1 4 _) Tryd.func43 rfl rfl Tryd.ntmps43 (res1 Tryd.results43) ?_
 refine C.reenv (env2 := [(0,.slice a 0 c),(1,.int .i64 ((i : Nat) : Int))]) rfl ?_
 refine C.sr ?_
 refine E.pure (S.assign rfl) rfl ?_
 refine E.kp [(0,_),(1,_),(4,_)] rfl ?_
 refine C.seq ?_
 refine C.sr ?_
 refine E.pure (S.move rfl) rfl ?_
 refine E.pure (S.lenSl rfl Tryd.underlying39) rfl ?_
 refine E.pure (S.eq (b := ((0 : Nat) : Int)) rfl rfl) rfl ?_
 refine E.reslot (v := .bool true) (congrArg Value.bool (by decide)) ?_
 refine E.kp [(0,_),(1,_),(4,_),(7,_)] rfl ?_
 refine C.yes rfl (rfl) ?_
 refine C.sr ?_
 refine E.pure (S.assign rfl) rfl ?_
 refine E.kp [(0,_),(1,_),(4,_),(7,_)] rfl ?_
 refine C.ret ?_
 exact ⟨_,rfl,rfl,rfl⟩
theorem clamp (v : Int) : ∃ k : Nat,1 ≤ k ∧ k ≤ 4096 ∧ (if (if v < 4096 then v else 4096) > 1 then (if v < 4096 then v else 4096) else (1 : Int)) = (k : Int) := by
  by_cases h1 : v < 4096
  · rw [if_pos h1]
    by_cases h2 : v > 1
    · rw [if_pos h2]; exact ⟨v.toNat,by omega,by omega,by omega⟩
    · rw [if_neg h2]; exact ⟨1,by omega,by omega,rfl⟩
  · rw [if_neg h1,if_pos (by decide)]; exact ⟨4096,by omega,by omega,rfl⟩

theorem sizeAt_some {K : Known} (b o n c i : Nat) (hn0 : 0 < n) (hn : n ≤ 9223372036854775807) (hv : ∀ j,j < n → ∃ v : Int,cellAt K b (o + j * 1) = some (.int .i64 v)) : Fn Tryd.prog K 43 #[.slice (some ⟨b,o,none⟩) (n) (c),.int .i64 ((i : Nat) : Int)] ([]) (fun r L => ∃ k : Nat,1 ≤ k ∧ k ≤ 4096 ∧ r = .int .i64 (k : Int) ∧ L = []) := by
 refine Fn.intro (args := [.slice (some ⟨b,o,none⟩) (n) (c),.int .i64 ((i : Nat) : Int)]) (RR := Ret1 4 _) Tryd.func43 rfl rfl Tryd.ntmps43 (res1 Tryd.results43) ?_
 refine C.reenv (env2 := [(0,.slice (some ⟨b,o,none⟩) (n) (c)),(1,.int .i64 ((i : Nat) : Int))]) rfl ?_
 refine C.sr ?_
 refine E.pure (S.assign rfl) rfl ?_
 refine E.kp [(0,_),(1,_),(4,_)] rfl ?_
 refine C.seq ?_
 refine C.sr ?_
 refine E.pure (S.move rfl) rfl ?_
 refine E.pure (S.lenSl rfl Tryd.underlying39) rfl ?_
 refine E.pure (S.eq (b := ((0 : Nat) : Int)) rfl rfl) rfl ?_
 refine E.reslot (v := .bool false) (congrArg Value.bool (decide_eq_false (by omega))) ?_
 refine E.kp [(0,_),(1,_),(4,_),(7,_)] rfl ?_
 refine C.no rfl (rfl) ?_
 refine C.skip ?_
 refine C.sr ?_
 refine E.pure (S.move rfl) rfl ?_
 refine E.pure (S.move rfl) rfl ?_
 refine E.pure (S.move rfl) rfl ?_
 refine E.pure (S.lenSl rfl Tryd.underlying39) rfl ?_
 refine E.pure (S.rem (a := ((i : Nat) : Int)) (b := ((n : Nat) : Int)) (r := ((i % n : Nat) : Int)) rfl rfl (by omega) (by rw [← Int.ofNat_tmod])) rfl ?_
 have hil := Nat.mod_lt i hn0
 obtain ⟨v,hcell⟩ := hv (i % n) hil
 refine E.pure (S.ixSl rfl rfl (by omega) Tryd.underlying39 Tryd.sizeOf3) rfl ?_
 refine E.still (S.loadBase rfl hcell Tryd.isAgg3) rfl ?_
 refine E.pure (S.min2 rfl rfl) rfl ?_
 refine E.pure (S.max2 rfl rfl) rfl ?_
 obtain ⟨kk,hk1,hk2,hk3⟩ := clamp v
 refine E.reslot (v := .int .i64 (kk : Int)) (congrArg (Value.int .i64) hk3) ?_
 refine E.pure (S.assign rfl) rfl ?_
 refine E.kp [(0,_),(4,_),(7,_)] rfl ?_
 refine C.ret ?_
 exact ⟨_,rfl,kk,hk1,hk2,rfl,rfl⟩
theorem sizeAt_spec {K : Known} {sv : Value} (h : SzA K sv) (i : Nat) (L : Frags) : Fn Tryd.prog K 43 #[sv,.int .i64 ((i : Nat) : Int)] L fun r L' => ∃ k : Nat,1 ≤ k ∧ k ≤ 4096 ∧ r = .int .i64 (k : Int) ∧ L' = L := by
  obtain ⟨a,n,c,rfl,h1,h2⟩ := h
  refine Fn.mono (R := fun v L' => ∃ L1,(∃ k : Nat,1 ≤ k ∧ k ≤ 4096 ∧ v = .int .i64 (k : Int) ∧ L1 = []) ∧ L' = L1 ++ L) ?_ ?_
  · refine Fn.frame (L := []) (F := L) ?_
    rcases Nat.eq_zero_or_pos n with rfl | h0
    · exact Fn.mono (sizeAt_none a c i) fun v L h => ⟨512,by decide,by decide,h.1,h.2⟩
    · obtain ⟨b,o,rfl,hv⟩ := h2.resolve_left (by omega)
      exact sizeAt_some b o n c i h0 h1 hv
  · rintro v L' ⟨L1,⟨k,h1,h2,rfl,rfl⟩,rfl⟩
    exact ⟨k,h1,h2,rfl,rfl⟩
/-- A result of unpacking: how it opened,the header,the bytes,the end. -/
abbrev UnpR := Nat × Hd × List UInt8 × Nat
def unV (u : UnpR) (ev bv : Value) : Value := .agg #[.int .i64 ((u.1 : Nat) : Int),.string u.2.1.name,.string u.2.1.comment,ev,.int .i64 ((u.2.1.mod : Nat) : Int),.int .u8 ((u.2.1.os : Nat) : Int),bv,.int .i64 ((u.2.2.2 : Nat) : Int)]
/-- Bytes that are read in memory. -/
def RdV (v : Value) (l : List UInt8) (G : Frags) : Prop := ∃ a c,v = .slice a l.length c ∧ ∀ (K : Known) (L : Frags),(∀ f ∈ G,f ∈ L) → (l = [] ∨ ∃ b o,a = some ⟨b,o,none⟩ ∧ Reads K L b o (bytesV l))
def UnpV (u : UnpR) (r : Value) (G : Frags) : Prop := ∃ ev bv,r = unV u ev bv ∧ RdV ev (u.2.1.extra.getD []) G ∧ RdV bv u.2.2.1 G
theorem RdV.mono {v : Value} {l : List UInt8} {G G2 : Frags} (h : RdV v l G) (hs : ∀ f ∈ G,f ∈ G2) : RdV v l G2 := by
  obtain ⟨a,c,e,h⟩ := h
  exact ⟨a,c,e,fun K L hL => h K L fun f hf => hL f (hs f hf)⟩
theorem UnpV.mono {u : UnpR} {r : Value} {G G2 : Frags} (h : UnpV u r G) (hs : ∀ f ∈ G,f ∈ G2) : UnpV u r G2 := by
  obtain ⟨ev,bv,e,h1,h2⟩ := h
  exact ⟨ev,bv,e,h1.mono hs,h2.mono hs⟩
theorem RdV.nil : RdV (.slice none 0 0) [] [] := ⟨none,0,rfl,fun _ _ _ => .inl rfl⟩
theorem exOut_rd {ex : Option (List UInt8)} {v : Value} {g : Frag} (h : ExOut ex v g) : RdV v (ex.getD []) [g] := by
  cases ex with
  | none => have h' : v = _ := h; subst h'; exact ⟨_,_,rfl,fun _ _ _ => .inl rfl⟩
  | some d =>
    obtain ⟨b,o,c,cs,rfl,rfl,_⟩ := h
    exact ⟨_,_,rfl,fun K L hL => .inr ⟨b,o,rfl,Reads.mem (k := 0) (hL _ (.head _)) (by rw [List.drop_zero]; exact List.take_left' rfl)⟩⟩
theorem sl_rd {v : Value} {l : List UInt8} {Lf : Frags} (h : Sl 1 v l.length (bytesV l) Lf) : RdV v l Lf := by
  rcases h.2 with ⟨rfl,h2,rfl⟩ | ⟨b,o,c,cs,rfl,rfl,h3,h4,h5,h6⟩
  · have := List.eq_nil_of_length_eq_zero h2
    subst this
    exact RdV.nil
  · rw [Nat.mul_one] at h6
    exact ⟨_,_,rfl,fun K L hL => .inr ⟨b,o,rfl,Reads.mem (k := 0) (hL _ (.head _)) (by rw [List.drop_zero,bytesV_length]; exact h6)⟩⟩
/-- How rest ends. -/
def RestEnd {K : Known} {ea : Fin 5 → Addr} (src : Src K ea) (zb : Nat) (ms : Bool) (h : Hd) (Y : List UInt8 × ZEnd) (r : Value) (L : Frags) : Prop :=
  ∃ GL f1 f2 f3 LZ,UnpV (0,h,Y.1,Y.2.1) r GL ∧ (∃ l,src.At l f1 f2 f3) ∧ (ms = false → Y.2.1 = 1 → src.At Y.2.2 f1 f2 f3) ∧ ZOld zb LZ ∧ L = GL ++ (f1::f2::f3::LZ)
theorem zRead_spec {K : Known} {ea : Fin 5 → Addr} (hs : Sents K ea) (hc : Codes K) {src : Src K ea} {zb : Nat} {ms : Bool} {Y : List UInt8 × ZEnd} {LZ : Frags} (hZ : ZRd src zb ms Y LZ) (pb po n c : Nat) (cs : List Value) (hn : n = cs.length) (hn0 : 0 < n) (hnc : n ≤ c) (hnl : n ≤ 4611686018427387904) (G : Frags) :
    Fn Tryd.prog K 36 #[.pointer (some ⟨zb,0,none⟩),.slice (some ⟨pb,po,none⟩) (n) (c)] (⟨pb,po,cs⟩::(G ++ LZ)) fun r L => ∃ k er LZ2,r = .tuple #[.int .i64 ((k : Nat) : Int),Er.val ea er] ∧ k ≤ n ∧ k ≤ Y.1.length ∧ L = ⟨pb,po,bytesV (Y.1.take k) ++ cs.drop k⟩::(G ++ LZ2) ∧
      ((er = .none ∧ 0 < k ∧ ZRd src zb ms (Y.1.drop k,Y.2) LZ2) ∨
       (er ≠ .none ∧ k = Y.1.length ∧ kindOf er = Y.2.1 ∧ ∃ f1 f2 f3 LZ,(∃ l,src.At l f1 f2 f3) ∧ (ms = false → Y.2.1 = 1 → src.At Y.2.2 f1 f2 f3) ∧ ZOld zb LZ ∧ LZ2 = f1::f2::f3::LZ)) := by
  obtain ⟨Dt,gv,c0,c1,c2,c3,c4,c5,bs,fb,DK,hb,hD,hg,hY,rfl⟩ := hZ
  have pm : ∀ (B a1 a2 a3 : Frag) (DK : Frags),(B::(G ++ ([a1,a2,a3] ++ DK))).Perm (([a1,a2,a3,B] ++ DK) ++ G) := fun B a1 a2 a3 DK => by
    refine (List.Perm.cons B List.perm_append_comm).trans ?_
    refine List.Perm.trans ?_ (List.Perm.append_right G (List.perm_middle (l₁ := [a1,a2,a3]) (l₂ := DK)).symm)
    exact .refl _
  refine Fn.lose (Fn.perm (pm _ _ _ _ DK) (Fn.frame (F := G) (zRead_walk hs hc src zb ms Y pb po n c cs hn hn0 hnc hnl Dt gv c0 c1 c2 c3 c4 c5 bs fb DK hb hD hg .none rfl hY))) ?_
  rintro v L ⟨L1,⟨L2,J,hS,k,er,rfl,h1,h2,h3⟩,rfl⟩
  have hs2 : ∀ (B : Frag) (LZ : Frags),L2 = B::LZ → Same (L1 ++ G) ((B::(G ++ LZ)) ++ J) := fun B LZ e => by
    subst e
    have q1 := (Same.perm (List.perm_append_comm (l₁ := L1) (l₂ := G))).trans (Same.appendL G hS)
    refine q1.trans (Same.perm ?_)
    rw [← List.append_assoc]
    exact (List.perm_middle (l₁ := G) (l₂ := LZ)).append_right J
  rcases h3 with ⟨rfl,h3,LZ,h4,h5⟩ | ⟨h3,h4,h5,f1,f2,f3,LZ,h6,h7,h8,h9⟩
  · exact ⟨_,J,hs2 _ LZ h5,k,.none,LZ,rfl,h1,h2,rfl,.inl ⟨rfl,h3,h4⟩⟩
  · exact ⟨_,J,hs2 _ _ h9,k,er,_,rfl,h1,h2,rfl,.inr ⟨h3,h4,h5,f1,f2,f3,LZ,h6,h7,h8,rfl⟩⟩
theorem zat_rd {K : Known} {ea : Fin 5 → Addr} {src : Src K ea} {zb : Nat} {h : Hd} {rest : List UInt8} {f1 f2 f3 : Frag} {bs : List Value} {xa : Option Addr} {xn fb : Nat} {DN : Frags} (ms : Bool) (hA : src.At rest f1 f2 f3) (hb : bs.length = 512) (hDN : DecNew src fb DN) :
    ∃ LZ,ZRd src zb ms (gzR ms rest) LZ ∧ ∀ G,Same (G ++ ([f1,f2,f3,⟨zb,0,[.string h.comment,.slice xa xn xn,.int .u64 0,.int .i64 (timeV h.mod),.string h.name,.int .u8 ((h.os : Nat) : Int),.iface src.t src.v,.iface 157 (.pointer (some ⟨fb,0,none⟩)),.int .u32 ((0 : Nat) : Int),.int .u32 0]⟩,⟨zb,10,bs⟩,⟨zb,522,[Er.val ea .none,.bool ms]⟩] ++ DN)) (G ++ LZ) := by
  refine ⟨[⟨zb,0,[.string h.comment,.slice xa xn xn,.int .u64 0,.int .i64 (timeV h.mod),.string h.name,.int .u8 ((h.os : Nat) : Int),.iface src.t src.v,.iface 157 (.pointer (some ⟨fb,0,none⟩)),.int .u32 ((0 : Nat) : Int),.int .u32 0]⟩,⟨zb,10,bs⟩,⟨zb,522,[Er.val ea .none,.bool ms]⟩] ++ (f1::f2::f3::DN),⟨rest,0,.string h.comment,.slice xa xn xn,.int .u64 0,.int .i64 (timeV h.mod),.string h.name,.int .u8 ((h.os : Nat) : Int),bs,fb,f1::f2::f3::DN,hb,hDN.ok hA,Nat.zero_le _,by rw [gzR_eq]; rfl,?_⟩,fun G => Same.appendL G (Same.perm ?_)⟩
  · rw [List.take_zero,crcOn_nil]; rfl
  · exact picks_perm (is := [3,3,3,0,0,0]) (A := [_,_,_,_,_,_]) (F := DN) rfl
theorem lf_out (a1 a2 a3 a4 : Frag) (Lf LZ : Frags) : ([a1,a2,a3,a4] ++ (Lf ++ LZ)).Perm (Lf ++ ([a1,a2,a3,a4] ++ LZ)) := by
  rw [← List.append_assoc,← List.append_assoc]
  exact List.perm_append_comm.append_right LZ

theorem zRead_in3 {K : Known} {ea : Fin 5 → Addr} (hs : Sents K ea) (hc : Codes K) {src : Src K ea} {zb : Nat} {ms : Bool} {Y : List UInt8 × ZEnd} {LZ : Frags} (hZ : ZRd src zb ms Y LZ) (pb po n c : Nat) (cs : List Value) (hn : n = cs.length) (hn0 : 0 < n) (hnc : n ≤ c) (hnl : n ≤ 4611686018427387904) (a1 a2 a3 : Frag) (Lf : Frags) :
    Fn Tryd.prog K 36 #[.pointer (some ⟨zb,0,none⟩),.slice (some ⟨pb,po,none⟩) (n) (c)] (⟨pb,po,cs⟩::a1::a2::a3::(Lf ++ LZ)) fun r L => ∃ k er LZ2,r = .tuple #[.int .i64 ((k : Nat) : Int),Er.val ea er] ∧ k ≤ n ∧ k ≤ Y.1.length ∧ L = ⟨pb,po,bytesV (Y.1.take k) ++ cs.drop k⟩::a1::a2::a3::(Lf ++ LZ2) ∧
      ((er = .none ∧ 0 < k ∧ ZRd src zb ms (Y.1.drop k,Y.2) LZ2) ∨
       (er ≠ .none ∧ k = Y.1.length ∧ kindOf er = Y.2.1 ∧ ∃ f1 f2 f3 LZ,(∃ l,src.At l f1 f2 f3) ∧ (ms = false → Y.2.1 = 1 → src.At Y.2.2 f1 f2 f3) ∧ ZOld zb LZ ∧ LZ2 = f1::f2::f3::LZ)) := by
  have := zRead_spec hs hc hZ pb po n c cs hn hn0 hnc hnl ([a1,a2,a3] ++ Lf)
  simpa only [List.append_assoc,List.cons_append,List.nil_append] using this
theorem sl_one {v : Value} {m : Nat} {xs : List Value} {Lf : Frags} (h : Sl 1 v m xs Lf) : one v = true := by
  rcases h.2 with ⟨rfl,_⟩ | ⟨b,o,c,cs,rfl,_⟩ <;> rfl

theorem rest_walk {K : Known} {ea : Fin 5 → Addr} (hs : Sents K ea) (hc : Codes K) (src : Src K ea) (zb : Nat) (h : Hd) (hm : h.mod < 4294967296) (ms : Bool) (rest : List UInt8) (sv : Value) (hsz : SzA K sv) (hlen : (gzR ms rest).1.length ≤ 70368744177664) (f1 f2 f3 : Frag) (bs : List Value) (xa : Option Addr) (xn : Nat) (Xf : Frag) (fb : Nat) (DN : Frags) (hA : src.At rest f1 f2 f3) (hbs : bs.length = 512) (hX : ExAt h.extra xa xn Xf) (hDN : DecNew src fb DN) : Fn Tryd.prog K 35 #[.pointer (some ⟨zb,0,none⟩),sv] ([f1,f2,f3,⟨zb,0,[.string h.comment,.slice xa xn xn,.int .u64 0,.int .i64 (timeV h.mod),.string h.name,.int .u8 ((h.os : Nat) : Int),.iface src.t src.v,.iface 157 (.pointer (some ⟨fb,0,none⟩)),.int .u32 ((0 : Nat) : Int),.int .u32 0]⟩,⟨zb,10,bs⟩,⟨zb,522,[Er.val ea .none,.bool ms]⟩,Xf] ++ DN) (fun r L => ∃ L2 J,Same L (L2 ++ J) ∧ RestEnd src zb ms h (gzR ms rest) r L2) := by
 refine Fn.intro (args := [.pointer (some ⟨zb,0,none⟩),sv]) (RR := RetC 4 8  _) Tryd.func35 rfl rfl Tryd.ntmps35 (resC Tryd.results35 Tryd.isAgg43 Tryd.sizeOf43) ?_
 refine C.reenv (env2 := [(0,.pointer (some ⟨zb,0,none⟩)),(1,sv)]) rfl ?_
 refine C.sr ?_
 refine E.loud1 (X.alloc Tryd.zeroValue43) rfl ?_; rintro _ _ ⟨b4,rfl,rfl⟩; refine E.relist (L2 := (_::_::_::_::_::_::_::_::_)) rfl ?_
 refine E.relist (L2 := [⟨b4,0,[.int .i64 0,.string ⟨#[]⟩,.string ⟨#[]⟩,.slice none 0 0,.int .i64 0,.int .u8 0,.slice none 0 0,.int .i64 0]⟩,f1,f2,f3,⟨zb,0,[.string h.comment,.slice xa xn xn,.int .u64 0,.int .i64 (timeV h.mod),.string h.name,.int .u8 ((h.os : Nat) : Int),.iface src.t src.v,.iface 157 (.pointer (some ⟨fb,0,none⟩)),.int .u32 ((0 : Nat) : Int),.int .u32 0]⟩,⟨zb,10,bs⟩,⟨zb,522,[Er.val ea .none,.bool ms]⟩,Xf] ++ DN) (by kernel_rfl) ?_
 refine E.kp [(0,_),(1,_),(4,_)] rfl ?_
 refine C.sr ?_
 refine E.pure (S.move rfl) rfl ?_
 refine E.pure (S.nilPtr rfl) rfl ?_
 refine E.pure (S.field rfl fa76_0) rfl ?_
 refine E.still (S.loadA 4 (k := 0) rfl rfl rfl rfl Tryd.isAgg69 Tryd.sizeOf69) rfl ?_
 refine E.loud1 (OpX.pick [7] (F := (_::_::_::_::_::_::_::_)) rfl (X.call rfl Tryd.call28 (headerOf_spec h hm xa xn Xf hX))) rfl ?_; rintro _ _ ⟨_,⟨ev,g,hO,rfl,rfl⟩,rfl⟩; refine E.relist (L2 := (_::_::_::_::_::_::_::_::_)) rfl ?_
 refine E.pure (S.buildV (v := .agg #[.int .i64 0,.string h.name,.string h.comment,ev,.int .i64 ((h.mod : Nat) : Int),.int .u8 ((h.os : Nat) : Int),.slice none 0 0,.int .i64 0]) [(1,.agg #[.string h.name,.string h.comment,ev,.int .i64 ((h.mod : Nat) : Int),.int .u8 ((h.os : Nat) : Int)])] rfl (fun w => by simp [Instr.build,Instr.fill,Value.cells,Tryd.zeroValue43])) rfl ?_
 refine E.loud1 (X.alloc Tryd.zeroValue43) rfl ?_; rintro _ _ ⟨b5,rfl,rfl⟩; refine E.relist (L2 := (_::_::_::_::_::_::_::_::_::_)) rfl ?_
 refine E.loud0 (X.storeA 0 (k := 0) rfl rfl rfl (by simp only [List.all_cons,List.all_nil,exOut_one hO]; rfl) rfl rfl Tryd.sizeOf43 rfl) ?_; rintro _ _ ⟨rfl,rfl⟩; refine E.relist (L2 := (_::_::_::_::_::_::_::_::_::_)) rfl ?_
 refine E.kp [(0,_),(1,_),(4,_),(5,_)] rfl ?_
 refine C.relist (L2 := [⟨b5,0,[.int .i64 0,.string h.name,.string h.comment,ev,.int .i64 ((h.mod : Nat) : Int),.int .u8 ((h.os : Nat) : Int),.slice none 0 0,.int .i64 0]⟩,g,⟨b4,0,[.int .i64 0,.string ⟨#[]⟩,.string ⟨#[]⟩,.slice none 0 0,.int .i64 0,.int .u8 0,.slice none 0 0,.int .i64 0]⟩] ++ ([f1,f2,f3,⟨zb,0,[.string h.comment,.slice xa xn xn,.int .u64 0,.int .i64 (timeV h.mod),.string h.name,.int .u8 ((h.os : Nat) : Int),.iface src.t src.v,.iface 157 (.pointer (some ⟨fb,0,none⟩)),.int .u32 ((0 : Nat) : Int),.int .u32 0]⟩,⟨zb,10,bs⟩,⟨zb,522,[Er.val ea .none,.bool ms]⟩] ++ DN)) rfl ?_
 obtain ⟨LZ0,hZ0,hSm⟩ := zat_rd (zb := zb) (h := h) (xa := xa) (xn := xn) ms hA hbs hDN
 refine C.same (hSm _) ?_
 refine C.sr ?_
 refine E.pure (S.assign rfl) rfl ?_
 refine E.kp [(0,_),(1,_),(4,_),(5,_),(6,_)] rfl ?_
 refine C.block ?_
 refine C.loop (fun mm ee ll => ∃ (i : Nat),∃ (k : Nat),∃ (bv : Value),∃ (Lf : Frags),∃ (LZ : Frags),keeps ee [0,1,4,5,6] = some [(0,.pointer (some ⟨zb,0,none⟩)),(1,sv),(4,.pointer (some ⟨b4,0,none⟩)),(5,.pointer (some ⟨b5,0,none⟩)),(6,.int .i64 ((i : Nat) : Int))] ∧ ll = [⟨b5,0,[.int .i64 0,.string h.name,.string h.comment,ev,.int .i64 ((h.mod : Nat) : Int),.int .u8 ((h.os : Nat) : Int),bv,.int .i64 0]⟩,g,⟨b4,0,[.int .i64 0,.string ⟨#[]⟩,.string ⟨#[]⟩,.slice none 0 0,.int .i64 0,.int .u8 0,.slice none 0 0,.int .i64 0]⟩] ++ (Lf ++ LZ) ∧ (ZRd src zb ms ((gzR ms rest).1.drop k,(gzR ms rest).2) LZ) ∧ (Sl 1 bv ((gzR ms rest).1.take k).length (bytesV ((gzR ms rest).1.take k)) Lf) ∧ (i ≤ k) ∧ (k ≤ (gzR ms rest).1.length) ∧ mm = (gzR ms rest).1.length - k) (_) ⟨0,0,.slice none 0 0,[],LZ0,rfl,rfl,hZ0,Sl.nil 1,Nat.le_refl _,Nat.zero_le _,rfl⟩ ?_
 rintro m0 _ _ ⟨i,k,bv,Lf,LZ,hk0,rfl,hZ,hSl,hik,hkX,hm0⟩
 refine C.weaken _ hk0 ?_
 refine C.seq ?_
 refine C.block ?_
 refine C.sr ?_
 refine E.pure (S.move rfl) rfl ?_
 refine E.pure (S.move rfl) rfl ?_
 refine E.loud1 (X.call rfl Tryd.call43 (sizeAt_spec hsz i _)) rfl ?_; rintro _ _ ⟨n,hn1,hn2,rfl,rfl⟩; refine E.relist (L2 := (_::_::_::_)) rfl ?_
 refine E.loud1 (X.make (l := n) (c := n) (bytes := 1) Tryd.underlying22 infoB (z := .int .u8 0) rfl rfl rfl rfl rfl rfl (Nat.le_refl _) (by omega) (by omega)) rfl ?_; rintro _ _ ⟨nb,rfl,rfl⟩; refine E.relist (L2 := (_::_::_::_::_)) rfl ?_
 refine E.pure (S.assign rfl) rfl ?_
 refine E.kp [(0,_),(1,_),(4,_),(5,_),(6,_),(7,_)] rfl ?_
 refine C.sr ?_
 refine E.pure (S.move rfl) rfl ?_
 refine E.pure (S.move rfl) rfl ?_
 refine E.loud1 (X.call rfl Tryd.call36 (zRead_in3 hs hc hZ nb 0 n n (List.replicate n (.int .u8 0)) (by rw [List.length_replicate]) (by omega) (Nat.le_refl _) (by omega) _ _ _ Lf)) rfl ?_; rintro _ _ ⟨j,er,LZ2,rfl,hj1,hj2,rfl,hE⟩; refine E.relist (L2 := (_::_::_::_::_)) rfl ?_
 refine E.pure (S.move rfl) rfl ?_
 refine E.pure (S.extract rfl rfl) rfl ?_
 refine E.pure (S.extract rfl rfl) rfl ?_
 refine E.pure (S.assign rfl) rfl ?_
 refine E.pure (S.assign rfl) rfl ?_
 refine E.kp [(0,_),(1,_),(4,_),(5,_),(6,_),(7,_),(8,_),(9,_)] rfl ?_
 have hjl : (((gzR ms rest).1.drop k).take j).length = j := by rw [List.length_take]; exact Nat.min_eq_left hj2
 have hap : (gzR ms rest).1.take (k + j) = (gzR ms rest).1.take k ++ ((gzR ms rest).1.drop k).take j := List.take_add
 have hjl2 := hjl
 refine C.seq ?_
 refine C.draw [0,1,0,0,12,18,63,127] (.pure 0 28 (.pure 2 11 (.pure 3 7 (.pure 4 15 (.seg [(1,29)] (.alt 5 (.pure 6 63 (.alt 7 .done .stop)) .stop)))))) mixed (by decide +kernel) ?_
 refine D.pure rfl (S.field rfl fa43_2) rfl ?_
 refine D.pure rfl (S.move rfl) rfl ?_
 refine D.pure rfl (S.move rfl) rfl ?_
 refine D.pure rfl (S.slH rfl rfl (by omega) Tryd.underlying22 Tryd.sizeOf5) rfl ?_
 refine D.reslot (v := .slice (some ⟨nb,0,none⟩) (j) (n)) (slice_to (by simp [part]) rfl rfl) ?_
 refine D.seg (by decide) ?_
 refine W.still rfl (S.load 1 (k := 6) rfl rfl rfl Tryd.isAgg22) rfl ?_
 refine W.nil ?_
 refine D.one ?_
 refine O.loud1 rfl (OpX.perm (lf_out _ _ _ _ Lf LZ2) (X.appendB (ys := ((gzR ms rest).1.drop k).take j) (L := [_,_,_,_] ++ LZ2) rfl rfl hSl (by rw [hjl]) (.inr ⟨nb,0,rfl,Reads.mem (k := 0) (List.mem_append_right _ (.head _)) (by rw [List.drop_zero]; exact List.take_left' rfl)⟩) (by rw [hjl,List.length_take]; omega))) rfl ?_
 rintro bv2 _ ⟨Lf2,hSl2,rfl⟩
 refine D.same (Same.perm (lf_out _ _ _ _ Lf2 LZ2).symm) ?_
 refine D.relist (L2 := [_,_,_,_] ++ (Lf2 ++ LZ2)) rfl ?_
 rw [← hap] at hSl2
 refine D.pure rfl (S.field rfl fa43_2) rfl ?_
 refine D.one ?_
 refine O.loud0 rfl (X.store 1 (k := 6) rfl rfl rfl (sl_one hSl2) rfl Tryd.sizeOf22) ?_; rintro _ _ ⟨rfl,rfl⟩; refine D.relist (L2 := (_::_::_::_::_)) rfl ?_
 refine D.kp [(0,_),(1,_),(4,_),(5,_),(6,_),(7,_),(8,_),(9,_)] rfl ?_
 refine C.sr ?_
 refine E.pure (S.move rfl) rfl ?_
 refine E.still (S.neErNil rfl) rfl ?_
 refine E.kp [(0,_),(1,_),(4,_),(5,_),(6,_),(7,_),(8,_),(9,_),(36,_)] rfl ?_
 first | refine C.ifp rfl (fun h36 => ?_) (fun h36 => ?_) | refine C.ifNone rfl (fun h36 => ?_) (fun h36 => ?_) | refine C.ifSome rfl (fun h36 => ?_) (fun h36 => ?_) | refine C.ifSe rfl (fun h36 => ?_) (fun h36 => ?_) | refine C.ifNotSe rfl (fun h36 => ?_) (fun h36 => ?_) | refine C.cond rfl (fun h36 => ?_) (fun h36 => ?_)
 ·
  refine C.sr ?_
  refine E.pure (S.move rfl) rfl ?_
  refine E.loud1 (OpX.pick [] (F := (_::_::_::_::_)) rfl (X.call rfl Tryd.call27 (kind_spec hs _))) rfl ?_; rintro _ _ ⟨_,⟨rfl,rfl⟩,rfl⟩; refine E.relist (L2 := (_::_::_::_::_)) rfl ?_
  refine E.pure (S.field rfl fa43_3) rfl ?_
  refine E.loud0 (X.store 1 (k := 7) rfl rfl rfl rfl rfl Tryd.sizeOf3) ?_; rintro _ _ ⟨rfl,rfl⟩; refine E.relist (L2 := (_::_::_::_::_)) rfl ?_
  refine E.kp [(0,_),(1,_),(4,_),(5,_),(6,_),(7,_),(8,_),(9,_),(36,_)] rfl ?_
  refine C.sr ?_
  refine E.still (S.loadA 1 (k := 0) rfl rfl rfl rfl Tryd.isAgg43 Tryd.sizeOf43) rfl ?_
  refine E.loud0 (X.storeA 3 (k := 0) rfl rfl rfl (by show ([.int .i64 0,.string h.name,.string h.comment,ev,.int .i64 ((h.mod : Nat) : Int),.int .u8 ((h.os : Nat) : Int),bv2,.int .i64 ((kindOf er : Nat) : Int)] : List Value).all one = true; simp only [List.all_cons,List.all_nil,exOut_one hO,sl_one hSl2]; rfl) rfl rfl Tryd.sizeOf43 rfl) ?_; rintro _ _ ⟨rfl,rfl⟩; refine E.relist (L2 := (_::_::_::_::_)) rfl ?_
  refine E.kp [(0,_),(1,_),(4,_),(5,_),(6,_),(7,_),(8,_),(9,_),(36,_)] rfl ?_
  refine C.ret ?_
  obtain ⟨hne,hjX,hkd,w1,w2,w3,LZ3,hAt,hms,hOld,rfl⟩ := hE.resolve_left (fun hh => h36 hh.1)
  have hkj : (gzR ms rest).1.take (k + j) = (gzR ms rest).1 := List.take_of_length_le (by rw [List.length_drop] at hjX; omega)
  rw [hkj] at hSl2
  refine ⟨_,⟨_,_,3,rfl,rfl,rfl⟩,(g::Lf2) ++ (w1::w2::w3::LZ3),_,(Same.perm (picks_perm (is := [2,0,0,0]) (A := [_,_,_,_]) (F := Lf2 ++ (w1::w2::w3::LZ3)) rfl)).trans (Same.perm ((List.perm_append_comm (l₁ := [_,_,_]) (l₂ := Lf2 ++ (w1::w2::w3::LZ3))).cons _)),g::Lf2,w1,w2,w3,LZ3,⟨ev,bv2,?_,(exOut_rd hO).mono (fun f hf => by rw [List.mem_singleton.1 hf]; exact .head _),(sl_rd hSl2).mono fun f hf => .tail _ hf⟩,hAt,hms,hOld,rfl⟩
  rw [unV,← hkd]; rfl
 obtain ⟨_,hj0,hZ2⟩ := hE.resolve_right (fun hh => hh.1 h36)
 rw [List.drop_drop] at hZ2
 refine C.shed [0] (A := [_]) (F := _::_::_::(Lf2 ++ LZ2)) rfl ?_
 refine C.relist (L2 := [_,_,_] ++ (Lf2 ++ LZ2)) rfl ?_
 refine C.skip ?_
 refine C.region ?_
 refine E.pure (S.move rfl) rfl ?_
 refine E.pure (S.add (b := ((1 : Nat) : Int)) rfl rfl (N.add64 (by omega))) rfl ?_
 refine E.pure (S.assign rfl) rfl ?_
 refine E.kp [(0,_),(1,_),(4,_),(5,_),(6,_),(7,_),(8,_),(9,_),(36,_)] rfl ?_
 refine ⟨_,?_,i + 1,k + j,bv2,Lf2,LZ2,rfl,rfl,hZ2,hSl2,by omega,by rw [List.length_drop] at hj2; omega,rfl⟩; rw [List.length_drop] at hj2; omega
end Go.Eng
namespace Go.Eng
open Go Go.Proofs
set_option maxRecDepth 100000

set_option maxHeartbeats 1000000
theorem Codes.mono {K K' : Known} (h : ∀ b o,K b = some o → K' b = some o) (c : Codes K) : Codes K' := ⟨fun i hi => cellAt_mono h (c.cell i hi)⟩
/-- An argument of bytes. -/
def BA (K : Known) (v : Value) (l : List UInt8) : Prop := (v = .slice none 0 0 ∧ l = []) ∨ (∃ a c,v = .slice (some a) 0 c ∧ l = []) ∨ ∃ pb po cap,v = .slice (some ⟨pb,po,none⟩) l.length cap ∧ l.length ≤ cap ∧ KB K pb po l
theorem BA.sl {K : Known} {v : Value} {l : List UInt8} (h : BA K v l) : ∃ a c,v = .slice a l.length c := by
  rcases h with ⟨rfl,rfl⟩ | ⟨a,c,rfl,rfl⟩ | ⟨pb,po,cap,rfl,_⟩
  · exact ⟨_,_,rfl⟩
  · exact ⟨_,_,rfl⟩
  · exact ⟨_,_,rfl⟩
def CloneG (data : List UInt8) (a : Option Addr) (c : Nat) (L : Frags) : Prop := data.length ≤ c ∧ ((data = [] ∧ L = []) ∨ ∃ db o cs,a = some ⟨db,o,none⟩ ∧ L = [⟨db,o,bytesV data ++ cs⟩])
theorem clone_in {K : Known} {v : Value} {data : List UInt8} (hv : BA K v data) (hl : data.length ≤ 65536) (G : Frags) : Fn Tryd.prog K 24 #[v] G fun r L => ∃ a c GL,r = .slice a data.length c ∧ CloneG data a c GL ∧ L = G ++ GL := by
  have key : Fn Tryd.prog K 24 #[v] [] fun r L => ∃ a c,r = .slice a data.length c ∧ CloneG data a c L := by
    have ow : ∀ {r : Value} {L : Frags},(∃ g,Own data r g ∧ L = [g]) → ∃ a c,r = .slice a data.length c ∧ CloneG data a c L := by
      rintro r L ⟨g,⟨b,o,c,cs,rfl,rfl,h⟩,rfl⟩
      exact ⟨_,_,rfl,h,.inr ⟨b,o,cs,rfl,rfl⟩⟩
    rcases hv with ⟨rfl,rfl⟩ | ⟨a,c,rfl,rfl⟩ | ⟨pb,po,cap,rfl,hc,hp⟩
    · exact Fn.mono clone_nil fun r L h => ⟨none,0,h.1,Nat.le_refl _,.inl ⟨rfl,h.2⟩⟩
    · exact Fn.mono (clone_empty a c) fun r L h => ow h
    · exact Fn.mono (clone_spec (L := []) pb po cap data hp.reads (by omega)) fun r L h => ow h
  refine Fn.sameR (Fn.frame (L := []) (F := G) key) ?_
  rintro r L ⟨L1,⟨a,c,rfl,h⟩,rfl⟩
  exact ⟨G ++ L1,Same.perm List.perm_append_comm,a,c,L1,rfl,h,rfl⟩
theorem src_at {K : Known} {ea : Fin 5 → Addr} (hs : Sents K ea) (rb : Nat) {a : Option Addr} {c : Nat} {data : List UInt8} {GL : Frags} (h : CloneG data a c GL) (hl : data.length ≤ 65536) :
    ∃ x1 x2 x3,(readerSrc K ea hs rb a c data).At data x1 x2 x3 ∧ ∀ G,Same (⟨rb,0,[.slice a data.length c,.int .i64 0,.int .i64 (-1)]⟩::(G ++ GL)) ([x1,x2,x3] ++ G) := by
  obtain ⟨hc,⟨rfl,rfl⟩ | ⟨db,o,cs,rfl,rfl⟩⟩ := h
  · refine ⟨⟨rb,0,[.slice a 0 c,.int .i64 ((0 : Nat) : Int),.int .i64 (-1)]⟩,⟨rb,0,[]⟩,⟨rb,0,[]⟩,⟨0,rfl,rfl,Nat.zero_le _,by decide,hc,.inl rfl,rfl⟩,fun G => ?_⟩
    rw [List.append_nil]
    exact (Same.empty rb 0 0 _ G).trans ((Same.empty rb 0 0 _ _))
  · refine ⟨⟨rb,0,[.slice (some ⟨db,o,none⟩) data.length c,.int .i64 ((0 : Nat) : Int),.int .i64 (-1)]⟩,⟨db,o,bytesV data ++ cs⟩,⟨rb,0,[]⟩,⟨0,rfl,rfl,Nat.zero_le _,by omega,hc,.inr ⟨db,o,cs,rfl,rfl⟩,rfl⟩,fun G => ?_⟩
    refine (Same.empty rb 0 0 _ _).trans (Same.perm (List.Perm.cons _ ?_))
    refine (List.Perm.cons _ List.perm_append_comm).trans ?_
    exact List.Perm.swap _ _ _
/-- What Unpack makes of bytes. -/
def unpOf (data : List UInt8) : UnpR := if (readHead data).1 ≠ .none then (kindOf (readHead data).1,noHd,[],0) else (0,(readHead data).2.2,(gzR true (readHead data).2.1).1,(gzR true (readHead data).2.1).2.1)
theorem zNewReader_in {K : Known} {ea : Fin 5 → Addr} (hs : Sents K ea) (src : Src K ea) (l : List UInt8) (x1 x2 x3 : Frag) (hA : src.At l x1 x2 x3) (G : Frags) :
    Fn Tryd.prog K 25 #[.iface src.t src.v] ([x1,x2,x3] ++ G) (fun r L => ((readHead l).1 ≠ .none ∧ r = .tuple #[.pointer none,Er.val ea (readHead l).1] ∧ ∃ f1 f2 f3,src.At (readHead l).2.1 f1 f2 f3 ∧ L = G ++ [f1,f2,f3]) ∨
      ((readHead l).1 = .none ∧ ∃ zb LZ,r = .tuple #[.pointer (some ⟨zb,0,none⟩),Er.val ea (readHead l).1] ∧ ZAt src zb (readHead l).2.2 true (readHead l).2.1 LZ ∧ L = G ++ LZ)) := by
  refine Fn.sameR (Fn.frame (F := G) (zNewReader_spec hs src l x1 x2 x3 hA)) ?_
  rintro v L' ⟨L1,⟨hne,rfl,f1,f2,f3,hF,rfl⟩ | ⟨hno,zb,rfl,hz⟩,rfl⟩
  · exact ⟨G ++ [f1,f2,f3],Same.perm List.perm_append_comm,.inl ⟨hne,rfl,f1,f2,f3,hF,rfl⟩⟩
  · exact ⟨G ++ L1,Same.perm List.perm_append_comm,.inr ⟨hno,zb,L1,rfl,hz,rfl⟩⟩
theorem rest_in {K : Known} {ea : Fin 5 → Addr} (hs : Sents K ea) (hc : Codes K) {src : Src K ea} {zb : Nat} {h : Hd} (hm : h.mod < 4294967296) {ms : Bool} {rest : List UInt8} {sv : Value} (hsz : SzA K sv) (hlen : (gzR ms rest).1.length ≤ 70368744177664) {LZ : Frags} (hZ : ZAt src zb h ms rest LZ) (G : Frags) :
    Fn Tryd.prog K 35 #[.pointer (some ⟨zb,0,none⟩),sv] (G ++ LZ) fun r L => ∃ a1 k1 a2 k2 GL T,r = unV (0,h,(gzR ms rest).1,(gzR ms rest).2.1) (.slice a1 (h.extra.getD []).length k1) (.slice a2 (gzR ms rest).1.length k2) ∧ UnpV (0,h,(gzR ms rest).1,(gzR ms rest).2.1) r GL ∧
      (∃ f1 f2 f3 LZ2,(∃ l,src.At l f1 f2 f3) ∧ (ms = false → (gzR ms rest).2.1 = 1 → src.At (gzR ms rest).2.2 f1 f2 f3) ∧ ZOld zb LZ2 ∧ T = f1::f2::f3::LZ2) ∧ L = G ++ (GL ++ T) := by
  obtain ⟨f1,f2,f3,bs,xa,xn,Xf,fb,DN,hA,hb,hX,hDN,rfl⟩ := hZ
  refine Fn.lose (Fn.perm List.perm_append_comm (Fn.frame (F := G) (rest_walk hs hc src zb h hm ms rest sv hsz hlen f1 f2 f3 bs xa xn Xf fb DN hA hb hX hDN))) ?_
  rintro r L ⟨L1,⟨L2,J,hS,GL,w1,w2,w3,LZ2,hU,h1,h2,h3,rfl⟩,rfl⟩
  have hU2 := hU
  obtain ⟨ev,bv,rfl,⟨a1,k1,rfl,_⟩,⟨a2,k2,rfl,_⟩⟩ := hU
  refine ⟨G ++ (GL ++ (w1::w2::w3::LZ2)),J,?_,a1,k1,a2,k2,GL,_,rfl,hU2,⟨w1,w2,w3,LZ2,h1,h2,h3,rfl⟩,rfl⟩
  rw [List.append_assoc]
  exact (Same.perm List.perm_append_comm).trans (Same.appendL G hS)

theorem unpack_walk {K : Known} {ea : Fin 5 → Addr} (hs : Sents K ea) (hc : Codes K) (v : Value) (data : List UInt8) (hv : BA K v data) (hl : data.length ≤ 65536) (sv : Value) (hsz : SzA K sv) : Fn Tryd.prog K 17 #[v,sv] ([]) (fun r L => ∃ L2 J,Same L (L2 ++ J) ∧ UnpV (unpOf data) r L2) := by
 refine Fn.intro (args := [v,sv]) (RR := RetC 4 8  _) Tryd.func17 rfl rfl Tryd.ntmps17 (resC Tryd.results17 Tryd.isAgg43 Tryd.sizeOf43) ?_
 refine C.reenv (env2 := [(0,v),(1,sv)]) rfl ?_
 refine C.sr ?_
 refine E.loud1 (X.alloc Tryd.zeroValue43) rfl ?_; rintro _ _ ⟨b4,rfl,rfl⟩; refine E.relist (L2 := [_]) rfl ?_
 refine E.relist (L2 := [⟨b4,0,[.int .i64 0,.string ⟨#[]⟩,.string ⟨#[]⟩,.slice none 0 0,.int .i64 0,.int .u8 0,.slice none 0 0,.int .i64 0]⟩]) (by kernel_rfl) ?_
 refine E.kp [(0,_),(1,_),(4,_)] rfl ?_
 refine C.sr ?_
 refine E.pure (S.move rfl) rfl ?_
 refine E.loud1 (X.call rfl Tryd.call24 (clone_in hv hl [_])) rfl ?_; rintro _ _ ⟨a,c,GL,rfl,hCl,rfl⟩; refine E.relist (L2 := (_::_)) rfl ?_
 refine E.loud1 (OpX.pick [] (F := (_::_)) rfl (X.call rfl Tryd.call23 (newReader_spec a data.length c))) rfl ?_; rintro _ _ ⟨_,⟨rb,rfl,rfl⟩,rfl⟩; refine E.relist (L2 := (_::_::_)) rfl ?_
 obtain ⟨x1,x2,x3,hA,hSm⟩ := src_at hs rb hCl hl
 refine E.same (hSm [⟨b4,0,[.int .i64 0,.string ⟨#[]⟩,.string ⟨#[]⟩,.slice none 0 0,.int .i64 0,.int .u8 0,.slice none 0 0,.int .i64 0]⟩]) ?_
 refine E.relist (L2 := [_,_,_,_]) rfl ?_
 refine E.pure (S.mkIface rfl conc54) rfl ?_
 refine E.loud1 (X.call rfl Tryd.call25 (zNewReader_in hs (readerSrc K ea hs rb a c data) data x1 x2 x3 hA [_])) rfl ?_
 rintro _ _ (⟨hne,rfl,f1,f2,f3,hF,rfl⟩ | ⟨hno,zb,LZ,rfl,hZ,rfl⟩)
 ·
  refine E.relist (L2 := [_,_,_,_]) rfl ?_
  refine E.pure (S.move rfl) rfl ?_
  refine E.pure (S.extract rfl rfl) rfl ?_
  refine E.pure (S.extract rfl rfl) rfl ?_
  refine E.pure (S.assign rfl) rfl ?_
  refine E.pure (S.assign rfl) rfl ?_
  refine E.kp [(1,_),(4,_),(5,_),(6,_)] rfl ?_
  refine C.seq ?_
  refine C.sr ?_
  refine E.pure (S.move rfl) rfl ?_
  refine E.still (S.neErNil rfl) rfl ?_
  refine E.kp [(1,_),(4,_),(5,_),(6,_),(16,_)] rfl ?_
  first | refine C.ifp rfl (fun h16 => ?_) (fun h16 => ?_) | refine C.ifNone rfl (fun h16 => ?_) (fun h16 => ?_) | refine C.ifSome rfl (fun h16 => ?_) (fun h16 => ?_) | refine C.ifSe rfl (fun h16 => ?_) (fun h16 => ?_) | refine C.ifNotSe rfl (fun h16 => ?_) (fun h16 => ?_) | refine C.cond rfl (fun h16 => ?_) (fun h16 => ?_)
  ·
   refine C.sr ?_
   refine E.pure (S.move rfl) rfl ?_
   refine E.loud1 (OpX.pick [] (F := [_,_,_,_]) rfl (X.call rfl Tryd.call27 (kind_spec hs _))) rfl ?_; rintro _ _ ⟨_,⟨rfl,rfl⟩,rfl⟩; refine E.relist (L2 := [_,_,_,_]) rfl ?_
   refine E.pure (S.buildV (v := .agg #[.int .i64 ((kindOf (readHead data).1 : Nat) : Int),.string ⟨#[]⟩,.string ⟨#[]⟩,.slice none 0 0,.int .i64 0,.int .u8 0,.slice none 0 0,.int .i64 0]) [(0,.int .i64 ((kindOf (readHead data).1 : Nat) : Int))] rfl (fun w => by simp [Instr.build,Instr.fill,Value.cells,Tryd.zeroValue43])) rfl ?_
   refine E.loud0 (X.storeA 0 (k := 0) rfl rfl rfl rfl rfl rfl Tryd.sizeOf43 rfl) ?_; rintro _ _ ⟨rfl,rfl⟩; refine E.relist (L2 := [_,_,_,_]) rfl ?_
   refine E.kp [(1,_),(4,_),(5,_),(6,_),(16,_)] rfl ?_
   refine C.ret ?_
   refine ⟨_,⟨_,_,0,rfl,rfl,rfl⟩,[],[_,_,_,_],Same.refl _,?_⟩
   rw [unpOf,if_pos hne]
   exact ⟨.slice none 0 0,.slice none 0 0,rfl,RdV.nil,RdV.nil⟩
  exact absurd h16 hne
 refine E.relist (L2 := (_::_)) rfl ?_
 refine E.pure (S.move rfl) rfl ?_
 refine E.pure (S.extract rfl rfl) rfl ?_
 refine E.pure (S.extract rfl rfl) rfl ?_
 refine E.pure (S.assign rfl) rfl ?_
 refine E.pure (S.assign rfl) rfl ?_
 refine E.kp [(1,_),(4,_),(5,_),(6,_)] rfl ?_
 refine C.seq ?_
 refine C.sr ?_
 refine E.pure (S.move rfl) rfl ?_
 refine E.still (S.neErNil rfl) rfl ?_
 refine E.kp [(1,_),(4,_),(5,_),(6,_),(16,_)] rfl ?_
 first | refine C.ifp rfl (fun h16 => ?_) (fun h16 => ?_) | refine C.ifNone rfl (fun h16 => ?_) (fun h16 => ?_) | refine C.ifSome rfl (fun h16 => ?_) (fun h16 => ?_) | refine C.ifSe rfl (fun h16 => ?_) (fun h16 => ?_) | refine C.ifNotSe rfl (fun h16 => ?_) (fun h16 => ?_) | refine C.cond rfl (fun h16 => ?_) (fun h16 => ?_)
 ·
  exact absurd hno h16
 refine C.skip ?_
 refine C.sr ?_
 refine E.pure (S.move rfl) rfl ?_
 refine E.pure (S.move rfl) rfl ?_
 refine E.loud1 (X.call rfl Tryd.call35 (rest_in hs hc (readHead_mod _) hsz (Nat.le_trans (gzR_len _ _ (by have := readHead_le data; omega)) (by decide)) hZ [_])) rfl ?_; rintro _ _ ⟨a1,k1,a2,k2,GL2,TT,rfl,hU,hT,rfl⟩; refine E.relist (L2 := (_::_)) rfl ?_
 refine E.loud0 (X.storeA 0 (k := 0) rfl rfl rfl rfl rfl rfl Tryd.sizeOf43 rfl) ?_; rintro _ _ ⟨rfl,rfl⟩; refine E.relist (L2 := (_::_)) rfl ?_
 refine E.kp [(4,_),(5,_),(6,_),(16,_)] rfl ?_
 refine C.ret ?_
 refine ⟨_,⟨_,_,0,rfl,rfl,rfl⟩,GL2,_::TT,Same.perm (List.perm_middle (l₁ := GL2) (l₂ := TT)).symm,?_⟩
 rw [unpOf,if_neg (fun hh => hh hno)]
 exact hU
theorem unpack_spec {K : Known} {ea : Fin 5 → Addr} (hs : Sents K ea) (hc : Codes K) {v : Value} {data : List UInt8} (hv : BA K v data) (hl : data.length ≤ 65536) {sv : Value} (hsz : SzA K sv) (G : Frags) :
    Fn Tryd.prog K 17 #[v,sv] G fun r L => ∃ GL,UnpV (unpOf data) r GL ∧ L = G ++ GL := by
  refine Fn.lose (Fn.frame (L := []) (F := G) (unpack_walk hs hc v data hv hl sv hsz)) ?_
  rintro r L ⟨L1,⟨L2,J,hS,hU⟩,rfl⟩
  refine ⟨G ++ L2,J,?_,L2,hU,rfl⟩
  have := Same.appendL G hS
  rw [← List.append_assoc] at this
  exact (Same.perm List.perm_append_comm).trans this

end Go.Eng
namespace Go.Eng
open Go Go.Proofs
set_option maxRecDepth 100000


section
variable {P : Program} {H0 : Known} {n : Nat} {ops : Array Oper} {ds : List Nat}
/-- A guarded operation that only reads,whose guard says yes. -/
theorem O.yesS {i j d : Nat} {b : Bool} {op : Op} {ty : TypeId} {pos : String} {af : Array Edge} {r : Plan} {env : Env} {L : Frags} {N : Post} {v : Value} (t : Nat)
    (hi : ops[i]? = some ⟨some d,op,ty,pos,af,some (j,b)⟩) (ht : (ops[j]?).bind (·.dst) = some t) (hv : get? env t = some (.bool b))
    (h : OpS P H0 n op ty env L v) (hd : Nat.blt d n = true) (k : wpD P H0 n ops ds r ((d,v)::env) L N) : wpO P H0 n ops ds i r env L N :=
  O.yes t hi ht hv (R := fun u L' => u = v ∧ L' = L) (fun a w hf hw => by rw [h a w hf hw]; exact ⟨L,⟨rfl,rfl⟩,To.refl hw⟩) hd (by rintro u L' ⟨rfl,rfl⟩; exact k)
end
/-- A slice that reads as bytes. -/
def RB (K : Known) (L : Frags) (a : Option Addr) (l : List UInt8) : Prop := l = [] ∨ ∃ b o,a = some ⟨b,o,none⟩ ∧ Reads K L b o (bytesV l)

theorem str_toList (l : List UInt8) : (ByteArray.mk l.toArray).toList = l := by
  rw [ByteArray.toList_eq]
theorem str_beq (l m : List UInt8) : ((ByteArray.mk l.toArray).toList == (ByteArray.mk m.toArray).toList) = decide (l = m) := by
  rw [str_toList,str_toList]
  by_cases h : l = m
  · subst h; simp
  · simp [h]

theorem bytesEqual_known {K : Known} (a1 a2 : Option Addr) (c1 c2 : Nat) (l1 l2 : List UInt8) (h1 : RB K [] a1 l1) (h2 : RB K [] a2 l2) : Fn Tryd.prog K 29 #[.slice a1 l1.length c1,.slice a2 l2.length c2] ([]) (fun v _ => v = .bool (decide (l1 = l2))) := by
 refine Fn.intro (args := [.slice a1 l1.length c1,.slice a2 l2.length c2]) (RR := Ret1 4 _) Tryd.func29 rfl rfl Tryd.ntmps29 (res1 Tryd.results29) ?_
 refine C.reenv (env2 := [(0,.slice a1 l1.length c1),(1,.slice a2 l2.length c2)]) rfl ?_
 refine C.sr ?_
 refine E.pure (S.assign rfl) rfl ?_
 refine E.kp [(0,_),(1,_),(4,_)] rfl ?_
 refine C.sr ?_
 refine E.pure (S.move rfl) rfl ?_
 refine E.still (S.bytesStr (l := l1) Tryd.underlying22 Tryd.underlying5 Tryd.underlying9 rfl h1) rfl ?_
 refine E.pure (S.move rfl) rfl ?_
 refine E.still (S.bytesStr (l := l2) Tryd.underlying22 Tryd.underlying5 Tryd.underlying9 rfl h2) rfl ?_
 refine E.pure (S.eqStr rfl rfl) rfl ?_
 refine E.pure (S.assign rfl) rfl ?_
 refine E.kp [(4,_)] rfl ?_
 refine C.ret ?_
 exact ⟨_,rfl,by first | (rw [← str_beq]; done) | (rw [← str_beq]; rfl)⟩
theorem RB.still {K : Known} {L : Frags} {a : Option Addr} {l : List UInt8} (h : RB K L a l) {w : World} (hw : Agree K L w.heap) : RB (fun b => w.heap[b]?) [] a l := by
  rcases h with h | ⟨b,o,h1,h2⟩
  · exact .inl h
  · exact .inr ⟨b,o,h1,(h2.kb hw).reads⟩
theorem RB.lift {K : Known} {L : Frags} {a : Option Addr} {l : List UInt8} (h : RB K [] a l) : RB K L a l := by
  rcases h with h | ⟨b,o,h1,h2⟩
  · exact .inl h
  · exact .inr ⟨b,o,h1,fun w hw => h2 w ⟨hw.base,(fun f hf => by cases hf),(fun f hf => by cases hf),List.Pairwise.nil⟩⟩

theorem bytesEqual_spec {K : Known} {L : Frags} (a1 a2 : Option Addr) (c1 c2 : Nat) (l1 l2 : List UInt8) (h1 : RB K L a1 l1) (h2 : RB K L a2 l2) :
    Fn Tryd.prog K 29 #[.slice a1 l1.length c1,.slice a2 l2.length c2] L (fun v L' => v = .bool (decide (l1 = l2)) ∧ L' = L) :=
  Fn.stillR fun w hw => bytesEqual_known a1 a2 c1 c2 l1 l2 (h1.still hw) (h2.still hw)

theorem text_beq (s u : ByteArray) : (s.toList == u.toList) = decide (s = u) := by
  rw [ByteArray.toList_eq,ByteArray.toList_eq]
  by_cases h : s = u
  · subst h; simp
  · have : s.data.toList ≠ u.data.toList := fun e => h (by
      cases s with | mk x => cases u with | mk y => exact congrArg ByteArray.mk (Array.ext' e))
    rw [decide_eq_false h]; exact beq_false_of_ne this

theorem same_known {K : Known} (n1 n2 c1 c2 : ByteArray) (a1 a2 : Option Addr) (k1 k2 : Nat) (l1 l2 : List UInt8) (m1 m2 o1 o2 : Nat) (h1 : RB K [] a1 l1) (h2 : RB K [] a2 l2) : Fn Tryd.prog K 11 #[.agg #[.string n1,.string c1,.slice a1 l1.length k1,.int .i64 ((m1 : Nat) : Int),.int .u8 ((o1 : Nat) : Int)],.agg #[.string n2,.string c2,.slice a2 l2.length k2,.int .i64 ((m2 : Nat) : Int),.int .u8 ((o2 : Nat) : Int)]] ([]) (fun v _ => v = .bool (decide (n1 = n2 ∧ c1 = c2 ∧ l1 = l2 ∧ m1 = m2 ∧ o1 = o2))) := by
 refine Fn.intro (args := [.agg #[.string n1,.string c1,.slice a1 l1.length k1,.int .i64 ((m1 : Nat) : Int),.int .u8 ((o1 : Nat) : Int)],.agg #[.string n2,.string c2,.slice a2 l2.length k2,.int .i64 ((m2 : Nat) : Int),.int .u8 ((o2 : Nat) : Int)]]) (RR := Ret1 4 _) Tryd.func11 rfl rfl Tryd.ntmps11 (res1 Tryd.results11) ?_
 refine C.reenv (env2 := [(0,.agg #[.string n1,.string c1,.slice a1 l1.length k1,.int .i64 ((m1 : Nat) : Int),.int .u8 ((o1 : Nat) : Int)]),(1,.agg #[.string n2,.string c2,.slice a2 l2.length k2,.int .i64 ((m2 : Nat) : Int),.int .u8 ((o2 : Nat) : Int)])]) rfl ?_
 refine C.sr ?_
 refine E.loud1 (X.box rfl) rfl ?_; rintro _ _ ⟨b2,rfl,rfl⟩; refine E.relist (L2 := [_]) rfl ?_
 refine E.loud1 (X.box rfl) rfl ?_; rintro _ _ ⟨b3,rfl,rfl⟩; refine E.relist (L2 := [_,_]) rfl ?_
 refine E.pure (S.assign rfl) rfl ?_
 refine E.kp [(2,_),(3,_),(4,_)] rfl ?_
 refine C.sr ?_
 refine E.pure (S.field rfl fa27_0) rfl ?_
 refine E.still (S.load 1 (k := 0) rfl rfl rfl Tryd.isAgg9) rfl ?_
 refine E.pure (S.field rfl fa24_0) rfl ?_
 refine E.still (S.load 0 (k := 0) rfl rfl rfl Tryd.isAgg9) rfl ?_
 refine E.pure (S.eqStr rfl rfl) rfl ?_
 refine E.reslot (v := .bool (decide (n1 = n2))) (congrArg Value.bool (text_beq n1 n2)) ?_
 refine E.pure (S.move rfl) rfl ?_
 refine E.fork (fun g10 => ?_) (fun g10 => ?_)
 ·
  refine E.wanted 10 rfl rfl ?_
  refine E.pure (S.field rfl fa27_1) rfl ?_
  refine E.wanted 10 rfl rfl ?_
  refine E.still (S.load 1 (k := 1) rfl rfl rfl Tryd.isAgg9) rfl ?_
  refine E.wanted 10 rfl rfl ?_
  refine E.pure (S.field rfl fa24_1) rfl ?_
  refine E.wanted 10 rfl rfl ?_
  refine E.still (S.load 0 (k := 1) rfl rfl rfl Tryd.isAgg9) rfl ?_
  refine E.wanted 10 rfl rfl ?_
  refine E.pure (S.eqStr rfl rfl) rfl ?_
  refine E.reslot (v := .bool (decide (c1 = c2))) (congrArg Value.bool (text_beq c1 c2)) ?_
  refine E.pure (S.pickT rfl rfl) rfl ?_
  refine E.pure (S.move rfl) rfl ?_
  refine E.fork (fun g17 => ?_) (fun g17 => ?_)
  ·
   refine E.wanted 17 rfl rfl ?_
   refine E.pure (S.field rfl fa27_2) rfl ?_
   refine E.wanted 17 rfl rfl ?_
   refine E.still (S.load 1 (k := 2) rfl rfl rfl Tryd.isAgg22) rfl ?_
   refine E.wanted 17 rfl rfl ?_
   refine E.pure (S.field rfl fa24_2) rfl ?_
   refine E.wanted 17 rfl rfl ?_
   refine E.still (S.load 0 (k := 2) rfl rfl rfl Tryd.isAgg22) rfl ?_
   refine E.wanted 17 rfl rfl ?_
   refine E.loud1 (X.call rfl Tryd.call29 (bytesEqual_spec a1 a2 k1 k2 l1 l2 h1.lift h2.lift)) rfl ?_; rintro _ _ ⟨rfl,rfl⟩; refine E.relist (L2 := [_,_]) rfl ?_
   refine E.pure (S.pickT rfl rfl) rfl ?_
   refine E.pure (S.move rfl) rfl ?_
   refine E.fork (fun g24 => ?_) (fun g24 => ?_)
   ·
    refine E.wanted 24 rfl rfl ?_
    refine E.pure (S.field rfl fa27_3) rfl ?_
    refine E.wanted 24 rfl rfl ?_
    refine E.still (S.load 1 (k := 3) rfl rfl rfl Tryd.isAgg2) rfl ?_
    refine E.wanted 24 rfl rfl ?_
    refine E.pure (S.field rfl fa24_3) rfl ?_
    refine E.wanted 24 rfl rfl ?_
    refine E.still (S.load 0 (k := 3) rfl rfl rfl Tryd.isAgg2) rfl ?_
    refine E.wanted 24 rfl rfl ?_
    refine E.pure (S.eq rfl rfl) rfl ?_
    refine E.pure (S.pickT rfl rfl) rfl ?_
    refine E.pure (S.move rfl) rfl ?_
    refine E.fork (fun g31 => ?_) (fun g31 => ?_)
    ·
     refine E.wanted 31 rfl rfl ?_
     refine E.pure (S.field rfl fa27_4) rfl ?_
     refine E.wanted 31 rfl rfl ?_
     refine E.still (S.load 1 (k := 4) rfl rfl rfl Tryd.isAgg5) rfl ?_
     refine E.wanted 31 rfl rfl ?_
     refine E.pure (S.field rfl fa24_4) rfl ?_
     refine E.wanted 31 rfl rfl ?_
     refine E.still (S.load 0 (k := 4) rfl rfl rfl Tryd.isAgg5) rfl ?_
     refine E.wanted 31 rfl rfl ?_
     refine E.pure (S.eq rfl rfl) rfl ?_
     refine E.pure (S.pickT rfl rfl) rfl ?_
     refine E.pure (S.assign rfl) rfl ?_
     refine E.kp [(2,_),(3,_),(4,_)] rfl ?_
     refine C.ret ?_
     refine ⟨_,rfl,?_⟩
     exact congrArg Value.bool (decide_eq_decide.2 ⟨fun h => ⟨g10,g17,g24,by omega,by omega⟩,fun h => by have := h.2.2.2.2; omega⟩)
    refine E.guardNo 31 false rfl rfl rfl rfl ?_
    refine E.guardNo 31 false rfl rfl rfl rfl ?_
    refine E.guardNo 31 false rfl rfl rfl rfl ?_
    refine E.guardNo 31 false rfl rfl rfl rfl ?_
    refine E.guardNo 31 false rfl rfl rfl rfl ?_
    refine E.pure (S.pickF rfl rfl) rfl ?_
    refine E.pure (S.assign rfl) rfl ?_
    refine E.kp [(2,_),(3,_),(4,_)] rfl ?_
    refine C.ret ?_
    refine ⟨_,rfl,?_⟩
    exact congrArg Value.bool (decide_eq_false (fun h => g31 (by have := h.2.2.2.1; omega))).symm
   refine E.guardNo 24 false rfl rfl rfl rfl ?_
   refine E.guardNo 24 false rfl rfl rfl rfl ?_
   refine E.guardNo 24 false rfl rfl rfl rfl ?_
   refine E.guardNo 24 false rfl rfl rfl rfl ?_
   refine E.guardNo 24 false rfl rfl rfl rfl ?_
   refine E.pure (S.pickF rfl rfl) rfl ?_
   refine E.pure (S.move rfl) rfl ?_
   refine E.guardNo 31 false rfl rfl rfl rfl ?_
   refine E.guardNo 31 false rfl rfl rfl rfl ?_
   refine E.guardNo 31 false rfl rfl rfl rfl ?_
   refine E.guardNo 31 false rfl rfl rfl rfl ?_
   refine E.guardNo 31 false rfl rfl rfl rfl ?_
   refine E.pure (S.pickF rfl rfl) rfl ?_
   refine E.pure (S.assign rfl) rfl ?_
   refine E.kp [(2,_),(3,_),(4,_)] rfl ?_
   refine C.ret ?_
   refine ⟨_,rfl,?_⟩
   exact congrArg Value.bool (decide_eq_false (fun h => g24 h.2.2.1)).symm
  refine E.guardNo 17 false rfl rfl rfl rfl ?_
  refine E.guardNo 17 false rfl rfl rfl rfl ?_
  refine E.guardNo 17 false rfl rfl rfl rfl ?_
  refine E.guardNo 17 false rfl rfl rfl rfl ?_
  refine E.guardNo 17 false rfl rfl rfl rfl ?_
  refine E.pure (S.pickF rfl rfl) rfl ?_
  refine E.pure (S.move rfl) rfl ?_
  refine E.guardNo 24 false rfl rfl rfl rfl ?_
  refine E.guardNo 24 false rfl rfl rfl rfl ?_
  refine E.guardNo 24 false rfl rfl rfl rfl ?_
  refine E.guardNo 24 false rfl rfl rfl rfl ?_
  refine E.guardNo 24 false rfl rfl rfl rfl ?_
  refine E.pure (S.pickF rfl rfl) rfl ?_
  refine E.pure (S.move rfl) rfl ?_
  refine E.guardNo 31 false rfl rfl rfl rfl ?_
  refine E.guardNo 31 false rfl rfl rfl rfl ?_
  refine E.guardNo 31 false rfl rfl rfl rfl ?_
  refine E.guardNo 31 false rfl rfl rfl rfl ?_
  refine E.guardNo 31 false rfl rfl rfl rfl ?_
  refine E.pure (S.pickF rfl rfl) rfl ?_
  refine E.pure (S.assign rfl) rfl ?_
  refine E.kp [(2,_),(3,_),(4,_)] rfl ?_
  refine C.ret ?_
  refine ⟨_,rfl,?_⟩
  exact congrArg Value.bool (decide_eq_false (fun h => g17 h.2.1)).symm
 refine E.guardNo 10 false rfl rfl rfl rfl ?_
 refine E.guardNo 10 false rfl rfl rfl rfl ?_
 refine E.guardNo 10 false rfl rfl rfl rfl ?_
 refine E.guardNo 10 false rfl rfl rfl rfl ?_
 refine E.guardNo 10 false rfl rfl rfl rfl ?_
 refine E.pure (S.pickF rfl rfl) rfl ?_
 refine E.pure (S.move rfl) rfl ?_
 refine E.guardNo 17 false rfl rfl rfl rfl ?_
 refine E.guardNo 17 false rfl rfl rfl rfl ?_
 refine E.guardNo 17 false rfl rfl rfl rfl ?_
 refine E.guardNo 17 false rfl rfl rfl rfl ?_
 refine E.guardNo 17 false rfl rfl rfl rfl ?_
 refine E.pure (S.pickF rfl rfl) rfl ?_
 refine E.pure (S.move rfl) rfl ?_
 refine E.guardNo 24 false rfl rfl rfl rfl ?_
 refine E.guardNo 24 false rfl rfl rfl rfl ?_
 refine E.guardNo 24 false rfl rfl rfl rfl ?_
 refine E.guardNo 24 false rfl rfl rfl rfl ?_
 refine E.guardNo 24 false rfl rfl rfl rfl ?_
 refine E.pure (S.pickF rfl rfl) rfl ?_
 refine E.pure (S.move rfl) rfl ?_
 refine E.guardNo 31 false rfl rfl rfl rfl ?_
 refine E.guardNo 31 false rfl rfl rfl rfl ?_
 refine E.guardNo 31 false rfl rfl rfl rfl ?_
 refine E.guardNo 31 false rfl rfl rfl rfl ?_
 refine E.guardNo 31 false rfl rfl rfl rfl ?_
 refine E.pure (S.pickF rfl rfl) rfl ?_
 refine E.pure (S.assign rfl) rfl ?_
 refine E.kp [(2,_),(3,_),(4,_)] rfl ?_
 refine C.ret ?_
 refine ⟨_,rfl,?_⟩
 exact congrArg Value.bool (decide_eq_false (fun h => g10 h.1)).symm
theorem same_spec {K : Known} {L : Frags} (n1 n2 c1 c2 : ByteArray) (a1 a2 : Option Addr) (k1 k2 : Nat) (l1 l2 : List UInt8) (m1 m2 o1 o2 : Nat) (h1 : RB K L a1 l1) (h2 : RB K L a2 l2) :
    Fn Tryd.prog K 11 #[.agg #[.string n1,.string c1,.slice a1 l1.length k1,.int .i64 ((m1 : Nat) : Int),.int .u8 ((o1 : Nat) : Int)],.agg #[.string n2,.string c2,.slice a2 l2.length k2,.int .i64 ((m2 : Nat) : Int),.int .u8 ((o2 : Nat) : Int)]] L (fun v L' => v = .bool (decide (n1 = n2 ∧ c1 = c2 ∧ l1 = l2 ∧ m1 = m2 ∧ o1 = o2)) ∧ L' = L) :=
  Fn.stillR fun w hw => same_known n1 n2 c1 c2 a1 a2 k1 k2 l1 l2 m1 m2 o1 o2 (h1.still hw) (h2.still hw)


theorem told_walk {K : Known} (n1 c1 : ByteArray) (ea : Option Addr) (en ek : Nat) (m1 o1 : Nat) : Fn Tryd.prog K 34 #[.agg #[.string n1,.string c1,.slice ea en ek,.int .i64 ((m1 : Nat) : Int),.int .u8 ((o1 : Nat) : Int)]] ([]) (fun r L => r = .agg #[.string n1,.string c1,.slice ea en ek,.int .i64 ((m1 : Nat) : Int),.int .u8 ((o1 : Nat) : Int)]) := by
 refine Fn.intro (args := [.agg #[.string n1,.string c1,.slice ea en ek,.int .i64 ((m1 : Nat) : Int),.int .u8 ((o1 : Nat) : Int)]]) (RR := RetC 2 5  _) Tryd.func34 rfl rfl Tryd.ntmps34 (resC Tryd.results34 Tryd.isAgg24 Tryd.sizeOf24) ?_
 refine C.reenv (env2 := [(0,.agg #[.string n1,.string c1,.slice ea en ek,.int .i64 ((m1 : Nat) : Int),.int .u8 ((o1 : Nat) : Int)])]) rfl ?_
 refine C.sr ?_
 refine E.loud1 (X.box rfl) rfl ?_; rintro _ _ ⟨b1,rfl,rfl⟩; refine E.relist (L2 := [_]) rfl ?_
 refine E.loud1 (X.alloc Tryd.zeroValue24) rfl ?_; rintro _ _ ⟨b2,rfl,rfl⟩; refine E.relist (L2 := [_,_]) rfl ?_
 refine E.kp [(1,_),(2,_)] rfl ?_
 refine C.sr ?_
 refine E.pure (S.field rfl fa27_0) rfl ?_
 refine E.still (S.load 1 (k := 0) rfl rfl rfl Tryd.isAgg9) rfl ?_
 refine E.pure (S.field rfl fa27_1) rfl ?_
 refine E.still (S.load 1 (k := 1) rfl rfl rfl Tryd.isAgg9) rfl ?_
 refine E.pure (S.field rfl fa27_2) rfl ?_
 refine E.still (S.load 1 (k := 2) rfl rfl rfl Tryd.isAgg22) rfl ?_
 refine E.pure (S.field rfl fa27_3) rfl ?_
 refine E.still (S.load 1 (k := 3) rfl rfl rfl Tryd.isAgg2) rfl ?_
 refine E.pure (S.field rfl fa27_4) rfl ?_
 refine E.still (S.load 1 (k := 4) rfl rfl rfl Tryd.isAgg5) rfl ?_
 refine E.pure (S.buildV (v := .agg #[.string n1,.string c1,.slice ea en ek,.int .i64 ((m1 : Nat) : Int),.int .u8 ((o1 : Nat) : Int)]) [(0,.string n1),(1,.string c1),(2,.slice ea en ek),(3,.int .i64 ((m1 : Nat) : Int)),(4,.int .u8 ((o1 : Nat) : Int))] rfl (fun w => by simp [Instr.build,Instr.fill,Value.cells,Tryd.zeroValue24])) rfl ?_
 refine E.loud0 (X.storeA 0 (k := 0) rfl rfl rfl rfl rfl rfl Tryd.sizeOf24 rfl) ?_; rintro _ _ ⟨rfl,rfl⟩; refine E.relist (L2 := [_,_]) rfl ?_
 refine E.kp [(1,_),(2,_)] rfl ?_
 refine C.ret ?_
 exact ⟨_,⟨_,_,0,rfl,rfl,rfl⟩,rfl⟩
theorem told_spec {K : Known} (n1 c1 : ByteArray) (ea : Option Addr) (en ek : Nat) (m1 o1 : Nat) (L : Frags) : Fn Tryd.prog K 34 #[.agg #[.string n1,.string c1,.slice ea en ek,.int .i64 ((m1 : Nat) : Int),.int .u8 ((o1 : Nat) : Int)]] L fun r L' => r = .agg #[.string n1,.string c1,.slice ea en ek,.int .i64 ((m1 : Nat) : Int),.int .u8 ((o1 : Nat) : Int)] ∧ L' = L := by
  refine Fn.lose (Fn.frame (L := []) (F := L) (told_walk n1 c1 ea en ek m1 o1)) ?_
  rintro v L' ⟨L1,rfl,rfl⟩
  exact ⟨L,L1,Same.perm List.perm_append_comm,rfl,rfl⟩

theorem alike_known {K : Known} (p e5 m o : Nat) (n c : ByteArray) (l y : List UInt8) (a1 a2 d1 d2 : Option Addr) (k1 k2 q1 q2 : Nat) (h1 : RB K [] a1 l) (h2 : RB K [] a2 l) (h3 : RB K [] d1 y) (h4 : RB K [] d2 y) : Fn Tryd.prog K 16 #[.agg #[.int .i64 ((p : Nat) : Int),.string n,.string c,.slice a1 l.length k1,.int .i64 ((m : Nat) : Int),.int .u8 ((o : Nat) : Int),.slice d1 y.length q1,.int .i64 ((e5 : Nat) : Int)],.agg #[.int .i64 ((p : Nat) : Int),.string n,.string c,.slice a2 l.length k2,.int .i64 ((m : Nat) : Int),.int .u8 ((o : Nat) : Int),.slice d2 y.length q2,.int .i64 ((e5 : Nat) : Int)]] ([]) (fun v _ => v = .bool true) := by
 refine Fn.intro (args := [.agg #[.int .i64 ((p : Nat) : Int),.string n,.string c,.slice a1 l.length k1,.int .i64 ((m : Nat) : Int),.int .u8 ((o : Nat) : Int),.slice d1 y.length q1,.int .i64 ((e5 : Nat) : Int)],.agg #[.int .i64 ((p : Nat) : Int),.string n,.string c,.slice a2 l.length k2,.int .i64 ((m : Nat) : Int),.int .u8 ((o : Nat) : Int),.slice d2 y.length q2,.int .i64 ((e5 : Nat) : Int)]]) (RR := Ret1 4 _) Tryd.func16 rfl rfl Tryd.ntmps16 (res1 Tryd.results16) ?_
 refine C.reenv (env2 := [(0,.agg #[.int .i64 ((p : Nat) : Int),.string n,.string c,.slice a1 l.length k1,.int .i64 ((m : Nat) : Int),.int .u8 ((o : Nat) : Int),.slice d1 y.length q1,.int .i64 ((e5 : Nat) : Int)]),(1,.agg #[.int .i64 ((p : Nat) : Int),.string n,.string c,.slice a2 l.length k2,.int .i64 ((m : Nat) : Int),.int .u8 ((o : Nat) : Int),.slice d2 y.length q2,.int .i64 ((e5 : Nat) : Int)])]) rfl ?_
 refine C.sr ?_
 refine E.loud1 (X.box rfl) rfl ?_; rintro _ _ ⟨b2,rfl,rfl⟩; refine E.relist (L2 := [_]) rfl ?_
 refine E.loud1 (X.box rfl) rfl ?_; rintro _ _ ⟨b3,rfl,rfl⟩; refine E.relist (L2 := [_,_]) rfl ?_
 refine E.pure (S.assign rfl) rfl ?_
 refine E.kp [(2,_),(3,_),(4,_)] rfl ?_
 refine C.seq ?_
 refine C.draw [0,1,0,4,10,16,32,96,32,288,544,1184,2080,6144,8192,24576,8192,73728,172032,270336,786432,1048576,3145728,1048576,9437184,22020096,34603008,134217727] (.pure 0 12 (.pure 2 3 (.alt 1 (.alt 3 (.pure 4 15 (.pure 5 31 (.pure 6 1855 (.pure 8 255 (.alt 7 (.seg [(9,511)] (.alt 10 (.alt 11 (.pure 12 4095 (.pure 13 8191 (.pure 14 212991 (.pure 16 65535 (.seg [(15,229375),(17,131071)] (.alt 18 (.pure 19 524287 (.pure 20 1048575 (.pure 21 27262975 (.pure 23 8388607 (.seg [(22,29360127),(24,16777215),(25,33554431),(26,67108863),(27,134217727)] .done))))) .stop)))))) .stop) .stop)) (.alt 9 (.alt 7 (.alt 10 (.alt 11 (.pure 12 4095 (.pure 13 8191 (.pure 14 212991 (.pure 16 65535 (.seg [(15,229375),(17,131071)] (.alt 18 (.pure 19 524287 (.pure 20 1048575 (.pure 21 27262975 (.pure 23 8388607 (.seg [(22,29360127),(24,16777215),(25,33554431),(26,67108863),(27,134217727)] .done))))) .stop)))))) .stop) .stop) (.alt 10 (.seg [(7,1919)] (.alt 11 (.pure 12 4095 (.pure 13 8191 (.pure 14 212991 (.pure 16 65535 (.seg [(15,229375),(17,131071)] (.alt 18 (.pure 19 524287 (.pure 20 1048575 (.pure 21 27262975 (.pure 23 8388607 (.seg [(22,29360127),(24,16777215),(25,33554431),(26,67108863),(27,134217727)] .done))))) .stop)))))) .stop)) .stop)) .stop)))))) .stop) (.alt 3 (.alt 1 (.pure 4 15 (.pure 5 31 (.pure 6 1855 (.pure 8 255 (.alt 7 (.seg [(9,511)] (.alt 10 (.alt 11 (.pure 12 4095 (.pure 13 8191 (.pure 14 212991 (.pure 16 65535 (.seg [(15,229375),(17,131071)] (.alt 18 (.pure 19 524287 (.pure 20 1048575 (.pure 21 27262975 (.pure 23 8388607 (.seg [(22,29360127),(24,16777215),(25,33554431),(26,67108863),(27,134217727)] .done))))) .stop)))))) .stop) .stop)) (.alt 9 (.alt 7 (.alt 10 (.alt 11 (.pure 12 4095 (.pure 13 8191 (.pure 14 212991 (.pure 16 65535 (.seg [(15,229375),(17,131071)] (.alt 18 (.pure 19 524287 (.pure 20 1048575 (.pure 21 27262975 (.pure 23 8388607 (.seg [(22,29360127),(24,16777215),(25,33554431),(26,67108863),(27,134217727)] .done))))) .stop)))))) .stop) .stop) (.alt 10 (.seg [(7,1919)] (.alt 11 (.pure 12 4095 (.pure 13 8191 (.pure 14 212991 (.pure 16 65535 (.seg [(15,229375),(17,131071)] (.alt 18 (.pure 19 524287 (.pure 20 1048575 (.pure 21 27262975 (.pure 23 8388607 (.seg [(22,29360127),(24,16777215),(25,33554431),(26,67108863),(27,134217727)] .done))))) .stop)))))) .stop)) .stop)) .stop)))))) .stop) .stop)))) mixed (by decide +kernel) ?_
 refine D.pure rfl (S.field rfl fa43_0) rfl ?_
 refine D.pure rfl (S.field rfl fa43_0) rfl ?_
 refine D.alt ?_ ⟨?_,trivial⟩
 ·
  refine O.still rfl (S.load 1 (k := 0) rfl rfl rfl Tryd.isAgg3) rfl ?_
  refine D.one ?_
  refine O.still rfl (S.load 0 (k := 0) rfl rfl rfl Tryd.isAgg3) rfl ?_
  refine D.pure rfl (S.eq rfl rfl) rfl ?_
  refine D.reslot (v := .bool true) (congrArg Value.bool (by simp)) ?_
  refine D.pure rfl (S.move rfl) rfl ?_
  refine D.yes 10 rfl rfl rfl (OpP.toK (S.field rfl fa43_1)) rfl ?_
  refine D.yes 10 rfl rfl rfl (OpP.toK (S.field rfl fa43_1)) rfl ?_
  refine D.alt ?_ ⟨?_,trivial⟩
  ·
   refine O.yesS 10 rfl rfl rfl (S.loadA 1 (k := 1) rfl rfl rfl rfl Tryd.isAgg27 Tryd.sizeOf27) rfl ?_
   refine D.seg (by decide) ?_
   refine W.yes 10 rfl rfl rfl (S.loadA 0 (k := 1) rfl rfl rfl rfl Tryd.isAgg27 Tryd.sizeOf27) rfl ?_
   refine W.nil ?_
   refine D.one ?_
   refine O.yes 10 rfl rfl rfl (X.call rfl Tryd.call34 (told_spec n c _ _ _ m o _)) rfl ?_; rintro _ _ ⟨rfl,rfl⟩; refine D.relist (L2 := [_,_]) rfl ?_
   refine D.one ?_
   refine O.yes 10 rfl rfl rfl (X.call rfl Tryd.call11 (same_spec _ _ _ _ _ _ _ _ _ _ _ _ _ _ h1.lift h2.lift)) rfl ?_; rintro _ _ ⟨rfl,rfl⟩; refine D.relist (L2 := [_,_]) rfl ?_
   refine D.reslot (v := .bool true) (congrArg Value.bool (by simp)) ?_
   refine D.pure rfl (S.pickT rfl rfl) rfl ?_
   refine D.pure rfl (S.move rfl) rfl ?_
   refine D.yes 18 rfl rfl rfl (OpP.toK (S.field rfl fa43_2)) rfl ?_
   refine D.yes 18 rfl rfl rfl (OpP.toK (S.field rfl fa43_2)) rfl ?_
   refine D.seg (by decide) ?_
   refine W.yes 18 rfl rfl rfl (S.load 1 (k := 6) rfl rfl rfl Tryd.isAgg22) rfl ?_
   refine W.yes 18 rfl rfl rfl (S.load 0 (k := 6) rfl rfl rfl Tryd.isAgg22) rfl ?_
   refine W.nil ?_
   refine D.one ?_
   refine O.yes 18 rfl rfl rfl (X.call rfl Tryd.call29 (bytesEqual_spec d1 d2 q1 q2 y y h3.lift h4.lift)) rfl ?_; rintro _ _ ⟨rfl,rfl⟩; refine D.relist (L2 := [_,_]) rfl ?_
   refine D.reslot (v := .bool true) (congrArg Value.bool (by simp)) ?_
   refine D.pure rfl (S.pickT rfl rfl) rfl ?_
   refine D.pure rfl (S.move rfl) rfl ?_
   refine D.yes 25 rfl rfl rfl (OpP.toK (S.field rfl fa43_3)) rfl ?_
   refine D.yes 25 rfl rfl rfl (OpP.toK (S.field rfl fa43_3)) rfl ?_
   refine D.seg (by decide) ?_
   refine W.yes 25 rfl rfl rfl (S.load 1 (k := 7) rfl rfl rfl Tryd.isAgg3) rfl ?_
   refine W.yes 25 rfl rfl rfl (S.load 0 (k := 7) rfl rfl rfl Tryd.isAgg3) rfl ?_
   refine W.yes 25 rfl rfl rfl (fun a w hf _ => (S.eq rfl rfl) a w hf) rfl ?_
   refine W.reslot (v := .bool true) (congrArg Value.bool (by simp)) ?_
   refine W.pure rfl (S.pickT rfl rfl) rfl ?_
   refine W.pure rfl (S.assign rfl) rfl ?_
   refine W.nil ?_
   refine D.kp [(2,_),(3,_),(4,_)] rfl ?_
   refine C.ret ?_
   exact ⟨_,rfl,rfl⟩
  refine O.yesS 10 rfl rfl rfl (S.loadA 0 (k := 1) rfl rfl rfl rfl Tryd.isAgg27 Tryd.sizeOf27) rfl ?_
  refine D.alt ?_ ⟨?_,trivial⟩
  ·
   refine O.yesS 10 rfl rfl rfl (S.loadA 1 (k := 1) rfl rfl rfl rfl Tryd.isAgg27 Tryd.sizeOf27) rfl ?_
   refine D.one ?_
   refine O.yes 10 rfl rfl rfl (X.call rfl Tryd.call34 (told_spec n c _ _ _ m o _)) rfl ?_; rintro _ _ ⟨rfl,rfl⟩; refine D.relist (L2 := [_,_]) rfl ?_
   refine D.one ?_
   refine O.yes 10 rfl rfl rfl (X.call rfl Tryd.call11 (same_spec _ _ _ _ _ _ _ _ _ _ _ _ _ _ h1.lift h2.lift)) rfl ?_; rintro _ _ ⟨rfl,rfl⟩; refine D.relist (L2 := [_,_]) rfl ?_
   refine D.reslot (v := .bool true) (congrArg Value.bool (by simp)) ?_
   refine D.pure rfl (S.pickT rfl rfl) rfl ?_
   refine D.pure rfl (S.move rfl) rfl ?_
   refine D.yes 18 rfl rfl rfl (OpP.toK (S.field rfl fa43_2)) rfl ?_
   refine D.yes 18 rfl rfl rfl (OpP.toK (S.field rfl fa43_2)) rfl ?_
   refine D.seg (by decide) ?_
   refine W.yes 18 rfl rfl rfl (S.load 1 (k := 6) rfl rfl rfl Tryd.isAgg22) rfl ?_
   refine W.yes 18 rfl rfl rfl (S.load 0 (k := 6) rfl rfl rfl Tryd.isAgg22) rfl ?_
   refine W.nil ?_
   refine D.one ?_
   refine O.yes 18 rfl rfl rfl (X.call rfl Tryd.call29 (bytesEqual_spec d1 d2 q1 q2 y y h3.lift h4.lift)) rfl ?_; rintro _ _ ⟨rfl,rfl⟩; refine D.relist (L2 := [_,_]) rfl ?_
   refine D.reslot (v := .bool true) (congrArg Value.bool (by simp)) ?_
   refine D.pure rfl (S.pickT rfl rfl) rfl ?_
   refine D.pure rfl (S.move rfl) rfl ?_
   refine D.yes 25 rfl rfl rfl (OpP.toK (S.field rfl fa43_3)) rfl ?_
   refine D.yes 25 rfl rfl rfl (OpP.toK (S.field rfl fa43_3)) rfl ?_
   refine D.seg (by decide) ?_
   refine W.yes 25 rfl rfl rfl (S.load 1 (k := 7) rfl rfl rfl Tryd.isAgg3) rfl ?_
   refine W.yes 25 rfl rfl rfl (S.load 0 (k := 7) rfl rfl rfl Tryd.isAgg3) rfl ?_
   refine W.yes 25 rfl rfl rfl (fun a w hf _ => (S.eq rfl rfl) a w hf) rfl ?_
   refine W.reslot (v := .bool true) (congrArg Value.bool (by simp)) ?_
   refine W.pure rfl (S.pickT rfl rfl) rfl ?_
   refine W.pure rfl (S.assign rfl) rfl ?_
   refine W.nil ?_
   refine D.kp [(2,_),(3,_),(4,_)] rfl ?_
   refine C.ret ?_
   exact ⟨_,rfl,rfl⟩
  refine O.yes 10 rfl rfl rfl (X.call rfl Tryd.call34 (told_spec n c _ _ _ m o _)) rfl ?_; rintro _ _ ⟨rfl,rfl⟩; refine D.relist (L2 := [_,_]) rfl ?_
  refine D.seg (by decide) ?_
  refine W.yes 10 rfl rfl rfl (S.loadA 1 (k := 1) rfl rfl rfl rfl Tryd.isAgg27 Tryd.sizeOf27) rfl ?_
  refine W.nil ?_
  refine D.one ?_
  refine O.yes 10 rfl rfl rfl (X.call rfl Tryd.call11 (same_spec _ _ _ _ _ _ _ _ _ _ _ _ _ _ h1.lift h2.lift)) rfl ?_; rintro _ _ ⟨rfl,rfl⟩; refine D.relist (L2 := [_,_]) rfl ?_
  refine D.reslot (v := .bool true) (congrArg Value.bool (by simp)) ?_
  refine D.pure rfl (S.pickT rfl rfl) rfl ?_
  refine D.pure rfl (S.move rfl) rfl ?_
  refine D.yes 18 rfl rfl rfl (OpP.toK (S.field rfl fa43_2)) rfl ?_
  refine D.yes 18 rfl rfl rfl (OpP.toK (S.field rfl fa43_2)) rfl ?_
  refine D.seg (by decide) ?_
  refine W.yes 18 rfl rfl rfl (S.load 1 (k := 6) rfl rfl rfl Tryd.isAgg22) rfl ?_
  refine W.yes 18 rfl rfl rfl (S.load 0 (k := 6) rfl rfl rfl Tryd.isAgg22) rfl ?_
  refine W.nil ?_
  refine D.one ?_
  refine O.yes 18 rfl rfl rfl (X.call rfl Tryd.call29 (bytesEqual_spec d1 d2 q1 q2 y y h3.lift h4.lift)) rfl ?_; rintro _ _ ⟨rfl,rfl⟩; refine D.relist (L2 := [_,_]) rfl ?_
  refine D.reslot (v := .bool true) (congrArg Value.bool (by simp)) ?_
  refine D.pure rfl (S.pickT rfl rfl) rfl ?_
  refine D.pure rfl (S.move rfl) rfl ?_
  refine D.yes 25 rfl rfl rfl (OpP.toK (S.field rfl fa43_3)) rfl ?_
  refine D.yes 25 rfl rfl rfl (OpP.toK (S.field rfl fa43_3)) rfl ?_
  refine D.seg (by decide) ?_
  refine W.yes 25 rfl rfl rfl (S.load 1 (k := 7) rfl rfl rfl Tryd.isAgg3) rfl ?_
  refine W.yes 25 rfl rfl rfl (S.load 0 (k := 7) rfl rfl rfl Tryd.isAgg3) rfl ?_
  refine W.yes 25 rfl rfl rfl (fun a w hf _ => (S.eq rfl rfl) a w hf) rfl ?_
  refine W.reslot (v := .bool true) (congrArg Value.bool (by simp)) ?_
  refine W.pure rfl (S.pickT rfl rfl) rfl ?_
  refine W.pure rfl (S.assign rfl) rfl ?_
  refine W.nil ?_
  refine D.kp [(2,_),(3,_),(4,_)] rfl ?_
  refine C.ret ?_
  exact ⟨_,rfl,rfl⟩
 refine O.still rfl (S.load 0 (k := 0) rfl rfl rfl Tryd.isAgg3) rfl ?_
 refine D.one ?_
 refine O.still rfl (S.load 1 (k := 0) rfl rfl rfl Tryd.isAgg3) rfl ?_
 refine D.pure rfl (S.eq rfl rfl) rfl ?_
 refine D.reslot (v := .bool true) (congrArg Value.bool (by simp)) ?_
 refine D.pure rfl (S.move rfl) rfl ?_
 refine D.yes 10 rfl rfl rfl (OpP.toK (S.field rfl fa43_1)) rfl ?_
 refine D.yes 10 rfl rfl rfl (OpP.toK (S.field rfl fa43_1)) rfl ?_
 refine D.alt ?_ ⟨?_,trivial⟩
 ·
  refine O.yesS 10 rfl rfl rfl (S.loadA 1 (k := 1) rfl rfl rfl rfl Tryd.isAgg27 Tryd.sizeOf27) rfl ?_
  refine D.seg (by decide) ?_
  refine W.yes 10 rfl rfl rfl (S.loadA 0 (k := 1) rfl rfl rfl rfl Tryd.isAgg27 Tryd.sizeOf27) rfl ?_
  refine W.nil ?_
  refine D.one ?_
  refine O.yes 10 rfl rfl rfl (X.call rfl Tryd.call34 (told_spec n c _ _ _ m o _)) rfl ?_; rintro _ _ ⟨rfl,rfl⟩; refine D.relist (L2 := [_,_]) rfl ?_
  refine D.one ?_
  refine O.yes 10 rfl rfl rfl (X.call rfl Tryd.call11 (same_spec _ _ _ _ _ _ _ _ _ _ _ _ _ _ h1.lift h2.lift)) rfl ?_; rintro _ _ ⟨rfl,rfl⟩; refine D.relist (L2 := [_,_]) rfl ?_
  refine D.reslot (v := .bool true) (congrArg Value.bool (by simp)) ?_
  refine D.pure rfl (S.pickT rfl rfl) rfl ?_
  refine D.pure rfl (S.move rfl) rfl ?_
  refine D.yes 18 rfl rfl rfl (OpP.toK (S.field rfl fa43_2)) rfl ?_
  refine D.yes 18 rfl rfl rfl (OpP.toK (S.field rfl fa43_2)) rfl ?_
  refine D.seg (by decide) ?_
  refine W.yes 18 rfl rfl rfl (S.load 1 (k := 6) rfl rfl rfl Tryd.isAgg22) rfl ?_
  refine W.yes 18 rfl rfl rfl (S.load 0 (k := 6) rfl rfl rfl Tryd.isAgg22) rfl ?_
  refine W.nil ?_
  refine D.one ?_
  refine O.yes 18 rfl rfl rfl (X.call rfl Tryd.call29 (bytesEqual_spec d1 d2 q1 q2 y y h3.lift h4.lift)) rfl ?_; rintro _ _ ⟨rfl,rfl⟩; refine D.relist (L2 := [_,_]) rfl ?_
  refine D.reslot (v := .bool true) (congrArg Value.bool (by simp)) ?_
  refine D.pure rfl (S.pickT rfl rfl) rfl ?_
  refine D.pure rfl (S.move rfl) rfl ?_
  refine D.yes 25 rfl rfl rfl (OpP.toK (S.field rfl fa43_3)) rfl ?_
  refine D.yes 25 rfl rfl rfl (OpP.toK (S.field rfl fa43_3)) rfl ?_
  refine D.seg (by decide) ?_
  refine W.yes 25 rfl rfl rfl (S.load 1 (k := 7) rfl rfl rfl Tryd.isAgg3) rfl ?_
  refine W.yes 25 rfl rfl rfl (S.load 0 (k := 7) rfl rfl rfl Tryd.isAgg3) rfl ?_
  refine W.yes 25 rfl rfl rfl (fun a w hf _ => (S.eq rfl rfl) a w hf) rfl ?_
  refine W.reslot (v := .bool true) (congrArg Value.bool (by simp)) ?_
  refine W.pure rfl (S.pickT rfl rfl) rfl ?_
  refine W.pure rfl (S.assign rfl) rfl ?_
  refine W.nil ?_
  refine D.kp [(2,_),(3,_),(4,_)] rfl ?_
  refine C.ret ?_
  exact ⟨_,rfl,rfl⟩
 refine O.yesS 10 rfl rfl rfl (S.loadA 0 (k := 1) rfl rfl rfl rfl Tryd.isAgg27 Tryd.sizeOf27) rfl ?_
 refine D.alt ?_ ⟨?_,trivial⟩
 ·
  refine O.yesS 10 rfl rfl rfl (S.loadA 1 (k := 1) rfl rfl rfl rfl Tryd.isAgg27 Tryd.sizeOf27) rfl ?_
  refine D.one ?_
  refine O.yes 10 rfl rfl rfl (X.call rfl Tryd.call34 (told_spec n c _ _ _ m o _)) rfl ?_; rintro _ _ ⟨rfl,rfl⟩; refine D.relist (L2 := [_,_]) rfl ?_
  refine D.one ?_
  refine O.yes 10 rfl rfl rfl (X.call rfl Tryd.call11 (same_spec _ _ _ _ _ _ _ _ _ _ _ _ _ _ h1.lift h2.lift)) rfl ?_; rintro _ _ ⟨rfl,rfl⟩; refine D.relist (L2 := [_,_]) rfl ?_
  refine D.reslot (v := .bool true) (congrArg Value.bool (by simp)) ?_
  refine D.pure rfl (S.pickT rfl rfl) rfl ?_
  refine D.pure rfl (S.move rfl) rfl ?_
  refine D.yes 18 rfl rfl rfl (OpP.toK (S.field rfl fa43_2)) rfl ?_
  refine D.yes 18 rfl rfl rfl (OpP.toK (S.field rfl fa43_2)) rfl ?_
  refine D.seg (by decide) ?_
  refine W.yes 18 rfl rfl rfl (S.load 1 (k := 6) rfl rfl rfl Tryd.isAgg22) rfl ?_
  refine W.yes 18 rfl rfl rfl (S.load 0 (k := 6) rfl rfl rfl Tryd.isAgg22) rfl ?_
  refine W.nil ?_
  refine D.one ?_
  refine O.yes 18 rfl rfl rfl (X.call rfl Tryd.call29 (bytesEqual_spec d1 d2 q1 q2 y y h3.lift h4.lift)) rfl ?_; rintro _ _ ⟨rfl,rfl⟩; refine D.relist (L2 := [_,_]) rfl ?_
  refine D.reslot (v := .bool true) (congrArg Value.bool (by simp)) ?_
  refine D.pure rfl (S.pickT rfl rfl) rfl ?_
  refine D.pure rfl (S.move rfl) rfl ?_
  refine D.yes 25 rfl rfl rfl (OpP.toK (S.field rfl fa43_3)) rfl ?_
  refine D.yes 25 rfl rfl rfl (OpP.toK (S.field rfl fa43_3)) rfl ?_
  refine D.seg (by decide) ?_
  refine W.yes 25 rfl rfl rfl (S.load 1 (k := 7) rfl rfl rfl Tryd.isAgg3) rfl ?_
  refine W.yes 25 rfl rfl rfl (S.load 0 (k := 7) rfl rfl rfl Tryd.isAgg3) rfl ?_
  refine W.yes 25 rfl rfl rfl (fun a w hf _ => (S.eq rfl rfl) a w hf) rfl ?_
  refine W.reslot (v := .bool true) (congrArg Value.bool (by simp)) ?_
  refine W.pure rfl (S.pickT rfl rfl) rfl ?_
  refine W.pure rfl (S.assign rfl) rfl ?_
  refine W.nil ?_
  refine D.kp [(2,_),(3,_),(4,_)] rfl ?_
  refine C.ret ?_
  exact ⟨_,rfl,rfl⟩
 refine O.yes 10 rfl rfl rfl (X.call rfl Tryd.call34 (told_spec n c _ _ _ m o _)) rfl ?_; rintro _ _ ⟨rfl,rfl⟩; refine D.relist (L2 := [_,_]) rfl ?_
 refine D.seg (by decide) ?_
 refine W.yes 10 rfl rfl rfl (S.loadA 1 (k := 1) rfl rfl rfl rfl Tryd.isAgg27 Tryd.sizeOf27) rfl ?_
 refine W.nil ?_
 refine D.one ?_
 refine O.yes 10 rfl rfl rfl (X.call rfl Tryd.call11 (same_spec _ _ _ _ _ _ _ _ _ _ _ _ _ _ h1.lift h2.lift)) rfl ?_; rintro _ _ ⟨rfl,rfl⟩; refine D.relist (L2 := [_,_]) rfl ?_
 refine D.reslot (v := .bool true) (congrArg Value.bool (by simp)) ?_
 refine D.pure rfl (S.pickT rfl rfl) rfl ?_
 refine D.pure rfl (S.move rfl) rfl ?_
 refine D.yes 18 rfl rfl rfl (OpP.toK (S.field rfl fa43_2)) rfl ?_
 refine D.yes 18 rfl rfl rfl (OpP.toK (S.field rfl fa43_2)) rfl ?_
 refine D.seg (by decide) ?_
 refine W.yes 18 rfl rfl rfl (S.load 1 (k := 6) rfl rfl rfl Tryd.isAgg22) rfl ?_
 refine W.yes 18 rfl rfl rfl (S.load 0 (k := 6) rfl rfl rfl Tryd.isAgg22) rfl ?_
 refine W.nil ?_
 refine D.one ?_
 refine O.yes 18 rfl rfl rfl (X.call rfl Tryd.call29 (bytesEqual_spec d1 d2 q1 q2 y y h3.lift h4.lift)) rfl ?_; rintro _ _ ⟨rfl,rfl⟩; refine D.relist (L2 := [_,_]) rfl ?_
 refine D.reslot (v := .bool true) (congrArg Value.bool (by simp)) ?_
 refine D.pure rfl (S.pickT rfl rfl) rfl ?_
 refine D.pure rfl (S.move rfl) rfl ?_
 refine D.yes 25 rfl rfl rfl (OpP.toK (S.field rfl fa43_3)) rfl ?_
 refine D.yes 25 rfl rfl rfl (OpP.toK (S.field rfl fa43_3)) rfl ?_
 refine D.seg (by decide) ?_
 refine W.yes 25 rfl rfl rfl (S.load 1 (k := 7) rfl rfl rfl Tryd.isAgg3) rfl ?_
 refine W.yes 25 rfl rfl rfl (S.load 0 (k := 7) rfl rfl rfl Tryd.isAgg3) rfl ?_
 refine W.yes 25 rfl rfl rfl (fun a w hf _ => (S.eq rfl rfl) a w hf) rfl ?_
 refine W.reslot (v := .bool true) (congrArg Value.bool (by simp)) ?_
 refine W.pure rfl (S.pickT rfl rfl) rfl ?_
 refine W.pure rfl (S.assign rfl) rfl ?_
 refine W.nil ?_
 refine D.kp [(2,_),(3,_),(4,_)] rfl ?_
 refine C.ret ?_
 exact ⟨_,rfl,rfl⟩
theorem RdV.rb {K : Known} {v : Value} {l : List UInt8} {G L : Frags} (h : RdV v l G) (hL : ∀ f ∈ G,f ∈ L) : ∃ a c,v = .slice a l.length c ∧ RB K L a l := by
  obtain ⟨a,c,rfl,h⟩ := h
  exact ⟨a,c,rfl,h K L hL⟩
/-- Two results of the same reading. -/
theorem alike_spec {K : Known} {u : UnpR} {r1 r2 : Value} {G1 G2 L : Frags} (h1 : UnpV u r1 G1) (h2 : UnpV u r2 G2) (hL1 : ∀ f ∈ G1,f ∈ L) (hL2 : ∀ f ∈ G2,f ∈ L) : Fn Tryd.prog K 16 #[r1,r2] L fun v L' => v = .bool true ∧ L' = L := by
  obtain ⟨ev1,bv1,rfl,he1,hb1⟩ := h1
  obtain ⟨ev2,bv2,rfl,he2,hb2⟩ := h2
  obtain ⟨a1,k1,rfl,x1⟩ := he1.rb (K := K) hL1
  obtain ⟨a2,k2,rfl,x2⟩ := he2.rb (K := K) hL2
  obtain ⟨b1,q1,rfl,x3⟩ := hb1.rb (K := K) hL1
  obtain ⟨b2,q2,rfl,x4⟩ := hb2.rb (K := K) hL2
  exact Fn.stillR fun w hw => alike_known u.1 u.2.2.2 u.2.1.mod u.2.1.os u.2.1.name u.2.1.comment (u.2.1.extra.getD []) u.2.2.1 a1 a2 b1 b2 k1 k2 q1 q2 (x1.still hw) (x2.still hw) (x3.still hw) (x4.still hw)

end Go.Eng
namespace Go.Eng
open Go Go.Proofs
set_option maxRecDepth 100000

set_option maxHeartbeats 1000000
theorem To.newM {K : Known} {L : Frags} {w : World} (hw : Agree K L w.heap) (vs : List Value) (t : TypeId) (fr : Nat × Nat) (hfr : vs.length ≤ fr.1) :
    To K w L (w.alloc (.cells vs.toArray t fr)) (⟨w.heap.size,0,vs⟩::L) := by
  have hold : ∀ (k : Nat),k < w.heap.size → (w.heap.push (.cells vs.toArray t fr))[k]? = w.heap[k]? := fun k hk => by
    rw [Array.getElem?_push,if_neg (by omega)]
  have hh : (w.alloc (.cells vs.toArray t fr)).heap = w.heap.push (.cells vs.toArray t fr) := rfl
  refine ⟨⟨fun b ob hb => ?_,fun f hf => ?_,fun f hf => ?_,?_⟩,by rw [hh]; simp,fun b hb _ => hold b hb,fun b c t' fr hb => ⟨c,?_,rfl,fun _ _ => rfl⟩,fun f hf => ?_,rfl,rfl,rfl⟩
  · have h1 := hw.base b ob hb
    rw [hh,hold b (lt_of_some h1)]
    exact h1
  · rcases List.mem_cons.1 hf with rfl | h
    · cases hk : K w.heap.size with
      | none => rfl
      | some o => exact absurd (lt_of_some (hw.base _ o hk)) (Nat.lt_irrefl _)
    · exact hw.up f h
  · rcases List.mem_cons.1 hf with rfl | h
    · exact ⟨vs.toArray,t,fr,by rw [hh]; simp,fun j hj => by simp only at hj; simp [hj],fun j hj => by simp only at hj ⊢; simp; omega⟩
    · obtain ⟨c,t',fr',h1,h2⟩ := (hw.ok f h).row
      exact ⟨c,t',fr',by rw [hh,hold _ (lt_of_some h1)]; exact h1,h2⟩
  · refine List.pairwise_cons.2 ⟨fun g hg b j h1 h2 => ?_,hw.dis⟩
    have := (hw.ok g hg).lt
    have e1 : w.heap.size = b := h1.1
    have e2 := h2.1
    omega
  · rw [hh,hold _ (lt_of_some hb)]; exact hb
  · rcases List.mem_cons.1 hf with rfl | h
    · exact .inl (Nat.le_refl _)
    · exact .inr ⟨⟨f,h,rfl⟩,fun j hj => ⟨f,h,hj⟩⟩
theorem E.buildMark {P : Program} {K : Known} {n : Nat} {ops : Array Oper} {d1 d2 j t e m : Nat} {bb : Bool} {l : List (Nat × Operand)} {vs : List Value} {ty1 ty2 : TypeId} {pos1 pos2 : String} {af1 af2 : Array Edge} {rest : List Oper} {env : Env} {L : Frags} {N : Post} (ps : List (Nat × Value)) (tg : Nat) (hps : evParts env l = some ps)
    (hrun : ∀ w,(Instr.buildSlice t m ps.toArray).run P w = .ok (.slice (some ⟨w.heap.size,0,none⟩) m m) (w.alloc (.cells vs.toArray e))) (ht : P.underlying t = some (.slice e)) (he : P.underlying e = some (.int .u8))
    (hd1 : dstOk (some d1) n = true) (hd2 : dstOk (some d2) n = true) (hg : (ops[j]?).bind (·.dst) = some tg) (hv : get? env tg = some (.bool bb)) (hne : Nat.beq d1 tg = false)
    (k : ∀ b,wpE P K n ops rest ((d2,.slice (some ⟨b,0,none⟩) m m)::(d1,.slice (some ⟨b,0,none⟩) m m)::env) (⟨b,0,vs⟩::L) N) :
    wpE P K n ops (⟨some d1,.buildSlice t m l.toArray,ty1,pos1,af1,none⟩::⟨some d2,.convert t t (.tmp d1),ty2,pos2,af2,some (j,bb)⟩::rest) env L N := by
  intro a w hf hw Q hq
  have e1 := evParts_eval hf hps
  have e2 : (Array.map (fun (x : Nat × Operand) => match x with | (i,x) => (i,a.eval x)) l.toArray) = ps.toArray := by
    rw [← e1]; simp
  have hr1 : (exop a.eval (.buildSlice t m l.toArray) ty1).run P w = .ok (.value (.slice (some ⟨w.heap.size,0,none⟩) m m)) (w.alloc (.cells vs.toArray e)) := by
    simp only [exop,execOp,e2]
    simp [hrun]
  have hf1 := hf.ext hd1 (.slice (some ⟨w.heap.size,0,none⟩) m m)
  have hy := yielded_of (ops := ops) hf1 hg (c := bb) (by simp only [ext,get?]; simpa [hne] using hv)
  have hr2 : (exop (a.put (some d1) (.slice (some ⟨w.heap.size,0,none⟩) m m)).eval (.convert t t (.tmp d1)) ty2).run P (w.alloc (.cells vs.toArray e)) = .ok (.value (.slice (some ⟨w.heap.size,0,none⟩) m m)) (w.alloc (.cells vs.toArray e (vs.toArray.size,vs.toArray.size + 1))) := by
    have hev : (a.put (some d1) (.slice (some ⟨w.heap.size,0,none⟩) m m)).eval (.tmp d1) = .slice (some ⟨w.heap.size,0,none⟩) m m := hf1.eval (x := .tmp d1) (by simp [ev?,ext,get?])
    simp only [exop,execOp,hev]
    simp [Go.Lib.run_convert_bytes_const w t e vs.toArray m m ht he]
  simp only [wpList,Region.wanted,if_true]
  refine .inl ?_
  simp only [Oper.wp,execOp_exop,hr1,Oper.upon_value,hy,beq_self_eq_true,if_true]
  refine .inl ?_
  simp only [hr2,Oper.upon_value]
  have t := To.newM hw vs e (vs.toArray.size,vs.toArray.size + 1) (by simp)
  exact k w.heap.size _ _ (hf1.ext hd2 _) t.st Q fun e l a2 w2 h f t2 => hq e l a2 w2 h f (t.trans t2)

def wakeD : List UInt8 := [31,139,8,0,0,0,0,0,0,255,1,1,0,254,255,97,67,190,183,232,1,0,0,0]
theorem wakeBuild (w : World) : (Instr.buildSlice 22 24 ((bytesV wakeD).zipIdx.map fun p => (p.2,p.1)).toArray).run Tryd.prog w = .ok (.slice (some ⟨w.heap.size,0,none⟩) 24 24) (w.alloc (.cells (bytesV wakeD).toArray 5)) := by
  have e : Instr.fill (fun i => some (i * 1,1)) ((Array.range (24 * 1)).map fun x => ((Value.int .u8 0).cells : Array Value)[x % ((Value.int .u8 0).cells : Array Value).size]!) ((bytesV wakeD).zipIdx.map fun p => (p.2,p.1)) = some (bytesV wakeD).toArray := by kernel_rfl
  unfold Instr.buildSlice
  simp only [Sem.run_bind,Tryd.runUnderlying22,Result.andThen_ok,Tryd.sizeOf5]
  rw [if_neg (by decide),if_neg (by decide)]
  simp only [Sem.run_bind,Tryd.zeroValue5,Result.andThen_ok,Sem.run_pure]
  rw [e]
  simp [newRow]
theorem oneBuild (w : World) : (Instr.buildSlice 22 1 [(0,Value.int .u8 97)].toArray).run Tryd.prog w = .ok (.slice (some ⟨w.heap.size,0,none⟩) 1 1) (w.alloc (.cells (bytesV [97]).toArray 5)) := by
  have e : Instr.fill (fun i => some (i * 1,1)) ((Array.range (1 * 1)).map fun x => ((Value.int .u8 0).cells : Array Value)[x % ((Value.int .u8 0).cells : Array Value).size]!) [(0,Value.int .u8 97)] = some (bytesV [97]).toArray := by kernel_rfl
  unfold Instr.buildSlice
  simp only [Sem.run_bind,Tryd.runUnderlying22,Result.andThen_ok,Tryd.sizeOf5]
  rw [if_neg (by decide),if_neg (by decide)]
  simp only [Sem.run_bind,Tryd.zeroValue5,Result.andThen_ok,Sem.run_pure]
  rw [e]
  simp [newRow]
theorem wake_head : (readHead wakeD).1 = .none ∧ (readHead wakeD).2.1 = wakeD.drop 10 := ⟨by decide,by decide⟩
theorem wake_run : run (wakeD.drop 10) .next [] 0 = ([97],.done 6) := by
  rw [run_next0 (by decide) (by decide),storR,show storedN (wakeD.drop 10) ((0 + 3 + 7) / 8) = some 1 by decide]
  simp only [stored]
  rw [if_neg (by decide),if_pos (by decide)]
  rfl
theorem wake_gz : gzR true (wakeD.drop 10) = ([97],1,[]) := by
  have hr := wake_run
  have h2 : (run (wakeD.drop 10) .next [] 0).2 = .done 6 := by rw [hr]
  rw [gzR_eq,gzT_head h2 (by decide) (by rw [hr]; decide) (by decide) (by decide),hr]
  decide
theorem wake_un : (unpOf wakeD).1 = 0 ∧ (unpOf wakeD).2.2.1 = [97] ∧ (unpOf wakeD).2.2.2 = 1 := by
  rw [unpOf,if_neg (fun h => h wake_head.1),wake_head.2,wake_gz]
  exact ⟨rfl,rfl,rfl⟩
theorem unpack_wake {K : Known} {ea : Fin 5 → Addr} (hs : Sents K ea) (hc : Codes K) (nb : Nat) (L : Frags) (hm : ⟨nb,0,bytesV wakeD⟩ ∈ L) :
    Fn Tryd.prog K 17 #[.slice (some ⟨nb,0,none⟩) 24 24,.slice none 0 0] L fun r L' => ∃ ev a c GL,r = .agg #[.int .i64 0,.string (unpOf wakeD).2.1.name,.string (unpOf wakeD).2.1.comment,ev,.int .i64 (((unpOf wakeD).2.1.mod : Nat) : Int),.int .u8 (((unpOf wakeD).2.1.os : Nat) : Int),.slice a 1 c,.int .i64 1] ∧ one ev = true ∧ RdV (.slice a 1 c) [97] GL ∧ L' = GL ++ L := by
  refine Fn.mono (Fn.still (R := fun r L => UnpV (unpOf wakeD) r L) fun w hw => ?_) ?_
  · have hK : ∀ b o,K b = some o → (fun b => w.heap[b]?) b = some o := fun b o h => hw.base b o h
    have hr : Reads K L nb 0 (bytesV wakeD) := Reads.mem (k := 0) hm (by rw [List.drop_zero,List.take_length])
    refine Fn.mono (unpack_spec (hs.mono hK) (hc.mono hK) (v := .slice (some ⟨nb,0,none⟩) 24 24) (data := wakeD) (.inr (.inr ⟨nb,0,24,rfl,by decide,hr.kb hw⟩)) (by decide) (SzA.nil _) []) ?_
    rintro r L' ⟨GL,hU,rfl⟩
    exact hU
  · rintro r L' ⟨L1,⟨ev,bv,rfl,⟨a0,c0,rfl,_⟩,hb⟩,rfl⟩
    have hb2 := hb
    rw [wake_un.2.1] at hb2
    obtain ⟨a,c,rfl,_⟩ := hb2
    rw [wake_un.2.1] at hb
    refine ⟨.slice a0 ((unpOf wakeD).2.1.extra.getD []).length c0,a,c,L1,?_,rfl,hb,rfl⟩
    rw [unV,wake_un.1,wake_un.2.2]
    rfl

theorem wakes_walk {K : Known} {ea : Fin 5 → Addr} (hs : Sents K ea) (hc : Codes K) : Fn Tryd.prog K 15 #[] ([]) (fun r L => r = .bool true) := by
 refine Fn.intro (args := []) (RR := Ret1 0 _) Tryd.func15 rfl rfl Tryd.ntmps15 (res1 Tryd.results15) ?_
 refine C.reenv (env2 := []) rfl ?_
 refine C.sr ?_
 refine E.pure (S.assign rfl) rfl ?_
 refine E.kp [(0,_)] rfl ?_
 refine C.sr ?_
 refine E.loud1 (X.buildSliceV (vs := bytesV wakeD) (e := 5) [(0,.int .u8 31),(1,.int .u8 139),(2,.int .u8 8),(3,.int .u8 0),(4,.int .u8 0),(5,.int .u8 0),(6,.int .u8 0),(7,.int .u8 0),(8,.int .u8 0),(9,.int .u8 255),(10,.int .u8 1),(11,.int .u8 1),(12,.int .u8 0),(13,.int .u8 254),(14,.int .u8 255),(15,.int .u8 97),(16,.int .u8 67),(17,.int .u8 190),(18,.int .u8 183),(19,.int .u8 232),(20,.int .u8 1),(21,.int .u8 0),(22,.int .u8 0),(23,.int .u8 0)] rfl wakeBuild) rfl ?_; rintro _ _ ⟨nb,rfl,rfl⟩; refine E.relist (L2 := [_]) rfl ?_
 refine E.loud1 (X.call rfl Tryd.call17 (unpack_wake hs hc nb _ (.head _))) rfl ?_
 rintro _ _ ⟨ev,a,c,GL,rfl,hev,hb,rfl⟩
 refine E.loud1 (X.alloc Tryd.zeroValue43) rfl ?_; rintro _ _ ⟨b1,rfl,rfl⟩; refine E.relist (L2 := (_::_)) rfl ?_
 refine E.relist (L2 := ⟨b1,0,[.int .i64 0,.string ⟨#[]⟩,.string ⟨#[]⟩,.slice none 0 0,.int .i64 0,.int .u8 0,.slice none 0 0,.int .i64 0]⟩::(GL ++ [⟨nb,0,bytesV wakeD⟩])) (by kernel_rfl) ?_
 refine E.loud0 (X.storeA 0 (k := 0) rfl rfl rfl (by simp only [List.all_cons,List.all_nil,hev]; rfl) rfl rfl Tryd.sizeOf43 rfl) ?_
 rintro _ _ ⟨rfl,rfl⟩
 refine E.relist (L2 := ⟨b1,0,[.int .i64 0,.string (unpOf wakeD).2.1.name,.string (unpOf wakeD).2.1.comment,ev,.int .i64 (((unpOf wakeD).2.1.mod : Nat) : Int),.int .u8 (((unpOf wakeD).2.1.os : Nat) : Int),.slice a 1 c,.int .i64 1]⟩::(GL ++ [⟨nb,0,bytesV wakeD⟩])) rfl ?_
 refine E.kp [(0,_),(1,_)] rfl ?_
 refine C.sr ?_
 refine E.pure (S.field rfl fa43_0) rfl ?_
 refine E.still (S.load 0 rfl rfl rfl Tryd.isAgg3) rfl ?_
 refine E.pure (S.eq (b := ((0 : Nat) : Int)) rfl rfl) rfl ?_
 refine E.reslot (v := .bool true) (congrArg Value.bool (by decide)) ?_
 refine E.pure (S.move rfl) rfl ?_
 refine E.wanted 7 rfl rfl ?_
 refine E.pure (S.field rfl fa43_3) rfl ?_
 refine E.wanted 7 rfl rfl ?_
 refine E.still (S.load 0 rfl rfl rfl Tryd.isAgg3) rfl ?_
 refine E.wanted 7 rfl rfl ?_
 refine E.pure (S.eq (b := ((1 : Nat) : Int)) rfl rfl) rfl ?_
 refine E.reslot (v := .bool true) (congrArg Value.bool (by decide)) ?_
 refine E.pure (S.pickT rfl rfl) rfl ?_
 refine E.pure (S.move rfl) rfl ?_
 refine E.wanted 12 rfl rfl ?_
 refine E.pure (S.field rfl fa43_2) rfl ?_
 refine E.wanted 12 rfl rfl ?_
 refine E.still (S.load 0 rfl rfl rfl Tryd.isAgg22) rfl ?_
 refine E.wanted 12 rfl rfl ?_
 refine E.buildMark [(0,.int .u8 97)] 12 rfl oneBuild Tryd.underlying22 Tryd.underlying5 rfl rfl rfl rfl rfl (fun n1 => ?_)
 refine E.relist (L2 := _::_::(GL ++ [_])) rfl ?_
 have hrb : RB K (⟨n1,0,bytesV [97]⟩::⟨b1,0,[.int .i64 0,.string (unpOf wakeD).2.1.name,.string (unpOf wakeD).2.1.comment,ev,.int .i64 (((unpOf wakeD).2.1.mod : Nat) : Int),.int .u8 (((unpOf wakeD).2.1.os : Nat) : Int),.slice a 1 c,.int .i64 1]⟩::(GL ++ [⟨nb,0,bytesV wakeD⟩])) a [97] := by
   obtain ⟨a5,c5,e5,h5⟩ := hb
   cases e5
   exact h5 K _ fun f hf => .tail _ (.tail _ (List.mem_append_left _ hf))
 refine E.wanted 12 rfl rfl ?_
 refine E.loud1 (X.call rfl Tryd.call29 (bytesEqual_spec a (some ⟨n1,0,none⟩) c 1 [97] [97] hrb (.inr ⟨n1,0,rfl,Reads.mem (k := 0) (.head _) (by rw [List.drop_zero,List.take_length])⟩))) rfl ?_; rintro _ _ ⟨rfl,rfl⟩; refine E.relist (L2 := (_::_::_)) rfl ?_
 refine E.pure (S.pickT rfl rfl) rfl ?_
 refine E.pure (S.assign rfl) rfl ?_
 refine E.kp [(0,_),(1,_)] rfl ?_
 refine C.ret ?_
 exact ⟨_,rfl,rfl⟩
theorem wakes_spec {K : Known} {ea : Fin 5 → Addr} (hs : Sents K ea) (hc : Codes K) (L : Frags) : Fn Tryd.prog K 15 #[] L fun r L' => r = .bool true ∧ L' = L := by
  refine Fn.lose (Fn.frame (L := []) (F := L) (wakes_walk hs hc)) ?_
  rintro v L' ⟨L1,rfl,rfl⟩
  exact ⟨L,L1,Same.perm List.perm_append_comm,rfl,rfl⟩

end Go.Eng
namespace Go.Eng
open Go Go.Proofs
set_option maxRecDepth 100000

set_option maxHeartbeats 1000000
/-- A slice of what is left of bytes that stay. -/
def SrcSh (data : List UInt8) (db o : Nat) (v : Value) (l : List UInt8) : Prop := ∃ i a c,l = data.drop i ∧ v = .slice a l.length c ∧ (l = [] ∨ (a = some ⟨db,o + i,none⟩ ∧ l.length ≤ c))
theorem KB.dropK {K : Known} {b o : Nat} {l : List UInt8} (h : KB K b o l) (k : Nat) : KB K b (o + k) (l.drop k) := fun j hj => by
  rw [List.length_drop] at hj
  have := h (k + j) (by omega)
  rw [Nat.add_assoc,this,List.getElem_drop]
theorem KB.takeK {K : Known} {b o : Nat} {l : List UInt8} (h : KB K b o l) (k : Nat) : KB K b o (l.take k) := fun j hj => by
  rw [List.length_take] at hj
  rw [h j (by omega),List.getElem_take]

theorem source_end {K : Known} {ea : Fin 5 → Addr} (hs : Sents K ea) (sb : Nat) (sv : Value) (calls : Nat) (tb to m mc : Nat) (cs : List Value) (a : Option Addr) (c : Nat) : Fn Tryd.prog K 110 #[.pointer (some ⟨sb,0,none⟩),.slice (some ⟨tb,to,none⟩) (m) (mc)] ([⟨sb,0,[.slice a 0 c,sv,.int .i64 ((calls : Nat) : Int)]⟩,⟨tb,to,cs⟩]) (fun r L => r = .tuple #[.int .i64 0,Er.val ea .eof] ∧ L = [⟨sb,0,[.slice a 0 c,sv,.int .i64 ((calls : Nat) : Int)]⟩,⟨tb,to,cs⟩]) := by
 refine Fn.intro (args := [.pointer (some ⟨sb,0,none⟩),.slice (some ⟨tb,to,none⟩) (m) (mc)]) (RR := Ret2 4 5 _) Tryd.func110 rfl rfl Tryd.ntmps110 (res2 Tryd.results110) ?_
 refine C.reenv (env2 := [(0,.pointer (some ⟨sb,0,none⟩)),(1,.slice (some ⟨tb,to,none⟩) (m) (mc))]) rfl ?_
 refine C.sr ?_
 refine E.pure (S.assign rfl) rfl ?_
 refine E.pure (S.assign (v := Er.val ea .none) rfl) rfl ?_
 refine E.kp [(0,_),(1,_),(4,_),(5,_)] rfl ?_
 refine C.seq ?_
 refine C.sr ?_
 refine E.pure (S.move rfl) rfl ?_
 refine E.pure (S.nilPtr rfl) rfl ?_
 refine E.pure (S.field rfl fa87_0) rfl ?_
 refine E.still (S.load 0 (k := 0) rfl rfl rfl Tryd.isAgg22) rfl ?_
 refine E.pure (S.lenSl rfl Tryd.underlying22) rfl ?_
 refine E.pure (S.eq (b := ((0 : Nat) : Int)) rfl rfl) rfl ?_
 refine E.reslot (v := .bool true) (congrArg Value.bool (by decide)) ?_
 refine E.kp [(0,_),(1,_),(4,_),(5,_),(12,_)] rfl ?_
 refine C.yes rfl (rfl) ?_
 refine C.seq ?_
 refine C.draw [0,0,3] (.pure 1 1 (.seg [(0,2),(2,3)] .done)) mixed (by decide +kernel) ?_
 refine D.pure rfl (S.assign rfl) rfl ?_
 refine D.seg (by decide) ?_
 refine W.still rfl (S.loadBase rfl hs.g0 Tryd.isAgg59) rfl ?_
 refine W.pure rfl (S.assign rfl) rfl ?_
 refine W.nil ?_
 refine D.kp [(0,_),(1,_),(4,_),(5,_),(12,_)] rfl ?_
 refine C.ret ?_
 exact ⟨_,_,rfl,rfl,rfl,rfl⟩
theorem source_next {K : Known} {ea : Fin 5 → Addr} (hs : Sents K ea) (sb : Nat) (sv : Value) (calls : Nat) (tb to m mc : Nat) (cs : List Value) (hsz : SzA K sv) (hcl : calls ≤ 4611686018427387904) (hm : m = cs.length) (hm0 : 0 < m) (db o c : Nat) (l : List UInt8) (hl0 : 0 < l.length) (hll : l.length ≤ c) (hlm : l.length ≤ 4611686018427387904) (hp : KB K db o l) : Fn Tryd.prog K 110 #[.pointer (some ⟨sb,0,none⟩),.slice (some ⟨tb,to,none⟩) (m) (mc)] ([⟨sb,0,[.slice (some ⟨db,o,none⟩) (l.length) (c),sv,.int .i64 ((calls : Nat) : Int)]⟩,⟨tb,to,cs⟩]) (fun r L => ∃ k,0 < k ∧ k ≤ m ∧ k ≤ l.length ∧ r = .tuple #[.int .i64 ((k : Nat) : Int),Er.val ea .none] ∧ L = [⟨sb,0,[.slice (some ⟨db,part o k c 1,none⟩) (l.length - k) (c - k),sv,.int .i64 ((calls + 1 : Nat) : Int)]⟩,⟨tb,to,bytesV (l.take k) ++ cs.drop k⟩]) := by
 refine Fn.intro (args := [.pointer (some ⟨sb,0,none⟩),.slice (some ⟨tb,to,none⟩) (m) (mc)]) (RR := Ret2 4 5 _) Tryd.func110 rfl rfl Tryd.ntmps110 (res2 Tryd.results110) ?_
 refine C.reenv (env2 := [(0,.pointer (some ⟨sb,0,none⟩)),(1,.slice (some ⟨tb,to,none⟩) (m) (mc))]) rfl ?_
 refine C.sr ?_
 refine E.pure (S.assign rfl) rfl ?_
 refine E.pure (S.assign (v := Er.val ea .none) rfl) rfl ?_
 refine E.kp [(0,_),(1,_),(4,_),(5,_)] rfl ?_
 refine C.seq ?_
 refine C.sr ?_
 refine E.pure (S.move rfl) rfl ?_
 refine E.pure (S.nilPtr rfl) rfl ?_
 refine E.pure (S.field rfl fa87_0) rfl ?_
 refine E.still (S.load 0 (k := 0) rfl rfl rfl Tryd.isAgg22) rfl ?_
 refine E.pure (S.lenSl rfl Tryd.underlying22) rfl ?_
 refine E.pure (S.eq (b := ((0 : Nat) : Int)) rfl rfl) rfl ?_
 refine E.reslot (v := .bool false) (congrArg Value.bool (decide_eq_false (by omega))) ?_
 refine E.kp [(0,_),(1,_),(4,_),(5,_),(12,_)] rfl ?_
 refine C.no rfl (rfl) ?_
 refine C.skip ?_
 refine C.cut (M := fun ee ll => ∃ (k : Nat),keeps ee [0,6] = some [(0,.pointer (some ⟨sb,0,none⟩)),(6,.int .i64 ((k : Nat) : Int))] ∧ ll = [⟨sb,0,[.slice (some ⟨db,o,none⟩) (l.length) (c),sv,.int .i64 ((calls : Nat) : Int)]⟩,⟨tb,to,bytesV (l.take k) ++ cs.drop k⟩] ∧ (0 < k) ∧ (k ≤ m) ∧ (k ≤ l.length)) ?_ ?_
 ·
  refine C.draw [0,0,2,4,8,0,32,64,128,0,512,1024,2048,4352,0,16384,32768,65536,131072,270336,524304,1056769,4194303] (.pure 0 2097150 (.pure 1 1048545 (.pure 2 1048547 (.pure 3 1048551 (.pure 5 515615 (.pure 6 515647 (.pure 7 515711 (.pure 9 508415 (.pure 10 508927 (.pure 11 509951 (.pure 14 16383 (.pure 15 32767 (.pure 16 65535 (.alt 4 (.alt 8 (.alt 12 (.alt 13 (.seg [(17,131071),(18,262143),(19,524287),(20,1048575)] (.alt 21 (.pure 22 4194303 .done) .stop)) (.alt 17 (.pure 18 262143 (.alt 13 (.pure 19 524287 (.pure 20 1048575 (.alt 21 (.pure 22 4194303 .done) .stop))) .stop)) .stop)) (.alt 17 (.pure 18 262143 (.seg [(12,511999)] (.alt 13 (.pure 19 524287 (.pure 20 1048575 (.alt 21 (.pure 22 4194303 .done) .stop))) .stop))) .stop)) (.alt 12 (.alt 8 (.alt 13 (.seg [(17,131071),(18,262143),(19,524287),(20,1048575)] (.alt 21 (.pure 22 4194303 .done) .stop)) (.alt 17 (.pure 18 262143 (.alt 13 (.pure 19 524287 (.pure 20 1048575 (.alt 21 (.pure 22 4194303 .done) .stop))) .stop)) .stop)) (.alt 17 (.pure 18 262143 (.seg [(8,515839)] (.alt 13 (.pure 19 524287 (.pure 20 1048575 (.alt 21 (.pure 22 4194303 .done) .stop))) .stop))) .stop)) (.alt 17 (.pure 18 262143 (.seg [(8,515839),(12,511999)] (.alt 13 (.pure 19 524287 (.pure 20 1048575 (.alt 21 (.pure 22 4194303 .done) .stop))) .stop))) .stop))) (.alt 8 (.alt 4 (.alt 12 (.alt 13 (.seg [(17,131071),(18,262143),(19,524287),(20,1048575)] (.alt 21 (.pure 22 4194303 .done) .stop)) (.alt 17 (.pure 18 262143 (.alt 13 (.pure 19 524287 (.pure 20 1048575 (.alt 21 (.pure 22 4194303 .done) .stop))) .stop)) .stop)) (.alt 17 (.pure 18 262143 (.seg [(12,511999)] (.alt 13 (.pure 19 524287 (.pure 20 1048575 (.alt 21 (.pure 22 4194303 .done) .stop))) .stop))) .stop)) (.alt 12 (.alt 4 (.alt 13 (.seg [(17,131071),(18,262143),(19,524287),(20,1048575)] (.alt 21 (.pure 22 4194303 .done) .stop)) (.alt 17 (.pure 18 262143 (.alt 13 (.pure 19 524287 (.pure 20 1048575 (.alt 21 (.pure 22 4194303 .done) .stop))) .stop)) .stop)) (.alt 13 (.seg [(4,1048559),(17,131071),(18,262143),(19,524287),(20,1048575)] (.alt 21 (.pure 22 4194303 .done) .stop)) (.alt 17 (.pure 18 262143 (.alt 4 (.alt 13 (.pure 19 524287 (.pure 20 1048575 (.alt 21 (.pure 22 4194303 .done) .stop))) .stop) (.alt 13 (.pure 19 524287 (.seg [(4,1048559),(20,1048575)] (.alt 21 (.pure 22 4194303 .done) .stop))) .stop))) .stop))) (.alt 17 (.pure 18 262143 (.alt 4 (.seg [(12,511999)] (.alt 13 (.pure 19 524287 (.pure 20 1048575 (.alt 21 (.pure 22 4194303 .done) .stop))) .stop)) (.alt 12 (.alt 4 (.alt 13 (.pure 19 524287 (.pure 20 1048575 (.alt 21 (.pure 22 4194303 .done) .stop))) .stop) (.alt 13 (.pure 19 524287 (.seg [(4,1048559),(20,1048575)] (.alt 21 (.pure 22 4194303 .done) .stop))) .stop)) .stop))) .stop))) (.alt 12 (.alt 4 (.alt 8 (.alt 13 (.seg [(17,131071),(18,262143),(19,524287),(20,1048575)] (.alt 21 (.pure 22 4194303 .done) .stop)) (.alt 17 (.pure 18 262143 (.alt 13 (.pure 19 524287 (.pure 20 1048575 (.alt 21 (.pure 22 4194303 .done) .stop))) .stop)) .stop)) (.alt 17 (.pure 18 262143 (.seg [(8,515839)] (.alt 13 (.pure 19 524287 (.pure 20 1048575 (.alt 21 (.pure 22 4194303 .done) .stop))) .stop))) .stop)) (.alt 8 (.alt 4 (.alt 13 (.seg [(17,131071),(18,262143),(19,524287),(20,1048575)] (.alt 21 (.pure 22 4194303 .done) .stop)) (.alt 17 (.pure 18 262143 (.alt 13 (.pure 19 524287 (.pure 20 1048575 (.alt 21 (.pure 22 4194303 .done) .stop))) .stop)) .stop)) (.alt 13 (.seg [(4,1048559),(17,131071),(18,262143),(19,524287),(20,1048575)] (.alt 21 (.pure 22 4194303 .done) .stop)) (.alt 17 (.pure 18 262143 (.alt 4 (.alt 13 (.pure 19 524287 (.pure 20 1048575 (.alt 21 (.pure 22 4194303 .done) .stop))) .stop) (.alt 13 (.pure 19 524287 (.seg [(4,1048559),(20,1048575)] (.alt 21 (.pure 22 4194303 .done) .stop))) .stop))) .stop))) (.alt 17 (.pure 18 262143 (.alt 4 (.seg [(8,515839)] (.alt 13 (.pure 19 524287 (.pure 20 1048575 (.alt 21 (.pure 22 4194303 .done) .stop))) .stop)) (.alt 8 (.alt 4 (.alt 13 (.pure 19 524287 (.pure 20 1048575 (.alt 21 (.pure 22 4194303 .done) .stop))) .stop) (.alt 13 (.pure 19 524287 (.seg [(4,1048559),(20,1048575)] (.alt 21 (.pure 22 4194303 .done) .stop))) .stop)) .stop))) .stop))) (.alt 17 (.pure 18 262143 (.alt 4 (.seg [(8,515839),(12,511999)] (.alt 13 (.pure 19 524287 (.pure 20 1048575 (.alt 21 (.pure 22 4194303 .done) .stop))) .stop)) (.alt 8 (.alt 4 (.seg [(12,511999)] (.alt 13 (.pure 19 524287 (.pure 20 1048575 (.alt 21 (.pure 22 4194303 .done) .stop))) .stop)) (.alt 12 (.alt 4 (.alt 13 (.pure 19 524287 (.pure 20 1048575 (.alt 21 (.pure 22 4194303 .done) .stop))) .stop) (.alt 13 (.pure 19 524287 (.seg [(4,1048559),(20,1048575)] (.alt 21 (.pure 22 4194303 .done) .stop))) .stop)) .stop)) (.alt 12 (.alt 4 (.seg [(8,515839)] (.alt 13 (.pure 19 524287 (.pure 20 1048575 (.alt 21 (.pure 22 4194303 .done) .stop))) .stop)) (.alt 8 (.alt 4 (.alt 13 (.pure 19 524287 (.pure 20 1048575 (.alt 21 (.pure 22 4194303 .done) .stop))) .stop) (.alt 13 (.pure 19 524287 (.seg [(4,1048559),(20,1048575)] (.alt 21 (.pure 22 4194303 .done) .stop))) .stop)) .stop)) .stop)))) .stop))))))))))))))))) mixed (by decide +kernel) ?_
  refine D.pure rfl (S.move rfl) rfl ?_
  refine D.pure rfl (S.move rfl) rfl ?_
  refine D.pure rfl (S.nilPtr rfl) rfl ?_
  refine D.pure rfl (S.field rfl fa87_0) rfl ?_
  refine D.pure rfl (S.move rfl) rfl ?_
  refine D.pure rfl (S.nilPtr rfl) rfl ?_
  refine D.pure rfl (S.field rfl fa87_1) rfl ?_
  refine D.pure rfl (S.move rfl) rfl ?_
  refine D.pure rfl (S.nilPtr rfl) rfl ?_
  refine D.pure rfl (S.field rfl fa87_2) rfl ?_
  refine D.pure rfl (S.move rfl) rfl ?_
  refine D.pure rfl (S.nilPtr rfl) rfl ?_
  refine D.pure rfl (S.field rfl fa87_0) rfl ?_
  refine D.alt ?_ ⟨?_,⟨?_,⟨?_,trivial⟩⟩⟩
  ·
   refine O.still rfl (S.load 0 (k := 0) rfl rfl rfl Tryd.isAgg22) rfl ?_
   refine D.alt ?_ ⟨?_,⟨?_,trivial⟩⟩
   ·
    refine O.still rfl (S.load 0 (k := 1) rfl rfl rfl Tryd.isAgg39) rfl ?_
    refine D.alt ?_ ⟨?_,trivial⟩
    ·
     refine O.still rfl (S.load 0 (k := 2) rfl rfl rfl Tryd.isAgg3) rfl ?_
     refine D.alt ?_ ⟨?_,trivial⟩
     ·
      refine O.loud1 rfl (X.call rfl Tryd.call43 (sizeAt_spec hsz calls _)) rfl ?_; rintro _ _ ⟨n,hn1,hn2,rfl,rfl⟩; refine D.relist (L2 := [_,_]) rfl ?_
      refine D.seg (by decide) ?_
      refine W.still rfl (S.load 0 (k := 0) rfl rfl rfl Tryd.isAgg22) rfl ?_
      refine W.pure rfl (S.lenSl rfl Tryd.underlying22) rfl ?_
      refine W.pure rfl (S.min2 rfl rfl) rfl ?_
      obtain ⟨q,hq⟩ : ∃ q,q = min n l.length := ⟨_,rfl⟩
      refine W.reslot (v := .int .i64 (q : Int)) (congrArg (Value.int .i64) (by split <;> omega)) ?_
      refine W.pure rfl (S.slH rfl rfl (by omega) Tryd.underlying22 Tryd.sizeOf5) rfl ?_
      refine W.reslot (v := .slice (some ⟨db,o,none⟩) (q) (c)) (slice_to (by simp [part]) rfl rfl) ?_
      refine W.nil ?_
      refine D.one ?_
      refine O.loud1 rfl (X.copyB 1 (l := l.take q) rfl rfl rfl (by rw [List.length_take]; omega) (.inr ⟨db,o,rfl,(hp.takeK q).reads⟩) (by omega)) rfl ?_; rintro _ _ ⟨rfl,rfl⟩; refine D.relist (L2 := [_,_]) rfl ?_
      obtain ⟨k,hk⟩ : ∃ k,k = min q m := ⟨_,rfl⟩
      have hlq : (l.take q).length = q := by rw [List.length_take]; omega
      have hmk : Nat.min (l.take q).length m = k := by rw [hlq,hk]
      have htk : (l.take q).take m = l.take k := by rw [List.take_take,hk,Nat.min_comm]
      refine D.reslot (v := .int .i64 ((k : Nat) : Int)) (congrArg (fun y : Nat => Value.int .i64 (y : Int)) (by exact hmk)) ?_
      refine D.relist (L2 := [_,⟨tb,to,bytesV (l.take k) ++ cs.drop k⟩]) (by rw [htk,hmk]) ?_
      refine D.pure rfl (S.assign rfl) rfl ?_
      refine D.kp [(0,_),(4,_),(5,_),(6,_),(12,_)] rfl ?_
      exact ⟨k,rfl,rfl,by omega,by omega,by omega⟩
     refine O.still rfl (S.load 0 (k := 0) rfl rfl rfl Tryd.isAgg22) rfl ?_
     refine D.pure rfl (S.lenSl rfl Tryd.underlying22) rfl ?_
     refine D.one ?_
     refine O.loud1 rfl (X.call rfl Tryd.call43 (sizeAt_spec hsz calls _)) rfl ?_; rintro _ _ ⟨n,hn1,hn2,rfl,rfl⟩; refine D.relist (L2 := [_,_]) rfl ?_
     refine D.pure rfl (S.min2 rfl rfl) rfl ?_
     obtain ⟨q,hq⟩ : ∃ q,q = min n l.length := ⟨_,rfl⟩
     refine D.reslot (v := .int .i64 (q : Int)) (congrArg (Value.int .i64) (by split <;> omega)) ?_
     refine D.pure rfl (S.slH rfl rfl (by omega) Tryd.underlying22 Tryd.sizeOf5) rfl ?_
     refine D.reslot (v := .slice (some ⟨db,o,none⟩) (q) (c)) (slice_to (by simp [part]) rfl rfl) ?_
     refine D.one ?_
     refine O.loud1 rfl (X.copyB 1 (l := l.take q) rfl rfl rfl (by rw [List.length_take]; omega) (.inr ⟨db,o,rfl,(hp.takeK q).reads⟩) (by omega)) rfl ?_; rintro _ _ ⟨rfl,rfl⟩; refine D.relist (L2 := [_,_]) rfl ?_
     obtain ⟨k,hk⟩ : ∃ k,k = min q m := ⟨_,rfl⟩
     have hlq : (l.take q).length = q := by rw [List.length_take]; omega
     have hmk : Nat.min (l.take q).length m = k := by rw [hlq,hk]
     have htk : (l.take q).take m = l.take k := by rw [List.take_take,hk,Nat.min_comm]
     refine D.reslot (v := .int .i64 ((k : Nat) : Int)) (congrArg (fun y : Nat => Value.int .i64 (y : Int)) (by exact hmk)) ?_
     refine D.relist (L2 := [_,⟨tb,to,bytesV (l.take k) ++ cs.drop k⟩]) (by rw [htk,hmk]) ?_
     refine D.pure rfl (S.assign rfl) rfl ?_
     refine D.kp [(0,_),(4,_),(5,_),(6,_),(12,_)] rfl ?_
     exact ⟨k,rfl,rfl,by omega,by omega,by omega⟩
    refine O.still rfl (S.load 0 (k := 0) rfl rfl rfl Tryd.isAgg22) rfl ?_
    refine D.pure rfl (S.lenSl rfl Tryd.underlying22) rfl ?_
    refine D.seg (by decide) ?_
    refine W.still rfl (S.load 0 (k := 2) rfl rfl rfl Tryd.isAgg3) rfl ?_
    refine W.nil ?_
    refine D.one ?_
    refine O.loud1 rfl (X.call rfl Tryd.call43 (sizeAt_spec hsz calls _)) rfl ?_; rintro _ _ ⟨n,hn1,hn2,rfl,rfl⟩; refine D.relist (L2 := [_,_]) rfl ?_
    refine D.pure rfl (S.min2 rfl rfl) rfl ?_
    obtain ⟨q,hq⟩ : ∃ q,q = min n l.length := ⟨_,rfl⟩
    refine D.reslot (v := .int .i64 (q : Int)) (congrArg (Value.int .i64) (by split <;> omega)) ?_
    refine D.pure rfl (S.slH rfl rfl (by omega) Tryd.underlying22 Tryd.sizeOf5) rfl ?_
    refine D.reslot (v := .slice (some ⟨db,o,none⟩) (q) (c)) (slice_to (by simp [part]) rfl rfl) ?_
    refine D.one ?_
    refine O.loud1 rfl (X.copyB 1 (l := l.take q) rfl rfl rfl (by rw [List.length_take]; omega) (.inr ⟨db,o,rfl,(hp.takeK q).reads⟩) (by omega)) rfl ?_; rintro _ _ ⟨rfl,rfl⟩; refine D.relist (L2 := [_,_]) rfl ?_
    obtain ⟨k,hk⟩ : ∃ k,k = min q m := ⟨_,rfl⟩
    have hlq : (l.take q).length = q := by rw [List.length_take]; omega
    have hmk : Nat.min (l.take q).length m = k := by rw [hlq,hk]
    have htk : (l.take q).take m = l.take k := by rw [List.take_take,hk,Nat.min_comm]
    refine D.reslot (v := .int .i64 ((k : Nat) : Int)) (congrArg (fun y : Nat => Value.int .i64 (y : Int)) (by exact hmk)) ?_
    refine D.relist (L2 := [_,⟨tb,to,bytesV (l.take k) ++ cs.drop k⟩]) (by rw [htk,hmk]) ?_
    refine D.pure rfl (S.assign rfl) rfl ?_
    refine D.kp [(0,_),(4,_),(5,_),(6,_),(12,_)] rfl ?_
    exact ⟨k,rfl,rfl,by omega,by omega,by omega⟩
   ·
    refine O.still rfl (S.load 0 (k := 2) rfl rfl rfl Tryd.isAgg3) rfl ?_
    refine D.alt ?_ ⟨?_,trivial⟩
    ·
     refine O.still rfl (S.load 0 (k := 1) rfl rfl rfl Tryd.isAgg39) rfl ?_
     refine D.alt ?_ ⟨?_,trivial⟩
     ·
      refine O.loud1 rfl (X.call rfl Tryd.call43 (sizeAt_spec hsz calls _)) rfl ?_; rintro _ _ ⟨n,hn1,hn2,rfl,rfl⟩; refine D.relist (L2 := [_,_]) rfl ?_
      refine D.seg (by decide) ?_
      refine W.still rfl (S.load 0 (k := 0) rfl rfl rfl Tryd.isAgg22) rfl ?_
      refine W.pure rfl (S.lenSl rfl Tryd.underlying22) rfl ?_
      refine W.pure rfl (S.min2 rfl rfl) rfl ?_
      obtain ⟨q,hq⟩ : ∃ q,q = min n l.length := ⟨_,rfl⟩
      refine W.reslot (v := .int .i64 (q : Int)) (congrArg (Value.int .i64) (by split <;> omega)) ?_
      refine W.pure rfl (S.slH rfl rfl (by omega) Tryd.underlying22 Tryd.sizeOf5) rfl ?_
      refine W.reslot (v := .slice (some ⟨db,o,none⟩) (q) (c)) (slice_to (by simp [part]) rfl rfl) ?_
      refine W.nil ?_
      refine D.one ?_
      refine O.loud1 rfl (X.copyB 1 (l := l.take q) rfl rfl rfl (by rw [List.length_take]; omega) (.inr ⟨db,o,rfl,(hp.takeK q).reads⟩) (by omega)) rfl ?_; rintro _ _ ⟨rfl,rfl⟩; refine D.relist (L2 := [_,_]) rfl ?_
      obtain ⟨k,hk⟩ : ∃ k,k = min q m := ⟨_,rfl⟩
      have hlq : (l.take q).length = q := by rw [List.length_take]; omega
      have hmk : Nat.min (l.take q).length m = k := by rw [hlq,hk]
      have htk : (l.take q).take m = l.take k := by rw [List.take_take,hk,Nat.min_comm]
      refine D.reslot (v := .int .i64 ((k : Nat) : Int)) (congrArg (fun y : Nat => Value.int .i64 (y : Int)) (by exact hmk)) ?_
      refine D.relist (L2 := [_,⟨tb,to,bytesV (l.take k) ++ cs.drop k⟩]) (by rw [htk,hmk]) ?_
      refine D.pure rfl (S.assign rfl) rfl ?_
      refine D.kp [(0,_),(4,_),(5,_),(6,_),(12,_)] rfl ?_
      exact ⟨k,rfl,rfl,by omega,by omega,by omega⟩
     refine O.still rfl (S.load 0 (k := 0) rfl rfl rfl Tryd.isAgg22) rfl ?_
     refine D.pure rfl (S.lenSl rfl Tryd.underlying22) rfl ?_
     refine D.one ?_
     refine O.loud1 rfl (X.call rfl Tryd.call43 (sizeAt_spec hsz calls _)) rfl ?_; rintro _ _ ⟨n,hn1,hn2,rfl,rfl⟩; refine D.relist (L2 := [_,_]) rfl ?_
     refine D.pure rfl (S.min2 rfl rfl) rfl ?_
     obtain ⟨q,hq⟩ : ∃ q,q = min n l.length := ⟨_,rfl⟩
     refine D.reslot (v := .int .i64 (q : Int)) (congrArg (Value.int .i64) (by split <;> omega)) ?_
     refine D.pure rfl (S.slH rfl rfl (by omega) Tryd.underlying22 Tryd.sizeOf5) rfl ?_
     refine D.reslot (v := .slice (some ⟨db,o,none⟩) (q) (c)) (slice_to (by simp [part]) rfl rfl) ?_
     refine D.one ?_
     refine O.loud1 rfl (X.copyB 1 (l := l.take q) rfl rfl rfl (by rw [List.length_take]; omega) (.inr ⟨db,o,rfl,(hp.takeK q).reads⟩) (by omega)) rfl ?_; rintro _ _ ⟨rfl,rfl⟩; refine D.relist (L2 := [_,_]) rfl ?_
     obtain ⟨k,hk⟩ : ∃ k,k = min q m := ⟨_,rfl⟩
     have hlq : (l.take q).length = q := by rw [List.length_take]; omega
     have hmk : Nat.min (l.take q).length m = k := by rw [hlq,hk]
     have htk : (l.take q).take m = l.take k := by rw [List.take_take,hk,Nat.min_comm]
     refine D.reslot (v := .int .i64 ((k : Nat) : Int)) (congrArg (fun y : Nat => Value.int .i64 (y : Int)) (by exact hmk)) ?_
     refine D.relist (L2 := [_,⟨tb,to,bytesV (l.take k) ++ cs.drop k⟩]) (by rw [htk,hmk]) ?_
     refine D.pure rfl (S.assign rfl) rfl ?_
     refine D.kp [(0,_),(4,_),(5,_),(6,_),(12,_)] rfl ?_
     exact ⟨k,rfl,rfl,by omega,by omega,by omega⟩
    refine O.still rfl (S.load 0 (k := 0) rfl rfl rfl Tryd.isAgg22) rfl ?_
    refine D.pure rfl (S.lenSl rfl Tryd.underlying22) rfl ?_
    refine D.seg (by decide) ?_
    refine W.still rfl (S.load 0 (k := 1) rfl rfl rfl Tryd.isAgg39) rfl ?_
    refine W.nil ?_
    refine D.one ?_
    refine O.loud1 rfl (X.call rfl Tryd.call43 (sizeAt_spec hsz calls _)) rfl ?_; rintro _ _ ⟨n,hn1,hn2,rfl,rfl⟩; refine D.relist (L2 := [_,_]) rfl ?_
    refine D.pure rfl (S.min2 rfl rfl) rfl ?_
    obtain ⟨q,hq⟩ : ∃ q,q = min n l.length := ⟨_,rfl⟩
    refine D.reslot (v := .int .i64 (q : Int)) (congrArg (Value.int .i64) (by split <;> omega)) ?_
    refine D.pure rfl (S.slH rfl rfl (by omega) Tryd.underlying22 Tryd.sizeOf5) rfl ?_
    refine D.reslot (v := .slice (some ⟨db,o,none⟩) (q) (c)) (slice_to (by simp [part]) rfl rfl) ?_
    refine D.one ?_
    refine O.loud1 rfl (X.copyB 1 (l := l.take q) rfl rfl rfl (by rw [List.length_take]; omega) (.inr ⟨db,o,rfl,(hp.takeK q).reads⟩) (by omega)) rfl ?_; rintro _ _ ⟨rfl,rfl⟩; refine D.relist (L2 := [_,_]) rfl ?_
    obtain ⟨k,hk⟩ : ∃ k,k = min q m := ⟨_,rfl⟩
    have hlq : (l.take q).length = q := by rw [List.length_take]; omega
    have hmk : Nat.min (l.take q).length m = k := by rw [hlq,hk]
    have htk : (l.take q).take m = l.take k := by rw [List.take_take,hk,Nat.min_comm]
    refine D.reslot (v := .int .i64 ((k : Nat) : Int)) (congrArg (fun y : Nat => Value.int .i64 (y : Int)) (by exact hmk)) ?_
    refine D.relist (L2 := [_,⟨tb,to,bytesV (l.take k) ++ cs.drop k⟩]) (by rw [htk,hmk]) ?_
    refine D.pure rfl (S.assign rfl) rfl ?_
    refine D.kp [(0,_),(4,_),(5,_),(6,_),(12,_)] rfl ?_
    exact ⟨k,rfl,rfl,by omega,by omega,by omega⟩
   refine O.still rfl (S.load 0 (k := 0) rfl rfl rfl Tryd.isAgg22) rfl ?_
   refine D.pure rfl (S.lenSl rfl Tryd.underlying22) rfl ?_
   refine D.seg (by decide) ?_
   refine W.still rfl (S.load 0 (k := 1) rfl rfl rfl Tryd.isAgg39) rfl ?_
   refine W.still rfl (S.load 0 (k := 2) rfl rfl rfl Tryd.isAgg3) rfl ?_
   refine W.nil ?_
   refine D.one ?_
   refine O.loud1 rfl (X.call rfl Tryd.call43 (sizeAt_spec hsz calls _)) rfl ?_; rintro _ _ ⟨n,hn1,hn2,rfl,rfl⟩; refine D.relist (L2 := [_,_]) rfl ?_
   refine D.pure rfl (S.min2 rfl rfl) rfl ?_
   obtain ⟨q,hq⟩ : ∃ q,q = min n l.length := ⟨_,rfl⟩
   refine D.reslot (v := .int .i64 (q : Int)) (congrArg (Value.int .i64) (by split <;> omega)) ?_
   refine D.pure rfl (S.slH rfl rfl (by omega) Tryd.underlying22 Tryd.sizeOf5) rfl ?_
   refine D.reslot (v := .slice (some ⟨db,o,none⟩) (q) (c)) (slice_to (by simp [part]) rfl rfl) ?_
   refine D.one ?_
   refine O.loud1 rfl (X.copyB 1 (l := l.take q) rfl rfl rfl (by rw [List.length_take]; omega) (.inr ⟨db,o,rfl,(hp.takeK q).reads⟩) (by omega)) rfl ?_; rintro _ _ ⟨rfl,rfl⟩; refine D.relist (L2 := [_,_]) rfl ?_
   obtain ⟨k,hk⟩ : ∃ k,k = min q m := ⟨_,rfl⟩
   have hlq : (l.take q).length = q := by rw [List.length_take]; omega
   have hmk : Nat.min (l.take q).length m = k := by rw [hlq,hk]
   have htk : (l.take q).take m = l.take k := by rw [List.take_take,hk,Nat.min_comm]
   refine D.reslot (v := .int .i64 ((k : Nat) : Int)) (congrArg (fun y : Nat => Value.int .i64 (y : Int)) (by exact hmk)) ?_
   refine D.relist (L2 := [_,⟨tb,to,bytesV (l.take k) ++ cs.drop k⟩]) (by rw [htk,hmk]) ?_
   refine D.pure rfl (S.assign rfl) rfl ?_
   refine D.kp [(0,_),(4,_),(5,_),(6,_),(12,_)] rfl ?_
   exact ⟨k,rfl,rfl,by omega,by omega,by omega⟩
  ·
   refine O.still rfl (S.load 0 (k := 1) rfl rfl rfl Tryd.isAgg39) rfl ?_
   refine D.alt ?_ ⟨?_,⟨?_,trivial⟩⟩
   ·
    refine O.still rfl (S.load 0 (k := 0) rfl rfl rfl Tryd.isAgg22) rfl ?_
    refine D.alt ?_ ⟨?_,trivial⟩
    ·
     refine O.still rfl (S.load 0 (k := 2) rfl rfl rfl Tryd.isAgg3) rfl ?_
     refine D.alt ?_ ⟨?_,trivial⟩
     ·
      refine O.loud1 rfl (X.call rfl Tryd.call43 (sizeAt_spec hsz calls _)) rfl ?_; rintro _ _ ⟨n,hn1,hn2,rfl,rfl⟩; refine D.relist (L2 := [_,_]) rfl ?_
      refine D.seg (by decide) ?_
      refine W.still rfl (S.load 0 (k := 0) rfl rfl rfl Tryd.isAgg22) rfl ?_
      refine W.pure rfl (S.lenSl rfl Tryd.underlying22) rfl ?_
      refine W.pure rfl (S.min2 rfl rfl) rfl ?_
      obtain ⟨q,hq⟩ : ∃ q,q = min n l.length := ⟨_,rfl⟩
      refine W.reslot (v := .int .i64 (q : Int)) (congrArg (Value.int .i64) (by split <;> omega)) ?_
      refine W.pure rfl (S.slH rfl rfl (by omega) Tryd.underlying22 Tryd.sizeOf5) rfl ?_
      refine W.reslot (v := .slice (some ⟨db,o,none⟩) (q) (c)) (slice_to (by simp [part]) rfl rfl) ?_
      refine W.nil ?_
      refine D.one ?_
      refine O.loud1 rfl (X.copyB 1 (l := l.take q) rfl rfl rfl (by rw [List.length_take]; omega) (.inr ⟨db,o,rfl,(hp.takeK q).reads⟩) (by omega)) rfl ?_; rintro _ _ ⟨rfl,rfl⟩; refine D.relist (L2 := [_,_]) rfl ?_
      obtain ⟨k,hk⟩ : ∃ k,k = min q m := ⟨_,rfl⟩
      have hlq : (l.take q).length = q := by rw [List.length_take]; omega
      have hmk : Nat.min (l.take q).length m = k := by rw [hlq,hk]
      have htk : (l.take q).take m = l.take k := by rw [List.take_take,hk,Nat.min_comm]
      refine D.reslot (v := .int .i64 ((k : Nat) : Int)) (congrArg (fun y : Nat => Value.int .i64 (y : Int)) (by exact hmk)) ?_
      refine D.relist (L2 := [_,⟨tb,to,bytesV (l.take k) ++ cs.drop k⟩]) (by rw [htk,hmk]) ?_
      refine D.pure rfl (S.assign rfl) rfl ?_
      refine D.kp [(0,_),(4,_),(5,_),(6,_),(12,_)] rfl ?_
      exact ⟨k,rfl,rfl,by omega,by omega,by omega⟩
     refine O.still rfl (S.load 0 (k := 0) rfl rfl rfl Tryd.isAgg22) rfl ?_
     refine D.pure rfl (S.lenSl rfl Tryd.underlying22) rfl ?_
     refine D.one ?_
     refine O.loud1 rfl (X.call rfl Tryd.call43 (sizeAt_spec hsz calls _)) rfl ?_; rintro _ _ ⟨n,hn1,hn2,rfl,rfl⟩; refine D.relist (L2 := [_,_]) rfl ?_
     refine D.pure rfl (S.min2 rfl rfl) rfl ?_
     obtain ⟨q,hq⟩ : ∃ q,q = min n l.length := ⟨_,rfl⟩
     refine D.reslot (v := .int .i64 (q : Int)) (congrArg (Value.int .i64) (by split <;> omega)) ?_
     refine D.pure rfl (S.slH rfl rfl (by omega) Tryd.underlying22 Tryd.sizeOf5) rfl ?_
     refine D.reslot (v := .slice (some ⟨db,o,none⟩) (q) (c)) (slice_to (by simp [part]) rfl rfl) ?_
     refine D.one ?_
     refine O.loud1 rfl (X.copyB 1 (l := l.take q) rfl rfl rfl (by rw [List.length_take]; omega) (.inr ⟨db,o,rfl,(hp.takeK q).reads⟩) (by omega)) rfl ?_; rintro _ _ ⟨rfl,rfl⟩; refine D.relist (L2 := [_,_]) rfl ?_
     obtain ⟨k,hk⟩ : ∃ k,k = min q m := ⟨_,rfl⟩
     have hlq : (l.take q).length = q := by rw [List.length_take]; omega
     have hmk : Nat.min (l.take q).length m = k := by rw [hlq,hk]
     have htk : (l.take q).take m = l.take k := by rw [List.take_take,hk,Nat.min_comm]
     refine D.reslot (v := .int .i64 ((k : Nat) : Int)) (congrArg (fun y : Nat => Value.int .i64 (y : Int)) (by exact hmk)) ?_
     refine D.relist (L2 := [_,⟨tb,to,bytesV (l.take k) ++ cs.drop k⟩]) (by rw [htk,hmk]) ?_
     refine D.pure rfl (S.assign rfl) rfl ?_
     refine D.kp [(0,_),(4,_),(5,_),(6,_),(12,_)] rfl ?_
     exact ⟨k,rfl,rfl,by omega,by omega,by omega⟩
    refine O.still rfl (S.load 0 (k := 0) rfl rfl rfl Tryd.isAgg22) rfl ?_
    refine D.pure rfl (S.lenSl rfl Tryd.underlying22) rfl ?_
    refine D.seg (by decide) ?_
    refine W.still rfl (S.load 0 (k := 2) rfl rfl rfl Tryd.isAgg3) rfl ?_
    refine W.nil ?_
    refine D.one ?_
    refine O.loud1 rfl (X.call rfl Tryd.call43 (sizeAt_spec hsz calls _)) rfl ?_; rintro _ _ ⟨n,hn1,hn2,rfl,rfl⟩; refine D.relist (L2 := [_,_]) rfl ?_
    refine D.pure rfl (S.min2 rfl rfl) rfl ?_
    obtain ⟨q,hq⟩ : ∃ q,q = min n l.length := ⟨_,rfl⟩
    refine D.reslot (v := .int .i64 (q : Int)) (congrArg (Value.int .i64) (by split <;> omega)) ?_
    refine D.pure rfl (S.slH rfl rfl (by omega) Tryd.underlying22 Tryd.sizeOf5) rfl ?_
    refine D.reslot (v := .slice (some ⟨db,o,none⟩) (q) (c)) (slice_to (by simp [part]) rfl rfl) ?_
    refine D.one ?_
    refine O.loud1 rfl (X.copyB 1 (l := l.take q) rfl rfl rfl (by rw [List.length_take]; omega) (.inr ⟨db,o,rfl,(hp.takeK q).reads⟩) (by omega)) rfl ?_; rintro _ _ ⟨rfl,rfl⟩; refine D.relist (L2 := [_,_]) rfl ?_
    obtain ⟨k,hk⟩ : ∃ k,k = min q m := ⟨_,rfl⟩
    have hlq : (l.take q).length = q := by rw [List.length_take]; omega
    have hmk : Nat.min (l.take q).length m = k := by rw [hlq,hk]
    have htk : (l.take q).take m = l.take k := by rw [List.take_take,hk,Nat.min_comm]
    refine D.reslot (v := .int .i64 ((k : Nat) : Int)) (congrArg (fun y : Nat => Value.int .i64 (y : Int)) (by exact hmk)) ?_
    refine D.relist (L2 := [_,⟨tb,to,bytesV (l.take k) ++ cs.drop k⟩]) (by rw [htk,hmk]) ?_
    refine D.pure rfl (S.assign rfl) rfl ?_
    refine D.kp [(0,_),(4,_),(5,_),(6,_),(12,_)] rfl ?_
    exact ⟨k,rfl,rfl,by omega,by omega,by omega⟩
   ·
    refine O.still rfl (S.load 0 (k := 2) rfl rfl rfl Tryd.isAgg3) rfl ?_
    refine D.alt ?_ ⟨?_,⟨?_,trivial⟩⟩
    ·
     refine O.still rfl (S.load 0 (k := 0) rfl rfl rfl Tryd.isAgg22) rfl ?_
     refine D.alt ?_ ⟨?_,trivial⟩
     ·
      refine O.loud1 rfl (X.call rfl Tryd.call43 (sizeAt_spec hsz calls _)) rfl ?_; rintro _ _ ⟨n,hn1,hn2,rfl,rfl⟩; refine D.relist (L2 := [_,_]) rfl ?_
      refine D.seg (by decide) ?_
      refine W.still rfl (S.load 0 (k := 0) rfl rfl rfl Tryd.isAgg22) rfl ?_
      refine W.pure rfl (S.lenSl rfl Tryd.underlying22) rfl ?_
      refine W.pure rfl (S.min2 rfl rfl) rfl ?_
      obtain ⟨q,hq⟩ : ∃ q,q = min n l.length := ⟨_,rfl⟩
      refine W.reslot (v := .int .i64 (q : Int)) (congrArg (Value.int .i64) (by split <;> omega)) ?_
      refine W.pure rfl (S.slH rfl rfl (by omega) Tryd.underlying22 Tryd.sizeOf5) rfl ?_
      refine W.reslot (v := .slice (some ⟨db,o,none⟩) (q) (c)) (slice_to (by simp [part]) rfl rfl) ?_
      refine W.nil ?_
      refine D.one ?_
      refine O.loud1 rfl (X.copyB 1 (l := l.take q) rfl rfl rfl (by rw [List.length_take]; omega) (.inr ⟨db,o,rfl,(hp.takeK q).reads⟩) (by omega)) rfl ?_; rintro _ _ ⟨rfl,rfl⟩; refine D.relist (L2 := [_,_]) rfl ?_
      obtain ⟨k,hk⟩ : ∃ k,k = min q m := ⟨_,rfl⟩
      have hlq : (l.take q).length = q := by rw [List.length_take]; omega
      have hmk : Nat.min (l.take q).length m = k := by rw [hlq,hk]
      have htk : (l.take q).take m = l.take k := by rw [List.take_take,hk,Nat.min_comm]
      refine D.reslot (v := .int .i64 ((k : Nat) : Int)) (congrArg (fun y : Nat => Value.int .i64 (y : Int)) (by exact hmk)) ?_
      refine D.relist (L2 := [_,⟨tb,to,bytesV (l.take k) ++ cs.drop k⟩]) (by rw [htk,hmk]) ?_
      refine D.pure rfl (S.assign rfl) rfl ?_
      refine D.kp [(0,_),(4,_),(5,_),(6,_),(12,_)] rfl ?_
      exact ⟨k,rfl,rfl,by omega,by omega,by omega⟩
     refine O.still rfl (S.load 0 (k := 0) rfl rfl rfl Tryd.isAgg22) rfl ?_
     refine D.pure rfl (S.lenSl rfl Tryd.underlying22) rfl ?_
     refine D.one ?_
     refine O.loud1 rfl (X.call rfl Tryd.call43 (sizeAt_spec hsz calls _)) rfl ?_; rintro _ _ ⟨n,hn1,hn2,rfl,rfl⟩; refine D.relist (L2 := [_,_]) rfl ?_
     refine D.pure rfl (S.min2 rfl rfl) rfl ?_
     obtain ⟨q,hq⟩ : ∃ q,q = min n l.length := ⟨_,rfl⟩
     refine D.reslot (v := .int .i64 (q : Int)) (congrArg (Value.int .i64) (by split <;> omega)) ?_
     refine D.pure rfl (S.slH rfl rfl (by omega) Tryd.underlying22 Tryd.sizeOf5) rfl ?_
     refine D.reslot (v := .slice (some ⟨db,o,none⟩) (q) (c)) (slice_to (by simp [part]) rfl rfl) ?_
     refine D.one ?_
     refine O.loud1 rfl (X.copyB 1 (l := l.take q) rfl rfl rfl (by rw [List.length_take]; omega) (.inr ⟨db,o,rfl,(hp.takeK q).reads⟩) (by omega)) rfl ?_; rintro _ _ ⟨rfl,rfl⟩; refine D.relist (L2 := [_,_]) rfl ?_
     obtain ⟨k,hk⟩ : ∃ k,k = min q m := ⟨_,rfl⟩
     have hlq : (l.take q).length = q := by rw [List.length_take]; omega
     have hmk : Nat.min (l.take q).length m = k := by rw [hlq,hk]
     have htk : (l.take q).take m = l.take k := by rw [List.take_take,hk,Nat.min_comm]
     refine D.reslot (v := .int .i64 ((k : Nat) : Int)) (congrArg (fun y : Nat => Value.int .i64 (y : Int)) (by exact hmk)) ?_
     refine D.relist (L2 := [_,⟨tb,to,bytesV (l.take k) ++ cs.drop k⟩]) (by rw [htk,hmk]) ?_
     refine D.pure rfl (S.assign rfl) rfl ?_
     refine D.kp [(0,_),(4,_),(5,_),(6,_),(12,_)] rfl ?_
     exact ⟨k,rfl,rfl,by omega,by omega,by omega⟩
    ·
     refine O.loud1 rfl (X.call rfl Tryd.call43 (sizeAt_spec hsz calls _)) rfl ?_; rintro _ _ ⟨n,hn1,hn2,rfl,rfl⟩; refine D.relist (L2 := [_,_]) rfl ?_
     refine D.seg (by decide) ?_
     refine W.still rfl (S.load 0 (k := 0) rfl rfl rfl Tryd.isAgg22) rfl ?_
     refine W.still rfl (S.load 0 (k := 0) rfl rfl rfl Tryd.isAgg22) rfl ?_
     refine W.pure rfl (S.lenSl rfl Tryd.underlying22) rfl ?_
     refine W.pure rfl (S.min2 rfl rfl) rfl ?_
     obtain ⟨q,hq⟩ : ∃ q,q = min n l.length := ⟨_,rfl⟩
     refine W.reslot (v := .int .i64 (q : Int)) (congrArg (Value.int .i64) (by split <;> omega)) ?_
     refine W.pure rfl (S.slH rfl rfl (by omega) Tryd.underlying22 Tryd.sizeOf5) rfl ?_
     refine W.reslot (v := .slice (some ⟨db,o,none⟩) (q) (c)) (slice_to (by simp [part]) rfl rfl) ?_
     refine W.nil ?_
     refine D.one ?_
     refine O.loud1 rfl (X.copyB 1 (l := l.take q) rfl rfl rfl (by rw [List.length_take]; omega) (.inr ⟨db,o,rfl,(hp.takeK q).reads⟩) (by omega)) rfl ?_; rintro _ _ ⟨rfl,rfl⟩; refine D.relist (L2 := [_,_]) rfl ?_
     obtain ⟨k,hk⟩ : ∃ k,k = min q m := ⟨_,rfl⟩
     have hlq : (l.take q).length = q := by rw [List.length_take]; omega
     have hmk : Nat.min (l.take q).length m = k := by rw [hlq,hk]
     have htk : (l.take q).take m = l.take k := by rw [List.take_take,hk,Nat.min_comm]
     refine D.reslot (v := .int .i64 ((k : Nat) : Int)) (congrArg (fun y : Nat => Value.int .i64 (y : Int)) (by exact hmk)) ?_
     refine D.relist (L2 := [_,⟨tb,to,bytesV (l.take k) ++ cs.drop k⟩]) (by rw [htk,hmk]) ?_
     refine D.pure rfl (S.assign rfl) rfl ?_
     refine D.kp [(0,_),(4,_),(5,_),(6,_),(12,_)] rfl ?_
     exact ⟨k,rfl,rfl,by omega,by omega,by omega⟩
    refine O.still rfl (S.load 0 (k := 0) rfl rfl rfl Tryd.isAgg22) rfl ?_
    refine D.pure rfl (S.lenSl rfl Tryd.underlying22) rfl ?_
    refine D.alt ?_ ⟨?_,trivial⟩
    ·
     refine O.still rfl (S.load 0 (k := 0) rfl rfl rfl Tryd.isAgg22) rfl ?_
     refine D.one ?_
     refine O.loud1 rfl (X.call rfl Tryd.call43 (sizeAt_spec hsz calls _)) rfl ?_; rintro _ _ ⟨n,hn1,hn2,rfl,rfl⟩; refine D.relist (L2 := [_,_]) rfl ?_
     refine D.pure rfl (S.min2 rfl rfl) rfl ?_
     obtain ⟨q,hq⟩ : ∃ q,q = min n l.length := ⟨_,rfl⟩
     refine D.reslot (v := .int .i64 (q : Int)) (congrArg (Value.int .i64) (by split <;> omega)) ?_
     refine D.pure rfl (S.slH rfl rfl (by omega) Tryd.underlying22 Tryd.sizeOf5) rfl ?_
     refine D.reslot (v := .slice (some ⟨db,o,none⟩) (q) (c)) (slice_to (by simp [part]) rfl rfl) ?_
     refine D.one ?_
     refine O.loud1 rfl (X.copyB 1 (l := l.take q) rfl rfl rfl (by rw [List.length_take]; omega) (.inr ⟨db,o,rfl,(hp.takeK q).reads⟩) (by omega)) rfl ?_; rintro _ _ ⟨rfl,rfl⟩; refine D.relist (L2 := [_,_]) rfl ?_
     obtain ⟨k,hk⟩ : ∃ k,k = min q m := ⟨_,rfl⟩
     have hlq : (l.take q).length = q := by rw [List.length_take]; omega
     have hmk : Nat.min (l.take q).length m = k := by rw [hlq,hk]
     have htk : (l.take q).take m = l.take k := by rw [List.take_take,hk,Nat.min_comm]
     refine D.reslot (v := .int .i64 ((k : Nat) : Int)) (congrArg (fun y : Nat => Value.int .i64 (y : Int)) (by exact hmk)) ?_
     refine D.relist (L2 := [_,⟨tb,to,bytesV (l.take k) ++ cs.drop k⟩]) (by rw [htk,hmk]) ?_
     refine D.pure rfl (S.assign rfl) rfl ?_
     refine D.kp [(0,_),(4,_),(5,_),(6,_),(12,_)] rfl ?_
     exact ⟨k,rfl,rfl,by omega,by omega,by omega⟩
    refine O.loud1 rfl (X.call rfl Tryd.call43 (sizeAt_spec hsz calls _)) rfl ?_; rintro _ _ ⟨n,hn1,hn2,rfl,rfl⟩; refine D.relist (L2 := [_,_]) rfl ?_
    refine D.pure rfl (S.min2 rfl rfl) rfl ?_
    obtain ⟨q,hq⟩ : ∃ q,q = min n l.length := ⟨_,rfl⟩
    refine D.reslot (v := .int .i64 (q : Int)) (congrArg (Value.int .i64) (by split <;> omega)) ?_
    refine D.seg (by decide) ?_
    refine W.still rfl (S.load 0 (k := 0) rfl rfl rfl Tryd.isAgg22) rfl ?_
    refine W.pure rfl (S.slH rfl rfl (by omega) Tryd.underlying22 Tryd.sizeOf5) rfl ?_
    refine W.reslot (v := .slice (some ⟨db,o,none⟩) (q) (c)) (slice_to (by simp [part]) rfl rfl) ?_
    refine W.nil ?_
    refine D.one ?_
    refine O.loud1 rfl (X.copyB 1 (l := l.take q) rfl rfl rfl (by rw [List.length_take]; omega) (.inr ⟨db,o,rfl,(hp.takeK q).reads⟩) (by omega)) rfl ?_; rintro _ _ ⟨rfl,rfl⟩; refine D.relist (L2 := [_,_]) rfl ?_
    obtain ⟨k,hk⟩ : ∃ k,k = min q m := ⟨_,rfl⟩
    have hlq : (l.take q).length = q := by rw [List.length_take]; omega
    have hmk : Nat.min (l.take q).length m = k := by rw [hlq,hk]
    have htk : (l.take q).take m = l.take k := by rw [List.take_take,hk,Nat.min_comm]
    refine D.reslot (v := .int .i64 ((k : Nat) : Int)) (congrArg (fun y : Nat => Value.int .i64 (y : Int)) (by exact hmk)) ?_
    refine D.relist (L2 := [_,⟨tb,to,bytesV (l.take k) ++ cs.drop k⟩]) (by rw [htk,hmk]) ?_
    refine D.pure rfl (S.assign rfl) rfl ?_
    refine D.kp [(0,_),(4,_),(5,_),(6,_),(12,_)] rfl ?_
    exact ⟨k,rfl,rfl,by omega,by omega,by omega⟩
   refine O.still rfl (S.load 0 (k := 0) rfl rfl rfl Tryd.isAgg22) rfl ?_
   refine D.pure rfl (S.lenSl rfl Tryd.underlying22) rfl ?_
   refine D.alt ?_ ⟨?_,trivial⟩
   ·
    refine O.still rfl (S.load 0 (k := 0) rfl rfl rfl Tryd.isAgg22) rfl ?_
    refine D.seg (by decide) ?_
    refine W.still rfl (S.load 0 (k := 2) rfl rfl rfl Tryd.isAgg3) rfl ?_
    refine W.nil ?_
    refine D.one ?_
    refine O.loud1 rfl (X.call rfl Tryd.call43 (sizeAt_spec hsz calls _)) rfl ?_; rintro _ _ ⟨n,hn1,hn2,rfl,rfl⟩; refine D.relist (L2 := [_,_]) rfl ?_
    refine D.pure rfl (S.min2 rfl rfl) rfl ?_
    obtain ⟨q,hq⟩ : ∃ q,q = min n l.length := ⟨_,rfl⟩
    refine D.reslot (v := .int .i64 (q : Int)) (congrArg (Value.int .i64) (by split <;> omega)) ?_
    refine D.pure rfl (S.slH rfl rfl (by omega) Tryd.underlying22 Tryd.sizeOf5) rfl ?_
    refine D.reslot (v := .slice (some ⟨db,o,none⟩) (q) (c)) (slice_to (by simp [part]) rfl rfl) ?_
    refine D.one ?_
    refine O.loud1 rfl (X.copyB 1 (l := l.take q) rfl rfl rfl (by rw [List.length_take]; omega) (.inr ⟨db,o,rfl,(hp.takeK q).reads⟩) (by omega)) rfl ?_; rintro _ _ ⟨rfl,rfl⟩; refine D.relist (L2 := [_,_]) rfl ?_
    obtain ⟨k,hk⟩ : ∃ k,k = min q m := ⟨_,rfl⟩
    have hlq : (l.take q).length = q := by rw [List.length_take]; omega
    have hmk : Nat.min (l.take q).length m = k := by rw [hlq,hk]
    have htk : (l.take q).take m = l.take k := by rw [List.take_take,hk,Nat.min_comm]
    refine D.reslot (v := .int .i64 ((k : Nat) : Int)) (congrArg (fun y : Nat => Value.int .i64 (y : Int)) (by exact hmk)) ?_
    refine D.relist (L2 := [_,⟨tb,to,bytesV (l.take k) ++ cs.drop k⟩]) (by rw [htk,hmk]) ?_
    refine D.pure rfl (S.assign rfl) rfl ?_
    refine D.kp [(0,_),(4,_),(5,_),(6,_),(12,_)] rfl ?_
    exact ⟨k,rfl,rfl,by omega,by omega,by omega⟩
   refine O.still rfl (S.load 0 (k := 2) rfl rfl rfl Tryd.isAgg3) rfl ?_
   refine D.alt ?_ ⟨?_,trivial⟩
   ·
    refine O.still rfl (S.load 0 (k := 0) rfl rfl rfl Tryd.isAgg22) rfl ?_
    refine D.one ?_
    refine O.loud1 rfl (X.call rfl Tryd.call43 (sizeAt_spec hsz calls _)) rfl ?_; rintro _ _ ⟨n,hn1,hn2,rfl,rfl⟩; refine D.relist (L2 := [_,_]) rfl ?_
    refine D.pure rfl (S.min2 rfl rfl) rfl ?_
    obtain ⟨q,hq⟩ : ∃ q,q = min n l.length := ⟨_,rfl⟩
    refine D.reslot (v := .int .i64 (q : Int)) (congrArg (Value.int .i64) (by split <;> omega)) ?_
    refine D.pure rfl (S.slH rfl rfl (by omega) Tryd.underlying22 Tryd.sizeOf5) rfl ?_
    refine D.reslot (v := .slice (some ⟨db,o,none⟩) (q) (c)) (slice_to (by simp [part]) rfl rfl) ?_
    refine D.one ?_
    refine O.loud1 rfl (X.copyB 1 (l := l.take q) rfl rfl rfl (by rw [List.length_take]; omega) (.inr ⟨db,o,rfl,(hp.takeK q).reads⟩) (by omega)) rfl ?_; rintro _ _ ⟨rfl,rfl⟩; refine D.relist (L2 := [_,_]) rfl ?_
    obtain ⟨k,hk⟩ : ∃ k,k = min q m := ⟨_,rfl⟩
    have hlq : (l.take q).length = q := by rw [List.length_take]; omega
    have hmk : Nat.min (l.take q).length m = k := by rw [hlq,hk]
    have htk : (l.take q).take m = l.take k := by rw [List.take_take,hk,Nat.min_comm]
    refine D.reslot (v := .int .i64 ((k : Nat) : Int)) (congrArg (fun y : Nat => Value.int .i64 (y : Int)) (by exact hmk)) ?_
    refine D.relist (L2 := [_,⟨tb,to,bytesV (l.take k) ++ cs.drop k⟩]) (by rw [htk,hmk]) ?_
    refine D.pure rfl (S.assign rfl) rfl ?_
    refine D.kp [(0,_),(4,_),(5,_),(6,_),(12,_)] rfl ?_
    exact ⟨k,rfl,rfl,by omega,by omega,by omega⟩
   refine O.loud1 rfl (X.call rfl Tryd.call43 (sizeAt_spec hsz calls _)) rfl ?_; rintro _ _ ⟨n,hn1,hn2,rfl,rfl⟩; refine D.relist (L2 := [_,_]) rfl ?_
   refine D.pure rfl (S.min2 rfl rfl) rfl ?_
   obtain ⟨q,hq⟩ : ∃ q,q = min n l.length := ⟨_,rfl⟩
   refine D.reslot (v := .int .i64 (q : Int)) (congrArg (Value.int .i64) (by split <;> omega)) ?_
   refine D.seg (by decide) ?_
   refine W.still rfl (S.load 0 (k := 0) rfl rfl rfl Tryd.isAgg22) rfl ?_
   refine W.pure rfl (S.slH rfl rfl (by omega) Tryd.underlying22 Tryd.sizeOf5) rfl ?_
   refine W.reslot (v := .slice (some ⟨db,o,none⟩) (q) (c)) (slice_to (by simp [part]) rfl rfl) ?_
   refine W.nil ?_
   refine D.one ?_
   refine O.loud1 rfl (X.copyB 1 (l := l.take q) rfl rfl rfl (by rw [List.length_take]; omega) (.inr ⟨db,o,rfl,(hp.takeK q).reads⟩) (by omega)) rfl ?_; rintro _ _ ⟨rfl,rfl⟩; refine D.relist (L2 := [_,_]) rfl ?_
   obtain ⟨k,hk⟩ : ∃ k,k = min q m := ⟨_,rfl⟩
   have hlq : (l.take q).length = q := by rw [List.length_take]; omega
   have hmk : Nat.min (l.take q).length m = k := by rw [hlq,hk]
   have htk : (l.take q).take m = l.take k := by rw [List.take_take,hk,Nat.min_comm]
   refine D.reslot (v := .int .i64 ((k : Nat) : Int)) (congrArg (fun y : Nat => Value.int .i64 (y : Int)) (by exact hmk)) ?_
   refine D.relist (L2 := [_,⟨tb,to,bytesV (l.take k) ++ cs.drop k⟩]) (by rw [htk,hmk]) ?_
   refine D.pure rfl (S.assign rfl) rfl ?_
   refine D.kp [(0,_),(4,_),(5,_),(6,_),(12,_)] rfl ?_
   exact ⟨k,rfl,rfl,by omega,by omega,by omega⟩
  ·
   refine O.still rfl (S.load 0 (k := 2) rfl rfl rfl Tryd.isAgg3) rfl ?_
   refine D.alt ?_ ⟨?_,⟨?_,trivial⟩⟩
   ·
    refine O.still rfl (S.load 0 (k := 0) rfl rfl rfl Tryd.isAgg22) rfl ?_
    refine D.alt ?_ ⟨?_,trivial⟩
    ·
     refine O.still rfl (S.load 0 (k := 1) rfl rfl rfl Tryd.isAgg39) rfl ?_
     refine D.alt ?_ ⟨?_,trivial⟩
     ·
      refine O.loud1 rfl (X.call rfl Tryd.call43 (sizeAt_spec hsz calls _)) rfl ?_; rintro _ _ ⟨n,hn1,hn2,rfl,rfl⟩; refine D.relist (L2 := [_,_]) rfl ?_
      refine D.seg (by decide) ?_
      refine W.still rfl (S.load 0 (k := 0) rfl rfl rfl Tryd.isAgg22) rfl ?_
      refine W.pure rfl (S.lenSl rfl Tryd.underlying22) rfl ?_
      refine W.pure rfl (S.min2 rfl rfl) rfl ?_
      obtain ⟨q,hq⟩ : ∃ q,q = min n l.length := ⟨_,rfl⟩
      refine W.reslot (v := .int .i64 (q : Int)) (congrArg (Value.int .i64) (by split <;> omega)) ?_
      refine W.pure rfl (S.slH rfl rfl (by omega) Tryd.underlying22 Tryd.sizeOf5) rfl ?_
      refine W.reslot (v := .slice (some ⟨db,o,none⟩) (q) (c)) (slice_to (by simp [part]) rfl rfl) ?_
      refine W.nil ?_
      refine D.one ?_
      refine O.loud1 rfl (X.copyB 1 (l := l.take q) rfl rfl rfl (by rw [List.length_take]; omega) (.inr ⟨db,o,rfl,(hp.takeK q).reads⟩) (by omega)) rfl ?_; rintro _ _ ⟨rfl,rfl⟩; refine D.relist (L2 := [_,_]) rfl ?_
      obtain ⟨k,hk⟩ : ∃ k,k = min q m := ⟨_,rfl⟩
      have hlq : (l.take q).length = q := by rw [List.length_take]; omega
      have hmk : Nat.min (l.take q).length m = k := by rw [hlq,hk]
      have htk : (l.take q).take m = l.take k := by rw [List.take_take,hk,Nat.min_comm]
      refine D.reslot (v := .int .i64 ((k : Nat) : Int)) (congrArg (fun y : Nat => Value.int .i64 (y : Int)) (by exact hmk)) ?_
      refine D.relist (L2 := [_,⟨tb,to,bytesV (l.take k) ++ cs.drop k⟩]) (by rw [htk,hmk]) ?_
      refine D.pure rfl (S.assign rfl) rfl ?_
      refine D.kp [(0,_),(4,_),(5,_),(6,_),(12,_)] rfl ?_
      exact ⟨k,rfl,rfl,by omega,by omega,by omega⟩
     refine O.still rfl (S.load 0 (k := 0) rfl rfl rfl Tryd.isAgg22) rfl ?_
     refine D.pure rfl (S.lenSl rfl Tryd.underlying22) rfl ?_
     refine D.one ?_
     refine O.loud1 rfl (X.call rfl Tryd.call43 (sizeAt_spec hsz calls _)) rfl ?_; rintro _ _ ⟨n,hn1,hn2,rfl,rfl⟩; refine D.relist (L2 := [_,_]) rfl ?_
     refine D.pure rfl (S.min2 rfl rfl) rfl ?_
     obtain ⟨q,hq⟩ : ∃ q,q = min n l.length := ⟨_,rfl⟩
     refine D.reslot (v := .int .i64 (q : Int)) (congrArg (Value.int .i64) (by split <;> omega)) ?_
     refine D.pure rfl (S.slH rfl rfl (by omega) Tryd.underlying22 Tryd.sizeOf5) rfl ?_
     refine D.reslot (v := .slice (some ⟨db,o,none⟩) (q) (c)) (slice_to (by simp [part]) rfl rfl) ?_
     refine D.one ?_
     refine O.loud1 rfl (X.copyB 1 (l := l.take q) rfl rfl rfl (by rw [List.length_take]; omega) (.inr ⟨db,o,rfl,(hp.takeK q).reads⟩) (by omega)) rfl ?_; rintro _ _ ⟨rfl,rfl⟩; refine D.relist (L2 := [_,_]) rfl ?_
     obtain ⟨k,hk⟩ : ∃ k,k = min q m := ⟨_,rfl⟩
     have hlq : (l.take q).length = q := by rw [List.length_take]; omega
     have hmk : Nat.min (l.take q).length m = k := by rw [hlq,hk]
     have htk : (l.take q).take m = l.take k := by rw [List.take_take,hk,Nat.min_comm]
     refine D.reslot (v := .int .i64 ((k : Nat) : Int)) (congrArg (fun y : Nat => Value.int .i64 (y : Int)) (by exact hmk)) ?_
     refine D.relist (L2 := [_,⟨tb,to,bytesV (l.take k) ++ cs.drop k⟩]) (by rw [htk,hmk]) ?_
     refine D.pure rfl (S.assign rfl) rfl ?_
     refine D.kp [(0,_),(4,_),(5,_),(6,_),(12,_)] rfl ?_
     exact ⟨k,rfl,rfl,by omega,by omega,by omega⟩
    refine O.still rfl (S.load 0 (k := 0) rfl rfl rfl Tryd.isAgg22) rfl ?_
    refine D.pure rfl (S.lenSl rfl Tryd.underlying22) rfl ?_
    refine D.seg (by decide) ?_
    refine W.still rfl (S.load 0 (k := 1) rfl rfl rfl Tryd.isAgg39) rfl ?_
    refine W.nil ?_
    refine D.one ?_
    refine O.loud1 rfl (X.call rfl Tryd.call43 (sizeAt_spec hsz calls _)) rfl ?_; rintro _ _ ⟨n,hn1,hn2,rfl,rfl⟩; refine D.relist (L2 := [_,_]) rfl ?_
    refine D.pure rfl (S.min2 rfl rfl) rfl ?_
    obtain ⟨q,hq⟩ : ∃ q,q = min n l.length := ⟨_,rfl⟩
    refine D.reslot (v := .int .i64 (q : Int)) (congrArg (Value.int .i64) (by split <;> omega)) ?_
    refine D.pure rfl (S.slH rfl rfl (by omega) Tryd.underlying22 Tryd.sizeOf5) rfl ?_
    refine D.reslot (v := .slice (some ⟨db,o,none⟩) (q) (c)) (slice_to (by simp [part]) rfl rfl) ?_
    refine D.one ?_
    refine O.loud1 rfl (X.copyB 1 (l := l.take q) rfl rfl rfl (by rw [List.length_take]; omega) (.inr ⟨db,o,rfl,(hp.takeK q).reads⟩) (by omega)) rfl ?_; rintro _ _ ⟨rfl,rfl⟩; refine D.relist (L2 := [_,_]) rfl ?_
    obtain ⟨k,hk⟩ : ∃ k,k = min q m := ⟨_,rfl⟩
    have hlq : (l.take q).length = q := by rw [List.length_take]; omega
    have hmk : Nat.min (l.take q).length m = k := by rw [hlq,hk]
    have htk : (l.take q).take m = l.take k := by rw [List.take_take,hk,Nat.min_comm]
    refine D.reslot (v := .int .i64 ((k : Nat) : Int)) (congrArg (fun y : Nat => Value.int .i64 (y : Int)) (by exact hmk)) ?_
    refine D.relist (L2 := [_,⟨tb,to,bytesV (l.take k) ++ cs.drop k⟩]) (by rw [htk,hmk]) ?_
    refine D.pure rfl (S.assign rfl) rfl ?_
    refine D.kp [(0,_),(4,_),(5,_),(6,_),(12,_)] rfl ?_
    exact ⟨k,rfl,rfl,by omega,by omega,by omega⟩
   ·
    refine O.still rfl (S.load 0 (k := 1) rfl rfl rfl Tryd.isAgg39) rfl ?_
    refine D.alt ?_ ⟨?_,⟨?_,trivial⟩⟩
    ·
     refine O.still rfl (S.load 0 (k := 0) rfl rfl rfl Tryd.isAgg22) rfl ?_
     refine D.alt ?_ ⟨?_,trivial⟩
     ·
      refine O.loud1 rfl (X.call rfl Tryd.call43 (sizeAt_spec hsz calls _)) rfl ?_; rintro _ _ ⟨n,hn1,hn2,rfl,rfl⟩; refine D.relist (L2 := [_,_]) rfl ?_
      refine D.seg (by decide) ?_
      refine W.still rfl (S.load 0 (k := 0) rfl rfl rfl Tryd.isAgg22) rfl ?_
      refine W.pure rfl (S.lenSl rfl Tryd.underlying22) rfl ?_
      refine W.pure rfl (S.min2 rfl rfl) rfl ?_
      obtain ⟨q,hq⟩ : ∃ q,q = min n l.length := ⟨_,rfl⟩
      refine W.reslot (v := .int .i64 (q : Int)) (congrArg (Value.int .i64) (by split <;> omega)) ?_
      refine W.pure rfl (S.slH rfl rfl (by omega) Tryd.underlying22 Tryd.sizeOf5) rfl ?_
      refine W.reslot (v := .slice (some ⟨db,o,none⟩) (q) (c)) (slice_to (by simp [part]) rfl rfl) ?_
      refine W.nil ?_
      refine D.one ?_
      refine O.loud1 rfl (X.copyB 1 (l := l.take q) rfl rfl rfl (by rw [List.length_take]; omega) (.inr ⟨db,o,rfl,(hp.takeK q).reads⟩) (by omega)) rfl ?_; rintro _ _ ⟨rfl,rfl⟩; refine D.relist (L2 := [_,_]) rfl ?_
      obtain ⟨k,hk⟩ : ∃ k,k = min q m := ⟨_,rfl⟩
      have hlq : (l.take q).length = q := by rw [List.length_take]; omega
      have hmk : Nat.min (l.take q).length m = k := by rw [hlq,hk]
      have htk : (l.take q).take m = l.take k := by rw [List.take_take,hk,Nat.min_comm]
      refine D.reslot (v := .int .i64 ((k : Nat) : Int)) (congrArg (fun y : Nat => Value.int .i64 (y : Int)) (by exact hmk)) ?_
      refine D.relist (L2 := [_,⟨tb,to,bytesV (l.take k) ++ cs.drop k⟩]) (by rw [htk,hmk]) ?_
      refine D.pure rfl (S.assign rfl) rfl ?_
      refine D.kp [(0,_),(4,_),(5,_),(6,_),(12,_)] rfl ?_
      exact ⟨k,rfl,rfl,by omega,by omega,by omega⟩
     refine O.still rfl (S.load 0 (k := 0) rfl rfl rfl Tryd.isAgg22) rfl ?_
     refine D.pure rfl (S.lenSl rfl Tryd.underlying22) rfl ?_
     refine D.one ?_
     refine O.loud1 rfl (X.call rfl Tryd.call43 (sizeAt_spec hsz calls _)) rfl ?_; rintro _ _ ⟨n,hn1,hn2,rfl,rfl⟩; refine D.relist (L2 := [_,_]) rfl ?_
     refine D.pure rfl (S.min2 rfl rfl) rfl ?_
     obtain ⟨q,hq⟩ : ∃ q,q = min n l.length := ⟨_,rfl⟩
     refine D.reslot (v := .int .i64 (q : Int)) (congrArg (Value.int .i64) (by split <;> omega)) ?_
     refine D.pure rfl (S.slH rfl rfl (by omega) Tryd.underlying22 Tryd.sizeOf5) rfl ?_
     refine D.reslot (v := .slice (some ⟨db,o,none⟩) (q) (c)) (slice_to (by simp [part]) rfl rfl) ?_
     refine D.one ?_
     refine O.loud1 rfl (X.copyB 1 (l := l.take q) rfl rfl rfl (by rw [List.length_take]; omega) (.inr ⟨db,o,rfl,(hp.takeK q).reads⟩) (by omega)) rfl ?_; rintro _ _ ⟨rfl,rfl⟩; refine D.relist (L2 := [_,_]) rfl ?_
     obtain ⟨k,hk⟩ : ∃ k,k = min q m := ⟨_,rfl⟩
     have hlq : (l.take q).length = q := by rw [List.length_take]; omega
     have hmk : Nat.min (l.take q).length m = k := by rw [hlq,hk]
     have htk : (l.take q).take m = l.take k := by rw [List.take_take,hk,Nat.min_comm]
     refine D.reslot (v := .int .i64 ((k : Nat) : Int)) (congrArg (fun y : Nat => Value.int .i64 (y : Int)) (by exact hmk)) ?_
     refine D.relist (L2 := [_,⟨tb,to,bytesV (l.take k) ++ cs.drop k⟩]) (by rw [htk,hmk]) ?_
     refine D.pure rfl (S.assign rfl) rfl ?_
     refine D.kp [(0,_),(4,_),(5,_),(6,_),(12,_)] rfl ?_
     exact ⟨k,rfl,rfl,by omega,by omega,by omega⟩
    ·
     refine O.loud1 rfl (X.call rfl Tryd.call43 (sizeAt_spec hsz calls _)) rfl ?_; rintro _ _ ⟨n,hn1,hn2,rfl,rfl⟩; refine D.relist (L2 := [_,_]) rfl ?_
     refine D.seg (by decide) ?_
     refine W.still rfl (S.load 0 (k := 0) rfl rfl rfl Tryd.isAgg22) rfl ?_
     refine W.still rfl (S.load 0 (k := 0) rfl rfl rfl Tryd.isAgg22) rfl ?_
     refine W.pure rfl (S.lenSl rfl Tryd.underlying22) rfl ?_
     refine W.pure rfl (S.min2 rfl rfl) rfl ?_
     obtain ⟨q,hq⟩ : ∃ q,q = min n l.length := ⟨_,rfl⟩
     refine W.reslot (v := .int .i64 (q : Int)) (congrArg (Value.int .i64) (by split <;> omega)) ?_
     refine W.pure rfl (S.slH rfl rfl (by omega) Tryd.underlying22 Tryd.sizeOf5) rfl ?_
     refine W.reslot (v := .slice (some ⟨db,o,none⟩) (q) (c)) (slice_to (by simp [part]) rfl rfl) ?_
     refine W.nil ?_
     refine D.one ?_
     refine O.loud1 rfl (X.copyB 1 (l := l.take q) rfl rfl rfl (by rw [List.length_take]; omega) (.inr ⟨db,o,rfl,(hp.takeK q).reads⟩) (by omega)) rfl ?_; rintro _ _ ⟨rfl,rfl⟩; refine D.relist (L2 := [_,_]) rfl ?_
     obtain ⟨k,hk⟩ : ∃ k,k = min q m := ⟨_,rfl⟩
     have hlq : (l.take q).length = q := by rw [List.length_take]; omega
     have hmk : Nat.min (l.take q).length m = k := by rw [hlq,hk]
     have htk : (l.take q).take m = l.take k := by rw [List.take_take,hk,Nat.min_comm]
     refine D.reslot (v := .int .i64 ((k : Nat) : Int)) (congrArg (fun y : Nat => Value.int .i64 (y : Int)) (by exact hmk)) ?_
     refine D.relist (L2 := [_,⟨tb,to,bytesV (l.take k) ++ cs.drop k⟩]) (by rw [htk,hmk]) ?_
     refine D.pure rfl (S.assign rfl) rfl ?_
     refine D.kp [(0,_),(4,_),(5,_),(6,_),(12,_)] rfl ?_
     exact ⟨k,rfl,rfl,by omega,by omega,by omega⟩
    refine O.still rfl (S.load 0 (k := 0) rfl rfl rfl Tryd.isAgg22) rfl ?_
    refine D.pure rfl (S.lenSl rfl Tryd.underlying22) rfl ?_
    refine D.alt ?_ ⟨?_,trivial⟩
    ·
     refine O.still rfl (S.load 0 (k := 0) rfl rfl rfl Tryd.isAgg22) rfl ?_
     refine D.one ?_
     refine O.loud1 rfl (X.call rfl Tryd.call43 (sizeAt_spec hsz calls _)) rfl ?_; rintro _ _ ⟨n,hn1,hn2,rfl,rfl⟩; refine D.relist (L2 := [_,_]) rfl ?_
     refine D.pure rfl (S.min2 rfl rfl) rfl ?_
     obtain ⟨q,hq⟩ : ∃ q,q = min n l.length := ⟨_,rfl⟩
     refine D.reslot (v := .int .i64 (q : Int)) (congrArg (Value.int .i64) (by split <;> omega)) ?_
     refine D.pure rfl (S.slH rfl rfl (by omega) Tryd.underlying22 Tryd.sizeOf5) rfl ?_
     refine D.reslot (v := .slice (some ⟨db,o,none⟩) (q) (c)) (slice_to (by simp [part]) rfl rfl) ?_
     refine D.one ?_
     refine O.loud1 rfl (X.copyB 1 (l := l.take q) rfl rfl rfl (by rw [List.length_take]; omega) (.inr ⟨db,o,rfl,(hp.takeK q).reads⟩) (by omega)) rfl ?_; rintro _ _ ⟨rfl,rfl⟩; refine D.relist (L2 := [_,_]) rfl ?_
     obtain ⟨k,hk⟩ : ∃ k,k = min q m := ⟨_,rfl⟩
     have hlq : (l.take q).length = q := by rw [List.length_take]; omega
     have hmk : Nat.min (l.take q).length m = k := by rw [hlq,hk]
     have htk : (l.take q).take m = l.take k := by rw [List.take_take,hk,Nat.min_comm]
     refine D.reslot (v := .int .i64 ((k : Nat) : Int)) (congrArg (fun y : Nat => Value.int .i64 (y : Int)) (by exact hmk)) ?_
     refine D.relist (L2 := [_,⟨tb,to,bytesV (l.take k) ++ cs.drop k⟩]) (by rw [htk,hmk]) ?_
     refine D.pure rfl (S.assign rfl) rfl ?_
     refine D.kp [(0,_),(4,_),(5,_),(6,_),(12,_)] rfl ?_
     exact ⟨k,rfl,rfl,by omega,by omega,by omega⟩
    refine O.loud1 rfl (X.call rfl Tryd.call43 (sizeAt_spec hsz calls _)) rfl ?_; rintro _ _ ⟨n,hn1,hn2,rfl,rfl⟩; refine D.relist (L2 := [_,_]) rfl ?_
    refine D.pure rfl (S.min2 rfl rfl) rfl ?_
    obtain ⟨q,hq⟩ : ∃ q,q = min n l.length := ⟨_,rfl⟩
    refine D.reslot (v := .int .i64 (q : Int)) (congrArg (Value.int .i64) (by split <;> omega)) ?_
    refine D.seg (by decide) ?_
    refine W.still rfl (S.load 0 (k := 0) rfl rfl rfl Tryd.isAgg22) rfl ?_
    refine W.pure rfl (S.slH rfl rfl (by omega) Tryd.underlying22 Tryd.sizeOf5) rfl ?_
    refine W.reslot (v := .slice (some ⟨db,o,none⟩) (q) (c)) (slice_to (by simp [part]) rfl rfl) ?_
    refine W.nil ?_
    refine D.one ?_
    refine O.loud1 rfl (X.copyB 1 (l := l.take q) rfl rfl rfl (by rw [List.length_take]; omega) (.inr ⟨db,o,rfl,(hp.takeK q).reads⟩) (by omega)) rfl ?_; rintro _ _ ⟨rfl,rfl⟩; refine D.relist (L2 := [_,_]) rfl ?_
    obtain ⟨k,hk⟩ : ∃ k,k = min q m := ⟨_,rfl⟩
    have hlq : (l.take q).length = q := by rw [List.length_take]; omega
    have hmk : Nat.min (l.take q).length m = k := by rw [hlq,hk]
    have htk : (l.take q).take m = l.take k := by rw [List.take_take,hk,Nat.min_comm]
    refine D.reslot (v := .int .i64 ((k : Nat) : Int)) (congrArg (fun y : Nat => Value.int .i64 (y : Int)) (by exact hmk)) ?_
    refine D.relist (L2 := [_,⟨tb,to,bytesV (l.take k) ++ cs.drop k⟩]) (by rw [htk,hmk]) ?_
    refine D.pure rfl (S.assign rfl) rfl ?_
    refine D.kp [(0,_),(4,_),(5,_),(6,_),(12,_)] rfl ?_
    exact ⟨k,rfl,rfl,by omega,by omega,by omega⟩
   refine O.still rfl (S.load 0 (k := 0) rfl rfl rfl Tryd.isAgg22) rfl ?_
   refine D.pure rfl (S.lenSl rfl Tryd.underlying22) rfl ?_
   refine D.alt ?_ ⟨?_,trivial⟩
   ·
    refine O.still rfl (S.load 0 (k := 0) rfl rfl rfl Tryd.isAgg22) rfl ?_
    refine D.seg (by decide) ?_
    refine W.still rfl (S.load 0 (k := 1) rfl rfl rfl Tryd.isAgg39) rfl ?_
    refine W.nil ?_
    refine D.one ?_
    refine O.loud1 rfl (X.call rfl Tryd.call43 (sizeAt_spec hsz calls _)) rfl ?_; rintro _ _ ⟨n,hn1,hn2,rfl,rfl⟩; refine D.relist (L2 := [_,_]) rfl ?_
    refine D.pure rfl (S.min2 rfl rfl) rfl ?_
    obtain ⟨q,hq⟩ : ∃ q,q = min n l.length := ⟨_,rfl⟩
    refine D.reslot (v := .int .i64 (q : Int)) (congrArg (Value.int .i64) (by split <;> omega)) ?_
    refine D.pure rfl (S.slH rfl rfl (by omega) Tryd.underlying22 Tryd.sizeOf5) rfl ?_
    refine D.reslot (v := .slice (some ⟨db,o,none⟩) (q) (c)) (slice_to (by simp [part]) rfl rfl) ?_
    refine D.one ?_
    refine O.loud1 rfl (X.copyB 1 (l := l.take q) rfl rfl rfl (by rw [List.length_take]; omega) (.inr ⟨db,o,rfl,(hp.takeK q).reads⟩) (by omega)) rfl ?_; rintro _ _ ⟨rfl,rfl⟩; refine D.relist (L2 := [_,_]) rfl ?_
    obtain ⟨k,hk⟩ : ∃ k,k = min q m := ⟨_,rfl⟩
    have hlq : (l.take q).length = q := by rw [List.length_take]; omega
    have hmk : Nat.min (l.take q).length m = k := by rw [hlq,hk]
    have htk : (l.take q).take m = l.take k := by rw [List.take_take,hk,Nat.min_comm]
    refine D.reslot (v := .int .i64 ((k : Nat) : Int)) (congrArg (fun y : Nat => Value.int .i64 (y : Int)) (by exact hmk)) ?_
    refine D.relist (L2 := [_,⟨tb,to,bytesV (l.take k) ++ cs.drop k⟩]) (by rw [htk,hmk]) ?_
    refine D.pure rfl (S.assign rfl) rfl ?_
    refine D.kp [(0,_),(4,_),(5,_),(6,_),(12,_)] rfl ?_
    exact ⟨k,rfl,rfl,by omega,by omega,by omega⟩
   refine O.still rfl (S.load 0 (k := 1) rfl rfl rfl Tryd.isAgg39) rfl ?_
   refine D.alt ?_ ⟨?_,trivial⟩
   ·
    refine O.still rfl (S.load 0 (k := 0) rfl rfl rfl Tryd.isAgg22) rfl ?_
    refine D.one ?_
    refine O.loud1 rfl (X.call rfl Tryd.call43 (sizeAt_spec hsz calls _)) rfl ?_; rintro _ _ ⟨n,hn1,hn2,rfl,rfl⟩; refine D.relist (L2 := [_,_]) rfl ?_
    refine D.pure rfl (S.min2 rfl rfl) rfl ?_
    obtain ⟨q,hq⟩ : ∃ q,q = min n l.length := ⟨_,rfl⟩
    refine D.reslot (v := .int .i64 (q : Int)) (congrArg (Value.int .i64) (by split <;> omega)) ?_
    refine D.pure rfl (S.slH rfl rfl (by omega) Tryd.underlying22 Tryd.sizeOf5) rfl ?_
    refine D.reslot (v := .slice (some ⟨db,o,none⟩) (q) (c)) (slice_to (by simp [part]) rfl rfl) ?_
    refine D.one ?_
    refine O.loud1 rfl (X.copyB 1 (l := l.take q) rfl rfl rfl (by rw [List.length_take]; omega) (.inr ⟨db,o,rfl,(hp.takeK q).reads⟩) (by omega)) rfl ?_; rintro _ _ ⟨rfl,rfl⟩; refine D.relist (L2 := [_,_]) rfl ?_
    obtain ⟨k,hk⟩ : ∃ k,k = min q m := ⟨_,rfl⟩
    have hlq : (l.take q).length = q := by rw [List.length_take]; omega
    have hmk : Nat.min (l.take q).length m = k := by rw [hlq,hk]
    have htk : (l.take q).take m = l.take k := by rw [List.take_take,hk,Nat.min_comm]
    refine D.reslot (v := .int .i64 ((k : Nat) : Int)) (congrArg (fun y : Nat => Value.int .i64 (y : Int)) (by exact hmk)) ?_
    refine D.relist (L2 := [_,⟨tb,to,bytesV (l.take k) ++ cs.drop k⟩]) (by rw [htk,hmk]) ?_
    refine D.pure rfl (S.assign rfl) rfl ?_
    refine D.kp [(0,_),(4,_),(5,_),(6,_),(12,_)] rfl ?_
    exact ⟨k,rfl,rfl,by omega,by omega,by omega⟩
   refine O.loud1 rfl (X.call rfl Tryd.call43 (sizeAt_spec hsz calls _)) rfl ?_; rintro _ _ ⟨n,hn1,hn2,rfl,rfl⟩; refine D.relist (L2 := [_,_]) rfl ?_
   refine D.pure rfl (S.min2 rfl rfl) rfl ?_
   obtain ⟨q,hq⟩ : ∃ q,q = min n l.length := ⟨_,rfl⟩
   refine D.reslot (v := .int .i64 (q : Int)) (congrArg (Value.int .i64) (by split <;> omega)) ?_
   refine D.seg (by decide) ?_
   refine W.still rfl (S.load 0 (k := 0) rfl rfl rfl Tryd.isAgg22) rfl ?_
   refine W.pure rfl (S.slH rfl rfl (by omega) Tryd.underlying22 Tryd.sizeOf5) rfl ?_
   refine W.reslot (v := .slice (some ⟨db,o,none⟩) (q) (c)) (slice_to (by simp [part]) rfl rfl) ?_
   refine W.nil ?_
   refine D.one ?_
   refine O.loud1 rfl (X.copyB 1 (l := l.take q) rfl rfl rfl (by rw [List.length_take]; omega) (.inr ⟨db,o,rfl,(hp.takeK q).reads⟩) (by omega)) rfl ?_; rintro _ _ ⟨rfl,rfl⟩; refine D.relist (L2 := [_,_]) rfl ?_
   obtain ⟨k,hk⟩ : ∃ k,k = min q m := ⟨_,rfl⟩
   have hlq : (l.take q).length = q := by rw [List.length_take]; omega
   have hmk : Nat.min (l.take q).length m = k := by rw [hlq,hk]
   have htk : (l.take q).take m = l.take k := by rw [List.take_take,hk,Nat.min_comm]
   refine D.reslot (v := .int .i64 ((k : Nat) : Int)) (congrArg (fun y : Nat => Value.int .i64 (y : Int)) (by exact hmk)) ?_
   refine D.relist (L2 := [_,⟨tb,to,bytesV (l.take k) ++ cs.drop k⟩]) (by rw [htk,hmk]) ?_
   refine D.pure rfl (S.assign rfl) rfl ?_
   refine D.kp [(0,_),(4,_),(5,_),(6,_),(12,_)] rfl ?_
   exact ⟨k,rfl,rfl,by omega,by omega,by omega⟩
  refine O.still rfl (S.load 0 (k := 0) rfl rfl rfl Tryd.isAgg22) rfl ?_
  refine D.pure rfl (S.lenSl rfl Tryd.underlying22) rfl ?_
  refine D.alt ?_ ⟨?_,⟨?_,trivial⟩⟩
  ·
   refine O.still rfl (S.load 0 (k := 0) rfl rfl rfl Tryd.isAgg22) rfl ?_
   refine D.seg (by decide) ?_
   refine W.still rfl (S.load 0 (k := 1) rfl rfl rfl Tryd.isAgg39) rfl ?_
   refine W.still rfl (S.load 0 (k := 2) rfl rfl rfl Tryd.isAgg3) rfl ?_
   refine W.nil ?_
   refine D.one ?_
   refine O.loud1 rfl (X.call rfl Tryd.call43 (sizeAt_spec hsz calls _)) rfl ?_; rintro _ _ ⟨n,hn1,hn2,rfl,rfl⟩; refine D.relist (L2 := [_,_]) rfl ?_
   refine D.pure rfl (S.min2 rfl rfl) rfl ?_
   obtain ⟨q,hq⟩ : ∃ q,q = min n l.length := ⟨_,rfl⟩
   refine D.reslot (v := .int .i64 (q : Int)) (congrArg (Value.int .i64) (by split <;> omega)) ?_
   refine D.pure rfl (S.slH rfl rfl (by omega) Tryd.underlying22 Tryd.sizeOf5) rfl ?_
   refine D.reslot (v := .slice (some ⟨db,o,none⟩) (q) (c)) (slice_to (by simp [part]) rfl rfl) ?_
   refine D.one ?_
   refine O.loud1 rfl (X.copyB 1 (l := l.take q) rfl rfl rfl (by rw [List.length_take]; omega) (.inr ⟨db,o,rfl,(hp.takeK q).reads⟩) (by omega)) rfl ?_; rintro _ _ ⟨rfl,rfl⟩; refine D.relist (L2 := [_,_]) rfl ?_
   obtain ⟨k,hk⟩ : ∃ k,k = min q m := ⟨_,rfl⟩
   have hlq : (l.take q).length = q := by rw [List.length_take]; omega
   have hmk : Nat.min (l.take q).length m = k := by rw [hlq,hk]
   have htk : (l.take q).take m = l.take k := by rw [List.take_take,hk,Nat.min_comm]
   refine D.reslot (v := .int .i64 ((k : Nat) : Int)) (congrArg (fun y : Nat => Value.int .i64 (y : Int)) (by exact hmk)) ?_
   refine D.relist (L2 := [_,⟨tb,to,bytesV (l.take k) ++ cs.drop k⟩]) (by rw [htk,hmk]) ?_
   refine D.pure rfl (S.assign rfl) rfl ?_
   refine D.kp [(0,_),(4,_),(5,_),(6,_),(12,_)] rfl ?_
   exact ⟨k,rfl,rfl,by omega,by omega,by omega⟩
  ·
   refine O.still rfl (S.load 0 (k := 1) rfl rfl rfl Tryd.isAgg39) rfl ?_
   refine D.alt ?_ ⟨?_,trivial⟩
   ·
    refine O.still rfl (S.load 0 (k := 0) rfl rfl rfl Tryd.isAgg22) rfl ?_
    refine D.seg (by decide) ?_
    refine W.still rfl (S.load 0 (k := 2) rfl rfl rfl Tryd.isAgg3) rfl ?_
    refine W.nil ?_
    refine D.one ?_
    refine O.loud1 rfl (X.call rfl Tryd.call43 (sizeAt_spec hsz calls _)) rfl ?_; rintro _ _ ⟨n,hn1,hn2,rfl,rfl⟩; refine D.relist (L2 := [_,_]) rfl ?_
    refine D.pure rfl (S.min2 rfl rfl) rfl ?_
    obtain ⟨q,hq⟩ : ∃ q,q = min n l.length := ⟨_,rfl⟩
    refine D.reslot (v := .int .i64 (q : Int)) (congrArg (Value.int .i64) (by split <;> omega)) ?_
    refine D.pure rfl (S.slH rfl rfl (by omega) Tryd.underlying22 Tryd.sizeOf5) rfl ?_
    refine D.reslot (v := .slice (some ⟨db,o,none⟩) (q) (c)) (slice_to (by simp [part]) rfl rfl) ?_
    refine D.one ?_
    refine O.loud1 rfl (X.copyB 1 (l := l.take q) rfl rfl rfl (by rw [List.length_take]; omega) (.inr ⟨db,o,rfl,(hp.takeK q).reads⟩) (by omega)) rfl ?_; rintro _ _ ⟨rfl,rfl⟩; refine D.relist (L2 := [_,_]) rfl ?_
    obtain ⟨k,hk⟩ : ∃ k,k = min q m := ⟨_,rfl⟩
    have hlq : (l.take q).length = q := by rw [List.length_take]; omega
    have hmk : Nat.min (l.take q).length m = k := by rw [hlq,hk]
    have htk : (l.take q).take m = l.take k := by rw [List.take_take,hk,Nat.min_comm]
    refine D.reslot (v := .int .i64 ((k : Nat) : Int)) (congrArg (fun y : Nat => Value.int .i64 (y : Int)) (by exact hmk)) ?_
    refine D.relist (L2 := [_,⟨tb,to,bytesV (l.take k) ++ cs.drop k⟩]) (by rw [htk,hmk]) ?_
    refine D.pure rfl (S.assign rfl) rfl ?_
    refine D.kp [(0,_),(4,_),(5,_),(6,_),(12,_)] rfl ?_
    exact ⟨k,rfl,rfl,by omega,by omega,by omega⟩
   refine O.still rfl (S.load 0 (k := 2) rfl rfl rfl Tryd.isAgg3) rfl ?_
   refine D.alt ?_ ⟨?_,trivial⟩
   ·
    refine O.still rfl (S.load 0 (k := 0) rfl rfl rfl Tryd.isAgg22) rfl ?_
    refine D.one ?_
    refine O.loud1 rfl (X.call rfl Tryd.call43 (sizeAt_spec hsz calls _)) rfl ?_; rintro _ _ ⟨n,hn1,hn2,rfl,rfl⟩; refine D.relist (L2 := [_,_]) rfl ?_
    refine D.pure rfl (S.min2 rfl rfl) rfl ?_
    obtain ⟨q,hq⟩ : ∃ q,q = min n l.length := ⟨_,rfl⟩
    refine D.reslot (v := .int .i64 (q : Int)) (congrArg (Value.int .i64) (by split <;> omega)) ?_
    refine D.pure rfl (S.slH rfl rfl (by omega) Tryd.underlying22 Tryd.sizeOf5) rfl ?_
    refine D.reslot (v := .slice (some ⟨db,o,none⟩) (q) (c)) (slice_to (by simp [part]) rfl rfl) ?_
    refine D.one ?_
    refine O.loud1 rfl (X.copyB 1 (l := l.take q) rfl rfl rfl (by rw [List.length_take]; omega) (.inr ⟨db,o,rfl,(hp.takeK q).reads⟩) (by omega)) rfl ?_; rintro _ _ ⟨rfl,rfl⟩; refine D.relist (L2 := [_,_]) rfl ?_
    obtain ⟨k,hk⟩ : ∃ k,k = min q m := ⟨_,rfl⟩
    have hlq : (l.take q).length = q := by rw [List.length_take]; omega
    have hmk : Nat.min (l.take q).length m = k := by rw [hlq,hk]
    have htk : (l.take q).take m = l.take k := by rw [List.take_take,hk,Nat.min_comm]
    refine D.reslot (v := .int .i64 ((k : Nat) : Int)) (congrArg (fun y : Nat => Value.int .i64 (y : Int)) (by exact hmk)) ?_
    refine D.relist (L2 := [_,⟨tb,to,bytesV (l.take k) ++ cs.drop k⟩]) (by rw [htk,hmk]) ?_
    refine D.pure rfl (S.assign rfl) rfl ?_
    refine D.kp [(0,_),(4,_),(5,_),(6,_),(12,_)] rfl ?_
    exact ⟨k,rfl,rfl,by omega,by omega,by omega⟩
   refine O.loud1 rfl (X.call rfl Tryd.call43 (sizeAt_spec hsz calls _)) rfl ?_; rintro _ _ ⟨n,hn1,hn2,rfl,rfl⟩; refine D.relist (L2 := [_,_]) rfl ?_
   refine D.pure rfl (S.min2 rfl rfl) rfl ?_
   obtain ⟨q,hq⟩ : ∃ q,q = min n l.length := ⟨_,rfl⟩
   refine D.reslot (v := .int .i64 (q : Int)) (congrArg (Value.int .i64) (by split <;> omega)) ?_
   refine D.seg (by decide) ?_
   refine W.still rfl (S.load 0 (k := 0) rfl rfl rfl Tryd.isAgg22) rfl ?_
   refine W.pure rfl (S.slH rfl rfl (by omega) Tryd.underlying22 Tryd.sizeOf5) rfl ?_
   refine W.reslot (v := .slice (some ⟨db,o,none⟩) (q) (c)) (slice_to (by simp [part]) rfl rfl) ?_
   refine W.nil ?_
   refine D.one ?_
   refine O.loud1 rfl (X.copyB 1 (l := l.take q) rfl rfl rfl (by rw [List.length_take]; omega) (.inr ⟨db,o,rfl,(hp.takeK q).reads⟩) (by omega)) rfl ?_; rintro _ _ ⟨rfl,rfl⟩; refine D.relist (L2 := [_,_]) rfl ?_
   obtain ⟨k,hk⟩ : ∃ k,k = min q m := ⟨_,rfl⟩
   have hlq : (l.take q).length = q := by rw [List.length_take]; omega
   have hmk : Nat.min (l.take q).length m = k := by rw [hlq,hk]
   have htk : (l.take q).take m = l.take k := by rw [List.take_take,hk,Nat.min_comm]
   refine D.reslot (v := .int .i64 ((k : Nat) : Int)) (congrArg (fun y : Nat => Value.int .i64 (y : Int)) (by exact hmk)) ?_
   refine D.relist (L2 := [_,⟨tb,to,bytesV (l.take k) ++ cs.drop k⟩]) (by rw [htk,hmk]) ?_
   refine D.pure rfl (S.assign rfl) rfl ?_
   refine D.kp [(0,_),(4,_),(5,_),(6,_),(12,_)] rfl ?_
   exact ⟨k,rfl,rfl,by omega,by omega,by omega⟩
  refine O.still rfl (S.load 0 (k := 2) rfl rfl rfl Tryd.isAgg3) rfl ?_
  refine D.alt ?_ ⟨?_,trivial⟩
  ·
   refine O.still rfl (S.load 0 (k := 0) rfl rfl rfl Tryd.isAgg22) rfl ?_
   refine D.seg (by decide) ?_
   refine W.still rfl (S.load 0 (k := 1) rfl rfl rfl Tryd.isAgg39) rfl ?_
   refine W.nil ?_
   refine D.one ?_
   refine O.loud1 rfl (X.call rfl Tryd.call43 (sizeAt_spec hsz calls _)) rfl ?_; rintro _ _ ⟨n,hn1,hn2,rfl,rfl⟩; refine D.relist (L2 := [_,_]) rfl ?_
   refine D.pure rfl (S.min2 rfl rfl) rfl ?_
   obtain ⟨q,hq⟩ : ∃ q,q = min n l.length := ⟨_,rfl⟩
   refine D.reslot (v := .int .i64 (q : Int)) (congrArg (Value.int .i64) (by split <;> omega)) ?_
   refine D.pure rfl (S.slH rfl rfl (by omega) Tryd.underlying22 Tryd.sizeOf5) rfl ?_
   refine D.reslot (v := .slice (some ⟨db,o,none⟩) (q) (c)) (slice_to (by simp [part]) rfl rfl) ?_
   refine D.one ?_
   refine O.loud1 rfl (X.copyB 1 (l := l.take q) rfl rfl rfl (by rw [List.length_take]; omega) (.inr ⟨db,o,rfl,(hp.takeK q).reads⟩) (by omega)) rfl ?_; rintro _ _ ⟨rfl,rfl⟩; refine D.relist (L2 := [_,_]) rfl ?_
   obtain ⟨k,hk⟩ : ∃ k,k = min q m := ⟨_,rfl⟩
   have hlq : (l.take q).length = q := by rw [List.length_take]; omega
   have hmk : Nat.min (l.take q).length m = k := by rw [hlq,hk]
   have htk : (l.take q).take m = l.take k := by rw [List.take_take,hk,Nat.min_comm]
   refine D.reslot (v := .int .i64 ((k : Nat) : Int)) (congrArg (fun y : Nat => Value.int .i64 (y : Int)) (by exact hmk)) ?_
   refine D.relist (L2 := [_,⟨tb,to,bytesV (l.take k) ++ cs.drop k⟩]) (by rw [htk,hmk]) ?_
   refine D.pure rfl (S.assign rfl) rfl ?_
   refine D.kp [(0,_),(4,_),(5,_),(6,_),(12,_)] rfl ?_
   exact ⟨k,rfl,rfl,by omega,by omega,by omega⟩
  refine O.still rfl (S.load 0 (k := 1) rfl rfl rfl Tryd.isAgg39) rfl ?_
  refine D.alt ?_ ⟨?_,trivial⟩
  ·
   refine O.still rfl (S.load 0 (k := 0) rfl rfl rfl Tryd.isAgg22) rfl ?_
   refine D.one ?_
   refine O.loud1 rfl (X.call rfl Tryd.call43 (sizeAt_spec hsz calls _)) rfl ?_; rintro _ _ ⟨n,hn1,hn2,rfl,rfl⟩; refine D.relist (L2 := [_,_]) rfl ?_
   refine D.pure rfl (S.min2 rfl rfl) rfl ?_
   obtain ⟨q,hq⟩ : ∃ q,q = min n l.length := ⟨_,rfl⟩
   refine D.reslot (v := .int .i64 (q : Int)) (congrArg (Value.int .i64) (by split <;> omega)) ?_
   refine D.pure rfl (S.slH rfl rfl (by omega) Tryd.underlying22 Tryd.sizeOf5) rfl ?_
   refine D.reslot (v := .slice (some ⟨db,o,none⟩) (q) (c)) (slice_to (by simp [part]) rfl rfl) ?_
   refine D.one ?_
   refine O.loud1 rfl (X.copyB 1 (l := l.take q) rfl rfl rfl (by rw [List.length_take]; omega) (.inr ⟨db,o,rfl,(hp.takeK q).reads⟩) (by omega)) rfl ?_; rintro _ _ ⟨rfl,rfl⟩; refine D.relist (L2 := [_,_]) rfl ?_
   obtain ⟨k,hk⟩ : ∃ k,k = min q m := ⟨_,rfl⟩
   have hlq : (l.take q).length = q := by rw [List.length_take]; omega
   have hmk : Nat.min (l.take q).length m = k := by rw [hlq,hk]
   have htk : (l.take q).take m = l.take k := by rw [List.take_take,hk,Nat.min_comm]
   refine D.reslot (v := .int .i64 ((k : Nat) : Int)) (congrArg (fun y : Nat => Value.int .i64 (y : Int)) (by exact hmk)) ?_
   refine D.relist (L2 := [_,⟨tb,to,bytesV (l.take k) ++ cs.drop k⟩]) (by rw [htk,hmk]) ?_
   refine D.pure rfl (S.assign rfl) rfl ?_
   refine D.kp [(0,_),(4,_),(5,_),(6,_),(12,_)] rfl ?_
   exact ⟨k,rfl,rfl,by omega,by omega,by omega⟩
  refine O.loud1 rfl (X.call rfl Tryd.call43 (sizeAt_spec hsz calls _)) rfl ?_; rintro _ _ ⟨n,hn1,hn2,rfl,rfl⟩; refine D.relist (L2 := [_,_]) rfl ?_
  refine D.pure rfl (S.min2 rfl rfl) rfl ?_
  obtain ⟨q,hq⟩ : ∃ q,q = min n l.length := ⟨_,rfl⟩
  refine D.reslot (v := .int .i64 (q : Int)) (congrArg (Value.int .i64) (by split <;> omega)) ?_
  refine D.seg (by decide) ?_
  refine W.still rfl (S.load 0 (k := 0) rfl rfl rfl Tryd.isAgg22) rfl ?_
  refine W.pure rfl (S.slH rfl rfl (by omega) Tryd.underlying22 Tryd.sizeOf5) rfl ?_
  refine W.reslot (v := .slice (some ⟨db,o,none⟩) (q) (c)) (slice_to (by simp [part]) rfl rfl) ?_
  refine W.nil ?_
  refine D.one ?_
  refine O.loud1 rfl (X.copyB 1 (l := l.take q) rfl rfl rfl (by rw [List.length_take]; omega) (.inr ⟨db,o,rfl,(hp.takeK q).reads⟩) (by omega)) rfl ?_; rintro _ _ ⟨rfl,rfl⟩; refine D.relist (L2 := [_,_]) rfl ?_
  obtain ⟨k,hk⟩ : ∃ k,k = min q m := ⟨_,rfl⟩
  have hlq : (l.take q).length = q := by rw [List.length_take]; omega
  have hmk : Nat.min (l.take q).length m = k := by rw [hlq,hk]
  have htk : (l.take q).take m = l.take k := by rw [List.take_take,hk,Nat.min_comm]
  refine D.reslot (v := .int .i64 ((k : Nat) : Int)) (congrArg (fun y : Nat => Value.int .i64 (y : Int)) (by exact hmk)) ?_
  refine D.relist (L2 := [_,⟨tb,to,bytesV (l.take k) ++ cs.drop k⟩]) (by rw [htk,hmk]) ?_
  refine D.pure rfl (S.assign rfl) rfl ?_
  refine D.kp [(0,_),(4,_),(5,_),(6,_),(12,_)] rfl ?_
  exact ⟨k,rfl,rfl,by omega,by omega,by omega⟩
 rintro _ _ ⟨k,hq4,rfl,hk1,hk2,hk3⟩
 refine C.weaken _ hq4 ?_
 refine C.sr ?_
 refine E.pure (S.move rfl) rfl ?_
 refine E.pure (S.nilPtr rfl) rfl ?_
 refine E.pure (S.field rfl fa87_2) rfl ?_
 refine E.still (S.load 0 (k := 2) rfl rfl rfl Tryd.isAgg3) rfl ?_
 refine E.pure (S.add (b := ((1 : Nat) : Int)) rfl rfl (N.add64 (by omega))) rfl ?_
 refine E.pure (S.nilPtr rfl) rfl ?_
 refine E.pure (S.field rfl fa87_2) rfl ?_
 refine E.loud0 (X.store 0 (k := 2) rfl rfl rfl rfl rfl Tryd.sizeOf3) ?_; rintro _ _ ⟨rfl,rfl⟩; refine E.relist (L2 := [_,_]) rfl ?_
 refine E.kp [(0,_),(6,_)] rfl ?_
 refine C.sr ?_
 refine E.pure (S.move rfl) rfl ?_
 refine E.pure (S.move rfl) rfl ?_
 refine E.pure (S.nilPtr rfl) rfl ?_
 refine E.pure (S.field rfl fa87_0) rfl ?_
 refine E.still (S.load 0 (k := 0) rfl rfl rfl Tryd.isAgg22) rfl ?_
 refine E.pure (S.move rfl) rfl ?_
 refine E.pure (S.slL rfl rfl (by omega) Tryd.underlying22 Tryd.sizeOf5) rfl ?_
 refine E.pure (S.nilPtr rfl) rfl ?_
 refine E.pure (S.field rfl fa87_0) rfl ?_
 refine E.loud0 (X.store 0 (k := 0) rfl rfl rfl rfl rfl Tryd.sizeOf22) ?_; rintro _ _ ⟨rfl,rfl⟩; refine E.relist (L2 := [_,_]) rfl ?_
 refine E.kp [(0,_),(6,_)] rfl ?_
 refine C.sr ?_
 refine E.pure (S.move rfl) rfl ?_
 refine E.pure (S.assign rfl) rfl ?_
 refine E.pure (S.assign (v := Er.val ea .none) rfl) rfl ?_
 refine E.kp [(0,_),(4,_),(5,_),(6,_)] rfl ?_
 refine C.ret ?_
 exact ⟨_,_,rfl,rfl,k,hk1,hk2,hk3,rfl,rfl⟩
theorem source_spec {K : Known} {ea : Fin 5 → Addr} (hs : Sents K ea) (sb : Nat) {sv dv : Value} (hsz : SzA K sv) (calls : Nat) (hcl : calls ≤ 4611686018427387904) (tb to m mc : Nat) (cs : List Value) (hm : m = cs.length) (hm0 : 0 < m) (data : List UInt8) (db o : Nat) (hp : data = [] ∨ KB K db o data) (l : List UInt8) (hlm : l.length ≤ 4611686018427387904) (hd : SrcSh data db o dv l) :
    Fn Tryd.prog K 110 #[.pointer (some ⟨sb,0,none⟩),.slice (some ⟨tb,to,none⟩) (m) (mc)] [⟨sb,0,[dv,sv,.int .i64 ((calls : Nat) : Int)]⟩,⟨tb,to,cs⟩] fun r L => ∃ k dv2 calls2,(l ≠ [] → 0 < k) ∧ k ≤ m ∧ k ≤ l.length ∧ SrcSh data db o dv2 (l.drop k) ∧ calls2 + (l.drop k).length ≤ calls + l.length ∧ r = .tuple #[.int .i64 ((k : Nat) : Int),Er.val ea (rdErr l)] ∧ L = [⟨sb,0,[dv2,sv,.int .i64 ((calls2 : Nat) : Int)]⟩,⟨tb,to,bytesV (l.take k) ++ cs.drop k⟩] := by
  obtain ⟨i,a,c,hi,rfl,h⟩ := hd
  by_cases h0 : l = []
  · subst h0
    exact Fn.mono (source_end hs sb sv calls tb to m mc cs a c) fun r L h => ⟨0,.slice a 0 c,calls,fun h => absurd rfl h,Nat.zero_le _,Nat.zero_le _,⟨i,a,c,hi,rfl,.inl rfl⟩,Nat.le_refl _,h.1,h.2⟩
  · obtain ⟨rfl,hlc⟩ := h.resolve_left h0
    have hp2 := (hp.resolve_left (fun hd => h0 (by rw [hi,hd,List.drop_nil]))).dropK i
    rw [← hi] at hp2
    have hl0 := List.length_pos_iff.2 h0
    refine Fn.mono (source_next hs sb sv calls tb to m mc cs hsz hcl hm hm0 db (o + i) c l hl0 hlc hlm hp2) fun r L h => ?_
    obtain ⟨k,h1,h2,h3,rfl,rfl⟩ := h
    have hr : rdErr l = .none := by cases l with | nil => exact absurd rfl h0 | cons _ _ => rfl
    refine ⟨k,_,calls + 1,fun _ => h1,h2,h3,⟨i + k,some ⟨db,part (o + i) k c 1,none⟩,c - k,by rw [hi,List.drop_drop],by rw [List.length_drop],?_⟩,by rw [List.length_drop]; omega,by rw [hr],rfl⟩
    rcases Nat.lt_or_ge k l.length with h4 | h4
    · exact .inr ⟨by rw [part,if_neg (by omega),Nat.mul_one,Nat.add_assoc],by rw [List.length_drop]; omega⟩
    · exact .inl (List.drop_eq_nil_of_le h4)

end Go.Eng
