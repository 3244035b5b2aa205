/-
  Walks of the thin package: headerOf, Open.
-/
import Derived.Test.YtbjbmpcgiokdaaaDoorWGz4
set_option linter.unusedVariables false
set_option linter.unusedSimpArgs false
namespace Go.Eng
open Go Go.Proofs
set_option maxRecDepth 100000

/-- The extra field as it is handed out. -/
def ExOut (ex : Option (List UInt8)) (v : Value) (g : Frag) : Prop := match ex with
  | none => v = .slice none 0 0
  | some d => Own d v g
theorem exOut_one {ex : Option (List UInt8)} {v : Value} {g : Frag} (h : ExOut ex v g) : one v = true := by
  cases ex with
  | none => have h' : v = _ := h; rw [h']; rfl
  | some d => obtain ⟨b, o, c, cs, rfl, _⟩ := h; rfl

theorem headerOf_none {K : Known} (h : Hd) (hm : h.mod < 4294967296)  : Fn Tryd.prog K 28 #[.agg #[.string h.comment, .slice (none) 0 0, .int .u64 0, .int .i64 (timeV h.mod), .string h.name, .int .u8 ((h.os : Nat) : Int)]] [] (fun r L => r = .agg #[.string h.name, .string h.comment, .slice none 0 0, .int .i64 ((h.mod : Nat) : Int), .int .u8 ((h.os : Nat) : Int)]) := by
  refine Fn.intro (args := [.agg #[.string h.comment, .slice (none) 0 0, .int .u64 0, .int .i64 (timeV h.mod), .string h.name, .int .u8 ((h.os : Nat) : Int)]]) (RR := RetC 2 5  _) Tryd.func28 rfl rfl Tryd.ntmps28 (resC Tryd.results28 Tryd.isAgg27 Tryd.sizeOf27) ?_
  refine C.reenv (env2 := [(0, .agg #[.string h.comment, .slice (none) 0 0, .int .u64 0, .int .i64 (timeV h.mod), .string h.name, .int .u8 ((h.os : Nat) : Int)])]) rfl ?_
  refine C.seq ?_
  refine C.region ?_
  refine E.loud1 (X.box rfl) rfl ?_; rintro _ _ ⟨b1, rfl, rfl⟩; refine E.relist (L2 := [_]) rfl ?_
  refine E.loud1 (X.alloc Tryd.zeroValue27) rfl ?_; rintro _ _ ⟨b2, rfl, rfl⟩; refine E.relist (L2 := [_, _]) rfl ?_
  refine E.keep [1, 2] (env1 := [(1, _), (2, _)]) rfl ?_
  refine C.seq ?_
  refine C.known ?_
  intro K2 hK2 hc2
  refine C.draw [0, 1, 0, 4, 0, 16, 32, 0, 128, 330, 0, 2047] (.pure 0 1532 (.pure 1 1533 (.pure 2 1523 (.pure 3 1527 (.pure 4 1423 (.pure 5 1439 (.pure 7 1151 (.pure 8 1279 (.alt 6 (.pure 9 1535 (.alt 10 (.alt 11 .done .stop) .stop)) (.alt 10 (.alt 6 (.pure 9 1535 (.alt 11 .done .stop)) .stop) .stop)))))))))) mixed (by decide +kernel) ?_
  refine D.pure rfl (S.field rfl fa69_3) rfl ?_
  refine D.known rfl (loadBaseK rfl (hc2 ⟨b1, 0, _⟩ (.tail _ (.head _)) 4 _ rfl) Tryd.isAgg9) rfl ?_
  refine D.pure rfl (S.field rfl fa69_0) rfl ?_
  refine D.known rfl (loadBaseK rfl (hc2 ⟨b1, 0, _⟩ (.tail _ (.head _)) 0 _ rfl) Tryd.isAgg9) rfl ?_
  refine D.pure rfl (S.field rfl fa69_1) rfl ?_
  refine D.known rfl (loadBaseK rfl (hc2 ⟨b1, 0, _⟩ (.tail _ (.head _)) 1 _ rfl) Tryd.isAgg22) rfl ?_
  refine D.pure rfl (S.field rfl fa69_4) rfl ?_
  refine D.known rfl (loadBaseK rfl (hc2 ⟨b1, 0, _⟩ (.tail _ (.head _)) 5 _ rfl) Tryd.isAgg5) rfl ?_
  refine D.alt ?_ ⟨?_, trivial⟩
  ·
    refine O.loud1 rfl (OpX.pick [] (F := []) rfl (X.call rfl Tryd.call24 clone_nil)) rfl ?_; rintro _ _ ⟨_, ⟨rfl, rfl⟩, rfl⟩; refine D.relist (L2 := []) rfl ?_
    refine D.pure rfl (S.buildV (v := .agg #[.string h.name, .string h.comment, .slice none 0 0, .int .i64 0, .int .u8 ((h.os : Nat) : Int)]) [(0, .string h.name), (1, .string h.comment), (2, .slice none 0 0), (4, .int .u8 ((h.os : Nat) : Int))] rfl (fun w => by simp [Instr.build, Instr.fill, Value.cells, Tryd.zeroValue27])) rfl ?_
    refine D.one ?_
    refine O.loud1 rfl (X.alloc Tryd.zeroValue27) rfl ?_; rintro _ _ ⟨b3, rfl, rfl⟩; refine D.relist (L2 := [_]) rfl ?_
    refine D.one ?_
    refine O.loud0 rfl (X.storeA 0 (k := 0) rfl rfl rfl rfl rfl rfl Tryd.sizeOf27 rfl) ?_; rintro _ _ ⟨rfl, rfl⟩; refine D.relist (L2 := [_]) rfl ?_
    refine D.keep [1, 2, 3] (env1 := [(1, _), (2, _), (3, _)]) rfl ?_
    refine C.relist (L2 := [_, _, _]) rfl ?_
    refine C.seq ?_
    refine C.seq ?_
    refine C.region ?_
    refine E.pure (S.field rfl fa69_2) rfl ?_
    refine E.still (S.loadA 2 (k := 2) rfl rfl rfl rfl Tryd.isAgg67 Tryd.sizeOf67) rfl ?_
    refine E.loud1 (OpX.pick [] (F := [_, _, _]) rfl (X.call rfl Tryd.call40 (isZero_spec (timeN h.mod)))) rfl ?_; rintro _ _ ⟨_, ⟨_, rfl, rfl⟩, rfl⟩; refine E.relist (L2 := [_, _, _, _]) rfl ?_
    refine E.pure (S.notB rfl) rfl ?_
    refine E.keep [1, 2, 3, 17] (env1 := [(1, _), (2, _), (3, _), (17, _)]) rfl ?_
    first | refine C.ifp rfl (fun h17 => ?_) (fun h17 => ?_) | refine C.cond rfl (fun h17 => ?_) (fun h17 => ?_)
    ·
      have hz : h.mod ≠ 0 := by
        intro hz
        rw [timeN, if_pos hz] at h17
        simp at h17
      refine C.region ?_
      refine E.pure (S.field rfl fa69_2) rfl ?_
      refine E.still (S.loadA 3 (k := 2) rfl rfl rfl rfl Tryd.isAgg67 Tryd.sizeOf67) rfl ?_
      refine E.reslot (v := .agg #[.int .u64 0, .int .i64 ((h.mod + 62135596800 : Nat) : Int)]) (by show Value.agg #[.int .u64 0, .int .i64 (timeV h.mod)] = _; rw [timeV, timeN, if_neg hz]) ?_
      refine E.loud1 (OpX.pick [] (F := [_, _, _, _]) rfl (X.call rfl Tryd.call41 (timeUnix_spec h.mod (by omega)))) rfl ?_; rintro _ _ ⟨_, ⟨_, rfl, rfl⟩, rfl⟩; refine E.relist (L2 := [_, _, _, _, _]) rfl ?_
      refine E.pure (S.field rfl fa27_3) rfl ?_
      refine E.loud0 (X.store 2 (k := 3) rfl rfl rfl rfl rfl Tryd.sizeOf2) ?_; rintro _ _ ⟨rfl, rfl⟩; refine E.relist (L2 := [_, _, _, _, _]) rfl ?_
      refine E.keep [1, 2, 3, 17] (env1 := [(1, _), (2, _), (3, _), (17, _)]) rfl ?_
      refine C.seq ?_
      refine C.region ?_
      refine E.still (S.loadA 2 (k := 0) rfl rfl rfl rfl Tryd.isAgg27 Tryd.sizeOf27) rfl ?_
      refine E.loud0 (X.storeA 3 (k := 0) rfl rfl rfl rfl rfl rfl Tryd.sizeOf27 rfl) ?_; rintro _ _ ⟨rfl, rfl⟩; refine E.relist (L2 := [_, _, _, _, _]) rfl ?_
      refine E.keep [1, 2, 3, 17] (env1 := [(1, _), (2, _), (3, _), (17, _)]) rfl ?_
      refine C.ret ?_
      refine ⟨_, ⟨_, _, 3, rfl, rfl, rfl⟩, rfl⟩
    ·
      have hz : h.mod = 0 := by
        unfold timeN at h17
        split at h17
        · assumption
        · simp at h17
      refine C.skip ?_
      refine C.seq ?_
      refine C.region ?_
      refine E.still (S.loadA 1 (k := 0) rfl rfl rfl rfl Tryd.isAgg27 Tryd.sizeOf27) rfl ?_
      refine E.loud0 (X.storeA 2 (k := 0) rfl rfl rfl rfl rfl rfl Tryd.sizeOf27 rfl) ?_; rintro _ _ ⟨rfl, rfl⟩; refine E.relist (L2 := [_, _, _, _]) rfl ?_
      refine E.keep [1, 2, 3, 17] (env1 := [(1, _), (2, _), (3, _), (17, _)]) rfl ?_
      refine C.ret ?_
      refine ⟨_, ⟨_, _, 2, rfl, rfl, rfl⟩, (by rw [hz]; rfl)⟩
  ·
    refine O.loud1 rfl (X.alloc Tryd.zeroValue27) rfl ?_; rintro _ _ ⟨b3, rfl, rfl⟩; refine D.relist (L2 := [_]) rfl ?_
    refine D.one ?_
    refine O.loud1 rfl (OpX.pick [] (F := [_]) rfl (X.call rfl Tryd.call24 clone_nil)) rfl ?_; rintro _ _ ⟨_, ⟨rfl, rfl⟩, rfl⟩; refine D.relist (L2 := [_]) rfl ?_
    refine D.pure rfl (S.buildV (v := .agg #[.string h.name, .string h.comment, .slice none 0 0, .int .i64 0, .int .u8 ((h.os : Nat) : Int)]) [(0, .string h.name), (1, .string h.comment), (2, .slice none 0 0), (4, .int .u8 ((h.os : Nat) : Int))] rfl (fun w => by simp [Instr.build, Instr.fill, Value.cells, Tryd.zeroValue27])) rfl ?_
    refine D.one ?_
    refine O.loud0 rfl (X.storeA 0 (k := 0) rfl rfl rfl rfl rfl rfl Tryd.sizeOf27 rfl) ?_; rintro _ _ ⟨rfl, rfl⟩; refine D.relist (L2 := [_]) rfl ?_
    refine D.keep [1, 2, 3] (env1 := [(1, _), (2, _), (3, _)]) rfl ?_
    refine C.relist (L2 := [_, _, _]) rfl ?_
    refine C.seq ?_
    refine C.seq ?_
    refine C.region ?_
    refine E.pure (S.field rfl fa69_2) rfl ?_
    refine E.still (S.loadA 2 (k := 2) rfl rfl rfl rfl Tryd.isAgg67 Tryd.sizeOf67) rfl ?_
    refine E.loud1 (OpX.pick [] (F := [_, _, _]) rfl (X.call rfl Tryd.call40 (isZero_spec (timeN h.mod)))) rfl ?_; rintro _ _ ⟨_, ⟨_, rfl, rfl⟩, rfl⟩; refine E.relist (L2 := [_, _, _, _]) rfl ?_
    refine E.pure (S.notB rfl) rfl ?_
    refine E.keep [1, 2, 3, 17] (env1 := [(1, _), (2, _), (3, _), (17, _)]) rfl ?_
    first | refine C.ifp rfl (fun h17 => ?_) (fun h17 => ?_) | refine C.cond rfl (fun h17 => ?_) (fun h17 => ?_)
    ·
      have hz : h.mod ≠ 0 := by
        intro hz
        rw [timeN, if_pos hz] at h17
        simp at h17
      refine C.region ?_
      refine E.pure (S.field rfl fa69_2) rfl ?_
      refine E.still (S.loadA 3 (k := 2) rfl rfl rfl rfl Tryd.isAgg67 Tryd.sizeOf67) rfl ?_
      refine E.reslot (v := .agg #[.int .u64 0, .int .i64 ((h.mod + 62135596800 : Nat) : Int)]) (by show Value.agg #[.int .u64 0, .int .i64 (timeV h.mod)] = _; rw [timeV, timeN, if_neg hz]) ?_
      refine E.loud1 (OpX.pick [] (F := [_, _, _, _]) rfl (X.call rfl Tryd.call41 (timeUnix_spec h.mod (by omega)))) rfl ?_; rintro _ _ ⟨_, ⟨_, rfl, rfl⟩, rfl⟩; refine E.relist (L2 := [_, _, _, _, _]) rfl ?_
      refine E.pure (S.field rfl fa27_3) rfl ?_
      refine E.loud0 (X.store 2 (k := 3) rfl rfl rfl rfl rfl Tryd.sizeOf2) ?_; rintro _ _ ⟨rfl, rfl⟩; refine E.relist (L2 := [_, _, _, _, _]) rfl ?_
      refine E.keep [1, 2, 3, 17] (env1 := [(1, _), (2, _), (3, _), (17, _)]) rfl ?_
      refine C.seq ?_
      refine C.region ?_
      refine E.still (S.loadA 2 (k := 0) rfl rfl rfl rfl Tryd.isAgg27 Tryd.sizeOf27) rfl ?_
      refine E.loud0 (X.storeA 3 (k := 0) rfl rfl rfl rfl rfl rfl Tryd.sizeOf27 rfl) ?_; rintro _ _ ⟨rfl, rfl⟩; refine E.relist (L2 := [_, _, _, _, _]) rfl ?_
      refine E.keep [1, 2, 3, 17] (env1 := [(1, _), (2, _), (3, _), (17, _)]) rfl ?_
      refine C.ret ?_
      refine ⟨_, ⟨_, _, 3, rfl, rfl, rfl⟩, rfl⟩
    ·
      have hz : h.mod = 0 := by
        unfold timeN at h17
        split at h17
        · assumption
        · simp at h17
      refine C.skip ?_
      refine C.seq ?_
      refine C.region ?_
      refine E.still (S.loadA 1 (k := 0) rfl rfl rfl rfl Tryd.isAgg27 Tryd.sizeOf27) rfl ?_
      refine E.loud0 (X.storeA 2 (k := 0) rfl rfl rfl rfl rfl rfl Tryd.sizeOf27 rfl) ?_; rintro _ _ ⟨rfl, rfl⟩; refine E.relist (L2 := [_, _, _, _]) rfl ?_
      refine E.keep [1, 2, 3, 17] (env1 := [(1, _), (2, _), (3, _), (17, _)]) rfl ?_
      refine C.ret ?_
      refine ⟨_, ⟨_, _, 2, rfl, rfl, rfl⟩, (by rw [hz]; rfl)⟩
theorem headerOf_some {K : Known} (h : Hd) (hm : h.mod < 4294967296) (eb : Nat) (d : List UInt8) (hd : d.length < 65536) : Fn Tryd.prog K 28 #[.agg #[.string h.comment, .slice (some ⟨eb, 0, none⟩) d.length d.length, .int .u64 0, .int .i64 (timeV h.mod), .string h.name, .int .u8 ((h.os : Nat) : Int)]] [⟨eb, 0, bytesV d⟩] (fun r L => ∃ v g, Own d v g ∧ g ∈ L ∧ r = .agg #[.string h.name, .string h.comment, v, .int .i64 ((h.mod : Nat) : Int), .int .u8 ((h.os : Nat) : Int)]) := by
  refine Fn.intro (args := [.agg #[.string h.comment, .slice (some ⟨eb, 0, none⟩) d.length d.length, .int .u64 0, .int .i64 (timeV h.mod), .string h.name, .int .u8 ((h.os : Nat) : Int)]]) (RR := RetC 2 5  _) Tryd.func28 rfl rfl Tryd.ntmps28 (resC Tryd.results28 Tryd.isAgg27 Tryd.sizeOf27) ?_
  refine C.reenv (env2 := [(0, .agg #[.string h.comment, .slice (some ⟨eb, 0, none⟩) d.length d.length, .int .u64 0, .int .i64 (timeV h.mod), .string h.name, .int .u8 ((h.os : Nat) : Int)])]) rfl ?_
  refine C.seq ?_
  refine C.region ?_
  refine E.loud1 (X.box rfl) rfl ?_; rintro _ _ ⟨b1, rfl, rfl⟩; refine E.relist (L2 := [_, _]) rfl ?_
  refine E.loud1 (X.alloc Tryd.zeroValue27) rfl ?_; rintro _ _ ⟨b2, rfl, rfl⟩; refine E.relist (L2 := [_, _, _]) rfl ?_
  refine E.keep [1, 2] (env1 := [(1, _), (2, _)]) rfl ?_
  refine C.seq ?_
  refine C.known ?_
  intro K2 hK2 hc2
  have hKB : KB K2 eb 0 d := fun j hj => hc2 ⟨eb, 0, bytesV d⟩ (.tail _ (.tail _ (.head _))) j _ (bytesV_get hj)
  refine C.draw [0, 1, 0, 4, 0, 16, 32, 0, 128, 330, 0, 2047] (.pure 0 1532 (.pure 1 1533 (.pure 2 1523 (.pure 3 1527 (.pure 4 1423 (.pure 5 1439 (.pure 7 1151 (.pure 8 1279 (.alt 6 (.pure 9 1535 (.alt 10 (.alt 11 .done .stop) .stop)) (.alt 10 (.alt 6 (.pure 9 1535 (.alt 11 .done .stop)) .stop) .stop)))))))))) mixed (by decide +kernel) ?_
  refine D.pure rfl (S.field rfl fa69_3) rfl ?_
  refine D.known rfl (loadBaseK rfl (hc2 ⟨b1, 0, _⟩ (.tail _ (.head _)) 4 _ rfl) Tryd.isAgg9) rfl ?_
  refine D.pure rfl (S.field rfl fa69_0) rfl ?_
  refine D.known rfl (loadBaseK rfl (hc2 ⟨b1, 0, _⟩ (.tail _ (.head _)) 0 _ rfl) Tryd.isAgg9) rfl ?_
  refine D.pure rfl (S.field rfl fa69_1) rfl ?_
  refine D.known rfl (loadBaseK rfl (hc2 ⟨b1, 0, _⟩ (.tail _ (.head _)) 1 _ rfl) Tryd.isAgg22) rfl ?_
  refine D.pure rfl (S.field rfl fa69_4) rfl ?_
  refine D.known rfl (loadBaseK rfl (hc2 ⟨b1, 0, _⟩ (.tail _ (.head _)) 5 _ rfl) Tryd.isAgg5) rfl ?_
  refine D.alt ?_ ⟨?_, trivial⟩
  ·
    refine O.loud1 rfl (X.call rfl Tryd.call24 (clone_spec eb 0 d.length d hKB.reads (by omega))) rfl ?_; rintro _ _ ⟨g, ⟨cb, co, cc, cs, rfl, rfl, hcc⟩, rfl⟩; refine D.relist (L2 := [_]) rfl ?_
    refine D.pure rfl (S.buildV (v := .agg #[.string h.name, .string h.comment, .slice (some ⟨cb, co, none⟩) d.length cc, .int .i64 0, .int .u8 ((h.os : Nat) : Int)]) [(0, .string h.name), (1, .string h.comment), (2, .slice (some ⟨cb, co, none⟩) d.length cc), (4, .int .u8 ((h.os : Nat) : Int))] rfl (fun w => by simp [Instr.build, Instr.fill, Value.cells, Tryd.zeroValue27])) rfl ?_
    refine D.one ?_
    refine O.loud1 rfl (X.alloc Tryd.zeroValue27) rfl ?_; rintro _ _ ⟨b3, rfl, rfl⟩; refine D.relist (L2 := [_, _]) rfl ?_
    refine D.one ?_
    refine O.loud0 rfl (X.storeA 0 (k := 0) rfl rfl rfl rfl rfl rfl Tryd.sizeOf27 rfl) ?_; rintro _ _ ⟨rfl, rfl⟩; refine D.relist (L2 := [_, _]) rfl ?_
    refine D.keep [1, 2, 3] (env1 := [(1, _), (2, _), (3, _)]) rfl ?_
    refine C.relist (L2 := [_, _, _, _, _]) rfl ?_
    refine C.seq ?_
    refine C.seq ?_
    refine C.region ?_
    refine E.pure (S.field rfl fa69_2) rfl ?_
    refine E.still (S.loadA 3 (k := 2) rfl rfl rfl rfl Tryd.isAgg67 Tryd.sizeOf67) rfl ?_
    refine E.loud1 (OpX.pick [] (F := [_, _, _, _, _]) rfl (X.call rfl Tryd.call40 (isZero_spec (timeN h.mod)))) rfl ?_; rintro _ _ ⟨_, ⟨_, rfl, rfl⟩, rfl⟩; refine E.relist (L2 := [_, _, _, _, _, _]) rfl ?_
    refine E.pure (S.notB rfl) rfl ?_
    refine E.keep [1, 2, 3, 17] (env1 := [(1, _), (2, _), (3, _), (17, _)]) rfl ?_
    first | refine C.ifp rfl (fun h17 => ?_) (fun h17 => ?_) | refine C.cond rfl (fun h17 => ?_) (fun h17 => ?_)
    ·
      have hz : h.mod ≠ 0 := by
        intro hz
        rw [timeN, if_pos hz] at h17
        simp at h17
      refine C.region ?_
      refine E.pure (S.field rfl fa69_2) rfl ?_
      refine E.still (S.loadA 4 (k := 2) rfl rfl rfl rfl Tryd.isAgg67 Tryd.sizeOf67) rfl ?_
      refine E.reslot (v := .agg #[.int .u64 0, .int .i64 ((h.mod + 62135596800 : Nat) : Int)]) (by show Value.agg #[.int .u64 0, .int .i64 (timeV h.mod)] = _; rw [timeV, timeN, if_neg hz]) ?_
      refine E.loud1 (OpX.pick [] (F := [_, _, _, _, _, _]) rfl (X.call rfl Tryd.call41 (timeUnix_spec h.mod (by omega)))) rfl ?_; rintro _ _ ⟨_, ⟨_, rfl, rfl⟩, rfl⟩; refine E.relist (L2 := [_, _, _, _, _, _, _]) rfl ?_
      refine E.pure (S.field rfl fa27_3) rfl ?_
      refine E.loud0 (X.store 2 (k := 3) rfl rfl rfl rfl rfl Tryd.sizeOf2) ?_; rintro _ _ ⟨rfl, rfl⟩; refine E.relist (L2 := [_, _, _, _, _, _, _]) rfl ?_
      refine E.keep [1, 2, 3, 17] (env1 := [(1, _), (2, _), (3, _), (17, _)]) rfl ?_
      refine C.seq ?_
      refine C.region ?_
      refine E.still (S.loadA 2 (k := 0) rfl rfl rfl rfl Tryd.isAgg27 Tryd.sizeOf27) rfl ?_
      refine E.loud0 (X.storeA 4 (k := 0) rfl rfl rfl rfl rfl rfl Tryd.sizeOf27 rfl) ?_; rintro _ _ ⟨rfl, rfl⟩; refine E.relist (L2 := [_, _, _, _, _, _, _]) rfl ?_
      refine E.keep [1, 2, 3, 17] (env1 := [(1, _), (2, _), (3, _), (17, _)]) rfl ?_
      refine C.ret ?_
      refine ⟨_, ⟨_, _, 4, rfl, rfl, rfl⟩, _, ⟨cb, co, bytesV d ++ cs⟩, ⟨cb, co, cc, cs, rfl, rfl, hcc⟩, by simp, rfl⟩
    ·
      have hz : h.mod = 0 := by
        unfold timeN at h17
        split at h17
        · assumption
        · simp at h17
      refine C.skip ?_
      refine C.seq ?_
      refine C.region ?_
      refine E.still (S.loadA 1 (k := 0) rfl rfl rfl rfl Tryd.isAgg27 Tryd.sizeOf27) rfl ?_
      refine E.loud0 (X.storeA 3 (k := 0) rfl rfl rfl rfl rfl rfl Tryd.sizeOf27 rfl) ?_; rintro _ _ ⟨rfl, rfl⟩; refine E.relist (L2 := [_, _, _, _, _, _]) rfl ?_
      refine E.keep [1, 2, 3, 17] (env1 := [(1, _), (2, _), (3, _), (17, _)]) rfl ?_
      refine C.ret ?_
      refine ⟨_, ⟨_, _, 3, rfl, rfl, rfl⟩, _, ⟨cb, co, bytesV d ++ cs⟩, ⟨cb, co, cc, cs, rfl, rfl, hcc⟩, by simp, (by rw [hz]; rfl)⟩
  ·
    refine O.loud1 rfl (X.alloc Tryd.zeroValue27) rfl ?_; rintro _ _ ⟨b3, rfl, rfl⟩; refine D.relist (L2 := [_]) rfl ?_
    refine D.one ?_
    refine O.loud1 rfl (X.call rfl Tryd.call24 (clone_spec eb 0 d.length d hKB.reads (by omega))) rfl ?_; rintro _ _ ⟨g, ⟨cb, co, cc, cs, rfl, rfl, hcc⟩, rfl⟩; refine D.relist (L2 := [_, _]) rfl ?_
    refine D.pure rfl (S.buildV (v := .agg #[.string h.name, .string h.comment, .slice (some ⟨cb, co, none⟩) d.length cc, .int .i64 0, .int .u8 ((h.os : Nat) : Int)]) [(0, .string h.name), (1, .string h.comment), (2, .slice (some ⟨cb, co, none⟩) d.length cc), (4, .int .u8 ((h.os : Nat) : Int))] rfl (fun w => by simp [Instr.build, Instr.fill, Value.cells, Tryd.zeroValue27])) rfl ?_
    refine D.one ?_
    refine O.loud0 rfl (X.storeA 1 (k := 0) rfl rfl rfl rfl rfl rfl Tryd.sizeOf27 rfl) ?_; rintro _ _ ⟨rfl, rfl⟩; refine D.relist (L2 := [_, _]) rfl ?_
    refine D.keep [1, 2, 3] (env1 := [(1, _), (2, _), (3, _)]) rfl ?_
    refine C.relist (L2 := [_, _, _, _, _]) rfl ?_
    refine C.seq ?_
    refine C.seq ?_
    refine C.region ?_
    refine E.pure (S.field rfl fa69_2) rfl ?_
    refine E.still (S.loadA 3 (k := 2) rfl rfl rfl rfl Tryd.isAgg67 Tryd.sizeOf67) rfl ?_
    refine E.loud1 (OpX.pick [] (F := [_, _, _, _, _]) rfl (X.call rfl Tryd.call40 (isZero_spec (timeN h.mod)))) rfl ?_; rintro _ _ ⟨_, ⟨_, rfl, rfl⟩, rfl⟩; refine E.relist (L2 := [_, _, _, _, _, _]) rfl ?_
    refine E.pure (S.notB rfl) rfl ?_
    refine E.keep [1, 2, 3, 17] (env1 := [(1, _), (2, _), (3, _), (17, _)]) rfl ?_
    first | refine C.ifp rfl (fun h17 => ?_) (fun h17 => ?_) | refine C.cond rfl (fun h17 => ?_) (fun h17 => ?_)
    ·
      have hz : h.mod ≠ 0 := by
        intro hz
        rw [timeN, if_pos hz] at h17
        simp at h17
      refine C.region ?_
      refine E.pure (S.field rfl fa69_2) rfl ?_
      refine E.still (S.loadA 4 (k := 2) rfl rfl rfl rfl Tryd.isAgg67 Tryd.sizeOf67) rfl ?_
      refine E.reslot (v := .agg #[.int .u64 0, .int .i64 ((h.mod + 62135596800 : Nat) : Int)]) (by show Value.agg #[.int .u64 0, .int .i64 (timeV h.mod)] = _; rw [timeV, timeN, if_neg hz]) ?_
      refine E.loud1 (OpX.pick [] (F := [_, _, _, _, _, _]) rfl (X.call rfl Tryd.call41 (timeUnix_spec h.mod (by omega)))) rfl ?_; rintro _ _ ⟨_, ⟨_, rfl, rfl⟩, rfl⟩; refine E.relist (L2 := [_, _, _, _, _, _, _]) rfl ?_
      refine E.pure (S.field rfl fa27_3) rfl ?_
      refine E.loud0 (X.store 3 (k := 3) rfl rfl rfl rfl rfl Tryd.sizeOf2) ?_; rintro _ _ ⟨rfl, rfl⟩; refine E.relist (L2 := [_, _, _, _, _, _, _]) rfl ?_
      refine E.keep [1, 2, 3, 17] (env1 := [(1, _), (2, _), (3, _), (17, _)]) rfl ?_
      refine C.seq ?_
      refine C.region ?_
      refine E.still (S.loadA 3 (k := 0) rfl rfl rfl rfl Tryd.isAgg27 Tryd.sizeOf27) rfl ?_
      refine E.loud0 (X.storeA 4 (k := 0) rfl rfl rfl rfl rfl rfl Tryd.sizeOf27 rfl) ?_; rintro _ _ ⟨rfl, rfl⟩; refine E.relist (L2 := [_, _, _, _, _, _, _]) rfl ?_
      refine E.keep [1, 2, 3, 17] (env1 := [(1, _), (2, _), (3, _), (17, _)]) rfl ?_
      refine C.ret ?_
      refine ⟨_, ⟨_, _, 4, rfl, rfl, rfl⟩, _, ⟨cb, co, bytesV d ++ cs⟩, ⟨cb, co, cc, cs, rfl, rfl, hcc⟩, by simp, rfl⟩
    ·
      have hz : h.mod = 0 := by
        unfold timeN at h17
        split at h17
        · assumption
        · simp at h17
      refine C.skip ?_
      refine C.seq ?_
      refine C.region ?_
      refine E.still (S.loadA 2 (k := 0) rfl rfl rfl rfl Tryd.isAgg27 Tryd.sizeOf27) rfl ?_
      refine E.loud0 (X.storeA 3 (k := 0) rfl rfl rfl rfl rfl rfl Tryd.sizeOf27 rfl) ?_; rintro _ _ ⟨rfl, rfl⟩; refine E.relist (L2 := [_, _, _, _, _, _]) rfl ?_
      refine E.keep [1, 2, 3, 17] (env1 := [(1, _), (2, _), (3, _), (17, _)]) rfl ?_
      refine C.ret ?_
      refine ⟨_, ⟨_, _, 3, rfl, rfl, rfl⟩, _, ⟨cb, co, bytesV d ++ cs⟩, ⟨cb, co, cc, cs, rfl, rfl, hcc⟩, by simp, (by rw [hz]; rfl)⟩
theorem headerOf_spec {K : Known} (h : Hd) (hm : h.mod < 4294967296) (xa : Option Addr) (xn : Nat) (X : Frag) (hX : ExAt h.extra xa xn X) :
    Fn Tryd.prog K 28 #[.agg #[.string h.comment, .slice xa xn xn, .int .u64 0, .int .i64 (timeV h.mod), .string h.name, .int .u8 ((h.os : Nat) : Int)]] [X] (fun r L => ∃ v g, ExOut h.extra v g ∧ L = [g] ∧ r = .agg #[.string h.name, .string h.comment, v, .int .i64 ((h.mod : Nat) : Int), .int .u8 ((h.os : Nat) : Int)]) := by
  cases hx : h.extra with
  | none =>
    rw [hx] at hX
    obtain ⟨rfl, rfl, _⟩ := hX
    refine Fn.lose (Fn.frame (F := [X]) (headerOf_none h hm)) ?_
    rintro v _ ⟨L1, rfl, rfl⟩
    refine ⟨[X], L1, Same.perm List.perm_append_comm, .slice none 0 0, X, rfl, rfl, rfl⟩
  | some d =>
    rw [hx] at hX
    obtain ⟨b, rfl, rfl, rfl, hd⟩ := hX
    refine Fn.lose (headerOf_some h hm b d hd) ?_
    rintro r L' ⟨v, g, h1, h2, rfl⟩
    obtain ⟨A', B', rfl⟩ := List.append_of_mem h2
    exact ⟨[g], A' ++ B', Same.perm List.perm_middle, v, g, h1, rfl, rfl⟩

theorem newReader_spec2 {K : Known} {ea : Fin 5 → Addr} (hs : Sents K ea) (src : Src K ea) (l : List UInt8) (x1 x2 x3 : Frag) (hA : src.At l x1 x2 x3) :
    Fn Tryd.prog K 25 #[.iface src.t src.v] [x1, x2, x3] (fun r L => ((readHead l).1 ≠ .none ∧ r = .tuple #[.pointer none, Er.val ea (readHead l).1] ∧ ∃ f1 f2 f3, src.At (readHead l).2.1 f1 f2 f3 ∧ L = [f1, f2, f3]) ∨
      ((readHead l).1 = .none ∧ ∃ zb, r = .tuple #[.pointer (some ⟨zb, 0, none⟩), Er.val ea (readHead l).1] ∧ ZipAt src zb (readHead l).2.2 .none true (readHead l).2.1 L)) := by
  refine Fn.lose (newReader_first hs src l x1 x2 x3 hA) ?_
  rintro v L' (⟨hne, rfl, f1, f2, f3, T, hF, rfl⟩ | ⟨hno, zb, rfl, hz⟩)
  · exact ⟨_, _, Same.refl _, .inl ⟨hne, rfl, f1, f2, f3, hF, rfl⟩⟩
  · exact ⟨L', [], Same.of_eq (List.append_nil _).symm, .inr ⟨hno, zb, by rw [hno], hz⟩⟩

theorem rd4_mod (l : List UInt8) (f d : Nat) (h : Hd) : (rd4 l f d h).2.2.mod = h.mod := by
  unfold rd4; split
  · rfl
  · split
    · rfl
    · split <;> rfl
theorem rd3_mod (l : List UInt8) (f d : Nat) (h : Hd) : (rd3 l f d h).2.2.mod = h.mod := by
  unfold rd3; split
  · exact rd4_mod ..
  · split
    · rfl
    · exact rd4_mod ..
theorem rd2_mod (l : List UInt8) (f d : Nat) (h : Hd) : (rd2 l f d h).2.2.mod = h.mod := by
  unfold rd2; split
  · exact rd3_mod ..
  · split
    · rfl
    · exact rd3_mod ..
theorem rd1_mod (l : List UInt8) (f d : Nat) (h : Hd) : (rd1 l f d h).2.2.mod = h.mod := by
  unfold rd1; split
  · exact rd2_mod ..
  · split
    · rfl
    · split
      · rfl
      · exact rd2_mod ..
theorem readHead_mod (l : List UInt8) : (readHead l).2.2.mod < 4294967296 := by
  unfold readHead; split
  · exact Nat.zero_lt_succ _
  · split
    · rw [rd1_mod]; exact le32_lt (UInt8.toNat_lt _) (UInt8.toNat_lt _) (UInt8.toNat_lt _) (UInt8.toNat_lt _)
    · exact Nat.zero_lt_succ _

/-- What Open tells. -/
def OpenRes (ea : Fin 5 → Addr) (data : List UInt8) (r : Value) (L : Frags) : Prop :=
  ((readHead data).1 ≠ .none ∧ r = .tuple #[.agg #[.string ⟨#[]⟩, .string ⟨#[]⟩, .slice none 0 0, .int .i64 0, .int .u8 0], .int .i64 (((readHead data).2.1.length : Nat) : Int), .int .i64 ((kindOf (readHead data).1 : Nat) : Int)]) ∨
  ((readHead data).1 = .none ∧ ∃ v g, ExOut (readHead data).2.2.extra v g ∧ g ∈ L ∧ r = .tuple #[.agg #[.string (readHead data).2.2.name, .string (readHead data).2.2.comment, v, .int .i64 (((readHead data).2.2.mod : Nat) : Int), .int .u8 (((readHead data).2.2.os : Nat) : Int)], .int .i64 (((readHead data).2.1.length : Nat) : Int), .int .i64 0])

theorem open_some {K : Known} {ea : Fin 5 → Addr} (hs : Sents K ea) (db o cap : Nat) (data : List UInt8) (hp : KB K db o data) (hl : data.length ≤ 140737488355328) : Fn Tryd.prog K 10 #[.slice (some ⟨db, o, none⟩) (data.length) (cap)] [] (OpenRes ea data) := by
  refine Fn.intro (args := [.slice (some ⟨db, o, none⟩) (data.length) (cap)]) (RR := RetC2 2 5 3 4 _) Tryd.func10 rfl rfl Tryd.ntmps10 (resC2 Tryd.results10 Tryd.isAgg27 Tryd.sizeOf27) ?_
  refine C.reenv (env2 := [(0, .slice (some ⟨db, o, none⟩) (data.length) (cap))]) rfl ?_
  refine C.seq ?_
  refine C.region ?_
  refine E.loud1 (X.alloc Tryd.zeroValue27) rfl ?_; rintro _ _ ⟨b2, rfl, rfl⟩; refine E.relist (L2 := [_]) rfl ?_
  refine E.pure (S.assign rfl) rfl ?_
  refine E.pure (S.assign rfl) rfl ?_
  refine E.keep [0, 2, 3, 4] (env1 := [(0, _), (2, _), (3, _), (4, _)]) rfl ?_
  refine C.seq ?_
  refine C.region ?_
  refine E.pure (S.move rfl) rfl ?_
  refine E.loud1 (X.call rfl Tryd.call24 (clone_spec db o cap data hp.reads hl)) rfl ?_; rintro _ _ ⟨g, ⟨cb, co, cc, cs, rfl, rfl, hcc⟩, rfl⟩; refine E.relist (L2 := [_, _]) rfl ?_
  refine E.loud1 (OpX.pick [] (F := [_, _]) rfl (X.call rfl Tryd.call23 (newReader_spec (some ⟨cb, co, none⟩) data.length cc))) rfl ?_; rintro _ _ ⟨_, ⟨rb, rfl, rfl⟩, rfl⟩; refine E.relist (L2 := [_, _, _]) rfl ?_
  refine E.same (Same.addEmpty (f := ⟨rb, 0, _⟩) (.head _) 0) ?_
  refine E.perml [1, 1, 0, 0] (A := [_, _, _, _]) (F := []) rfl ?_
  refine E.relist (L2 := [_, _, _, _]) rfl ?_
  refine E.pure (S.assign rfl) rfl ?_
  refine E.keep [2, 3, 4, 5] (env1 := [(2, _), (3, _), (4, _), (5, _)]) rfl ?_
  refine C.seq ?_
  refine C.region ?_
  refine E.pure (S.move rfl) rfl ?_
  refine E.pure (S.mkIface rfl conc54) rfl ?_
  refine E.loud1 (OpX.pick [0, 0, 0] (F := [_]) rfl (X.call rfl Tryd.call25 (newReader_spec2 hs (readerSrc K ea hs rb (some ⟨cb, co, none⟩) cc data) data _ _ _ ⟨0, rfl, rfl, Nat.zero_le _, by omega, hcc, .inr ⟨cb, co, cs, rfl, rfl⟩, rfl⟩))) rfl ?_
  rintro _ _ ⟨_, (⟨hne, rfl, f1, f2, f3, ⟨i, hi, rfl, hi2, hd2, hc2, hg2, rfl⟩, rfl⟩ | ⟨hno, zb, rfl, f1, f2, f3, bs, xa, xn, xf, fb, ab, xb, wb, ⟨i, hi, rfl, hi2, hd2, hc2, hg2, rfl⟩, hbs, hX, rfl⟩), rfl⟩
  ·
    refine E.relist (L2 := [_, _, _, _]) rfl ?_
    refine E.pure (S.move rfl) rfl ?_
    refine E.pure (S.extract rfl rfl) rfl ?_
    refine E.pure (S.extract rfl rfl) rfl ?_
    refine E.pure (S.assign rfl) rfl ?_
    refine E.pure (S.assign rfl) rfl ?_
    refine E.keep [2, 3, 4, 5, 6, 7] (env1 := [(2, _), (3, _), (4, _), (5, _), (6, _), (7, _)]) rfl ?_
    refine C.seq ?_
    refine C.seq ?_
    refine C.region ?_
    refine E.pure (S.move rfl) rfl ?_
    refine E.still (S.neErNil rfl) rfl ?_
    refine E.keep [2, 3, 4, 5, 6, 7, 18] (env1 := [(2, _), (3, _), (4, _), (5, _), (6, _), (7, _), (18, _)]) rfl ?_
    first | refine C.ifp rfl (fun h18 => ?_) (fun h18 => ?_) | refine C.ifNone rfl (fun h18 => ?_) (fun h18 => ?_) | refine C.ifSome rfl (fun h18 => ?_) (fun h18 => ?_) | refine C.ifSe rfl (fun h18 => ?_) (fun h18 => ?_) | refine C.ifNotSe rfl (fun h18 => ?_) (fun h18 => ?_) | refine C.cond rfl (fun h18 => ?_) (fun h18 => ?_)
    ·
      refine C.seq ?_
      refine C.region ?_
      refine E.pure (S.buildV (v := .agg #[.string ⟨#[]⟩, .string ⟨#[]⟩, .slice none 0 0, .int .i64 0, .int .u8 0]) [] rfl (fun w => by simp [Instr.build, Instr.fill, Value.cells, Tryd.zeroValue27])) rfl ?_
      refine E.pure (S.move rfl) rfl ?_
      refine E.loud1 (OpX.pick [0] (F := [_, _, _]) rfl (X.call rfl Tryd.call26 (readerLen_spec rb data i hd2 _ _ hi2))) rfl ?_; rintro _ _ ⟨_, ⟨rfl, rfl⟩, rfl⟩; refine E.relist (L2 := [_, _, _, _]) rfl ?_
      refine E.pure (S.move rfl) rfl ?_
      refine E.loud1 (OpX.pick [] (F := [_, _, _, _]) rfl (X.call rfl Tryd.call27 (kind_spec hs _))) rfl ?_; rintro _ _ ⟨_, ⟨rfl, rfl⟩, rfl⟩; refine E.relist (L2 := [_, _, _, _]) rfl ?_
      refine E.loud0 (X.storeA 3 (k := 0) rfl rfl rfl rfl rfl rfl Tryd.sizeOf27 rfl) ?_; rintro _ _ ⟨rfl, rfl⟩; refine E.relist (L2 := [_, _, _, _]) rfl ?_
      refine E.pure (S.assign rfl) rfl ?_
      refine E.pure (S.assign rfl) rfl ?_
      refine E.keep [2, 3, 4, 5, 6, 7, 18] (env1 := [(2, _), (3, _), (4, _), (5, _), (6, _), (7, _), (18, _)]) rfl ?_
      refine C.ret ?_
      have hlen : data.length - i = (readHead data).2.1.length := by rw [hi, List.length_drop]
      refine ⟨_, _, _, ⟨_, _, 3, rfl, rfl, rfl⟩, rfl, rfl, .inl ⟨hne, ?_⟩⟩
      first | (rw [← hlen]; done) | (rw [← hlen]; rfl)
    ·
      exact absurd h18 hne
  ·
    refine E.relist (L2 := [_, _, _, _, _, _, _, _, _, _, _, _, _, _, _, _, _, _, _, _, _, _]) rfl ?_
    refine E.pure (S.move rfl) rfl ?_
    refine E.pure (S.extract rfl rfl) rfl ?_
    refine E.pure (S.extract rfl rfl) rfl ?_
    refine E.pure (S.assign rfl) rfl ?_
    refine E.pure (S.assign rfl) rfl ?_
    refine E.keep [2, 3, 4, 5, 6, 7] (env1 := [(2, _), (3, _), (4, _), (5, _), (6, _), (7, _)]) rfl ?_
    refine C.seq ?_
    refine C.seq ?_
    refine C.region ?_
    refine E.pure (S.move rfl) rfl ?_
    refine E.still (S.neErNil rfl) rfl ?_
    refine E.keep [2, 3, 4, 5, 6, 7, 18] (env1 := [(2, _), (3, _), (4, _), (5, _), (6, _), (7, _), (18, _)]) rfl ?_
    first | refine C.ifp rfl (fun h18 => ?_) (fun h18 => ?_) | refine C.ifNone rfl (fun h18 => ?_) (fun h18 => ?_) | refine C.ifSome rfl (fun h18 => ?_) (fun h18 => ?_) | refine C.ifSe rfl (fun h18 => ?_) (fun h18 => ?_) | refine C.ifNotSe rfl (fun h18 => ?_) (fun h18 => ?_) | refine C.cond rfl (fun h18 => ?_) (fun h18 => ?_)
    ·
      exact absurd hno h18
    ·
      refine C.skip ?_
      refine C.seq ?_
      refine C.region ?_
      refine E.pure (S.move rfl) rfl ?_
      refine E.pure (S.nilPtr rfl) rfl ?_
      refine E.pure (S.field rfl fa76_0) rfl ?_
      refine E.still (S.loadA 17 (k := 0) rfl rfl rfl rfl Tryd.isAgg69 Tryd.sizeOf69) rfl ?_
      refine E.loud1 (OpX.pick [19] (F := [_, _, _, _, _, _, _, _, _, _, _, _, _, _, _, _, _, _, _, _, _]) rfl (X.call rfl Tryd.call28 (headerOf_spec (readHead data).2.2 (readHead_mod _) xa xn xf hX))) rfl ?_; rintro _ _ ⟨_, ⟨ev, g, hO, rfl, rfl⟩, rfl⟩; refine E.relist (L2 := [_, _, _, _, _, _, _, _, _, _, _, _, _, _, _, _, _, _, _, _, _, _]) rfl ?_
      refine E.pure (S.move rfl) rfl ?_
      refine E.loud1 (OpX.pick [15] (F := [_, _, _, _, _, _, _, _, _, _, _, _, _, _, _, _, _, _, _, _, _]) rfl (X.call rfl Tryd.call26 (readerLen_spec rb data i hd2 _ _ hi2))) rfl ?_; rintro _ _ ⟨_, ⟨rfl, rfl⟩, rfl⟩; refine E.relist (L2 := [_, _, _, _, _, _, _, _, _, _, _, _, _, _, _, _, _, _, _, _, _, _]) rfl ?_
      refine E.loud0 (X.storeA 21 (k := 0) rfl rfl rfl (by simp only [List.all_cons, List.all_nil, exOut_one hO]; rfl) rfl rfl Tryd.sizeOf27 rfl) ?_; rintro _ _ ⟨rfl, rfl⟩; refine E.relist (L2 := [_, _, _, _, _, _, _, _, _, _, _, _, _, _, _, _, _, _, _, _, _, _]) rfl ?_
      refine E.pure (S.assign rfl) rfl ?_
      refine E.pure (S.assign rfl) rfl ?_
      refine E.keep [2, 3, 4, 5, 6, 7, 18] (env1 := [(2, _), (3, _), (4, _), (5, _), (6, _), (7, _), (18, _)]) rfl ?_
      refine C.ret ?_
      have hlen : data.length - i = (readHead data).2.1.length := by rw [hi, List.length_drop]
      refine ⟨_, _, _, ⟨_, _, 21, rfl, rfl, rfl⟩, rfl, rfl, .inr ⟨hno, ev, g, hO, (.tail _ (.head _)), ?_⟩⟩
      first | (rw [← hlen]; done) | (rw [← hlen]; rfl)
theorem clone_empty2 {K : Known} (a : Addr) (c : Nat) (data : List UInt8) (h0 : data = []) : Fn Tryd.prog K 24 #[.slice (some a) data.length c] [] (fun r L => ∃ g, Own data r g ∧ L = [g]) := by
  subst h0; exact clone_empty a c

theorem open_empty2 {K : Known} {ea : Fin 5 → Addr} (hs : Sents K ea) (a : Addr) (c : Nat) (data : List UInt8) (h0 : data = []) : Fn Tryd.prog K 10 #[.slice (some a) data.length c] [] (OpenRes ea data) := by
  refine Fn.intro (args := [.slice (some a) data.length c]) (RR := RetC2 2 5 3 4 _) Tryd.func10 rfl rfl Tryd.ntmps10 (resC2 Tryd.results10 Tryd.isAgg27 Tryd.sizeOf27) ?_
  refine C.reenv (env2 := [(0, .slice (some a) data.length c)]) rfl ?_
  refine C.seq ?_
  refine C.region ?_
  refine E.loud1 (X.alloc Tryd.zeroValue27) rfl ?_; rintro _ _ ⟨b2, rfl, rfl⟩; refine E.relist (L2 := [_]) rfl ?_
  refine E.pure (S.assign rfl) rfl ?_
  refine E.pure (S.assign rfl) rfl ?_
  refine E.keep [0, 2, 3, 4] (env1 := [(0, _), (2, _), (3, _), (4, _)]) rfl ?_
  refine C.seq ?_
  refine C.region ?_
  refine E.pure (S.move rfl) rfl ?_
  refine E.loud1 (OpX.pick [] (F := [_]) rfl (X.call rfl Tryd.call24 (clone_empty2 a c data h0))) rfl ?_; rintro _ _ ⟨_, ⟨g, ⟨cb, co, cc, cs, rfl, rfl, hcc⟩, rfl⟩, rfl⟩; refine E.relist (L2 := [_, _]) rfl ?_
  refine E.loud1 (OpX.pick [] (F := [_, _]) rfl (X.call rfl Tryd.call23 (newReader_spec (some ⟨cb, co, none⟩) data.length cc))) rfl ?_; rintro _ _ ⟨_, ⟨rb, rfl, rfl⟩, rfl⟩; refine E.relist (L2 := [_, _, _]) rfl ?_
  refine E.same (Same.addEmpty (f := ⟨rb, 0, _⟩) (.head _) 0) ?_
  refine E.perml [1, 1, 0, 0] (A := [_, _, _, _]) (F := []) rfl ?_
  refine E.relist (L2 := [_, _, _, _]) rfl ?_
  refine E.pure (S.assign rfl) rfl ?_
  refine E.keep [2, 3, 4, 5] (env1 := [(2, _), (3, _), (4, _), (5, _)]) rfl ?_
  refine C.seq ?_
  refine C.region ?_
  refine E.pure (S.move rfl) rfl ?_
  refine E.pure (S.mkIface rfl conc54) rfl ?_
  refine E.loud1 (OpX.pick [0, 0, 0] (F := [_]) rfl (X.call rfl Tryd.call25 (newReader_spec2 hs (readerSrc K ea hs rb (some ⟨cb, co, none⟩) cc data) data _ _ _ ⟨0, rfl, rfl, Nat.zero_le _, by rw [h0]; decide, hcc, .inr ⟨cb, co, cs, rfl, rfl⟩, rfl⟩))) rfl ?_
  rintro _ _ ⟨_, (⟨hne, rfl, f1, f2, f3, ⟨i, hi, rfl, hi2, hd2, hc2, hg2, rfl⟩, rfl⟩ | ⟨hno, zb, rfl, f1, f2, f3, bs, xa, xn, xf, fb, ab, xb, wb, ⟨i, hi, rfl, hi2, hd2, hc2, hg2, rfl⟩, hbs, hX, rfl⟩), rfl⟩
  ·
    refine E.relist (L2 := [_, _, _, _]) rfl ?_
    refine E.pure (S.move rfl) rfl ?_
    refine E.pure (S.extract rfl rfl) rfl ?_
    refine E.pure (S.extract rfl rfl) rfl ?_
    refine E.pure (S.assign rfl) rfl ?_
    refine E.pure (S.assign rfl) rfl ?_
    refine E.keep [2, 3, 4, 5, 6, 7] (env1 := [(2, _), (3, _), (4, _), (5, _), (6, _), (7, _)]) rfl ?_
    refine C.seq ?_
    refine C.seq ?_
    refine C.region ?_
    refine E.pure (S.move rfl) rfl ?_
    refine E.still (S.neErNil rfl) rfl ?_
    refine E.keep [2, 3, 4, 5, 6, 7, 18] (env1 := [(2, _), (3, _), (4, _), (5, _), (6, _), (7, _), (18, _)]) rfl ?_
    first | refine C.ifp rfl (fun h18 => ?_) (fun h18 => ?_) | refine C.ifNone rfl (fun h18 => ?_) (fun h18 => ?_) | refine C.ifSome rfl (fun h18 => ?_) (fun h18 => ?_) | refine C.ifSe rfl (fun h18 => ?_) (fun h18 => ?_) | refine C.ifNotSe rfl (fun h18 => ?_) (fun h18 => ?_) | refine C.cond rfl (fun h18 => ?_) (fun h18 => ?_)
    ·
      refine C.seq ?_
      refine C.region ?_
      refine E.pure (S.buildV (v := .agg #[.string ⟨#[]⟩, .string ⟨#[]⟩, .slice none 0 0, .int .i64 0, .int .u8 0]) [] rfl (fun w => by simp [Instr.build, Instr.fill, Value.cells, Tryd.zeroValue27])) rfl ?_
      refine E.pure (S.move rfl) rfl ?_
      refine E.loud1 (OpX.pick [0] (F := [_, _, _]) rfl (X.call rfl Tryd.call26 (readerLen_spec rb data i hd2 _ _ hi2))) rfl ?_; rintro _ _ ⟨_, ⟨rfl, rfl⟩, rfl⟩; refine E.relist (L2 := [_, _, _, _]) rfl ?_
      refine E.pure (S.move rfl) rfl ?_
      refine E.loud1 (OpX.pick [] (F := [_, _, _, _]) rfl (X.call rfl Tryd.call27 (kind_spec hs _))) rfl ?_; rintro _ _ ⟨_, ⟨rfl, rfl⟩, rfl⟩; refine E.relist (L2 := [_, _, _, _]) rfl ?_
      refine E.loud0 (X.storeA 3 (k := 0) rfl rfl rfl rfl rfl rfl Tryd.sizeOf27 rfl) ?_; rintro _ _ ⟨rfl, rfl⟩; refine E.relist (L2 := [_, _, _, _]) rfl ?_
      refine E.pure (S.assign rfl) rfl ?_
      refine E.pure (S.assign rfl) rfl ?_
      refine E.keep [2, 3, 4, 5, 6, 7, 18] (env1 := [(2, _), (3, _), (4, _), (5, _), (6, _), (7, _), (18, _)]) rfl ?_
      refine C.ret ?_
      have hlen : data.length - i = (readHead data).2.1.length := by rw [hi, List.length_drop]
      refine ⟨_, _, _, ⟨_, _, 3, rfl, rfl, rfl⟩, rfl, rfl, .inl ⟨hne, ?_⟩⟩
      first | (rw [← hlen]; done) | (rw [← hlen]; rfl)
    ·
      exact absurd h18 hne
  ·
    refine E.relist (L2 := [_, _, _, _, _, _, _, _, _, _, _, _, _, _, _, _, _, _, _, _, _, _]) rfl ?_
    refine E.pure (S.move rfl) rfl ?_
    refine E.pure (S.extract rfl rfl) rfl ?_
    refine E.pure (S.extract rfl rfl) rfl ?_
    refine E.pure (S.assign rfl) rfl ?_
    refine E.pure (S.assign rfl) rfl ?_
    refine E.keep [2, 3, 4, 5, 6, 7] (env1 := [(2, _), (3, _), (4, _), (5, _), (6, _), (7, _)]) rfl ?_
    refine C.seq ?_
    refine C.seq ?_
    refine C.region ?_
    refine E.pure (S.move rfl) rfl ?_
    refine E.still (S.neErNil rfl) rfl ?_
    refine E.keep [2, 3, 4, 5, 6, 7, 18] (env1 := [(2, _), (3, _), (4, _), (5, _), (6, _), (7, _), (18, _)]) rfl ?_
    first | refine C.ifp rfl (fun h18 => ?_) (fun h18 => ?_) | refine C.ifNone rfl (fun h18 => ?_) (fun h18 => ?_) | refine C.ifSome rfl (fun h18 => ?_) (fun h18 => ?_) | refine C.ifSe rfl (fun h18 => ?_) (fun h18 => ?_) | refine C.ifNotSe rfl (fun h18 => ?_) (fun h18 => ?_) | refine C.cond rfl (fun h18 => ?_) (fun h18 => ?_)
    ·
      exact absurd hno h18
    ·
      refine C.skip ?_
      refine C.seq ?_
      refine C.region ?_
      refine E.pure (S.move rfl) rfl ?_
      refine E.pure (S.nilPtr rfl) rfl ?_
      refine E.pure (S.field rfl fa76_0) rfl ?_
      refine E.still (S.loadA 17 (k := 0) rfl rfl rfl rfl Tryd.isAgg69 Tryd.sizeOf69) rfl ?_
      refine E.loud1 (OpX.pick [19] (F := [_, _, _, _, _, _, _, _, _, _, _, _, _, _, _, _, _, _, _, _, _]) rfl (X.call rfl Tryd.call28 (headerOf_spec (readHead data).2.2 (readHead_mod _) xa xn xf hX))) rfl ?_; rintro _ _ ⟨_, ⟨ev, g, hO, rfl, rfl⟩, rfl⟩; refine E.relist (L2 := [_, _, _, _, _, _, _, _, _, _, _, _, _, _, _, _, _, _, _, _, _, _]) rfl ?_
      refine E.pure (S.move rfl) rfl ?_
      refine E.loud1 (OpX.pick [15] (F := [_, _, _, _, _, _, _, _, _, _, _, _, _, _, _, _, _, _, _, _, _]) rfl (X.call rfl Tryd.call26 (readerLen_spec rb data i hd2 _ _ hi2))) rfl ?_; rintro _ _ ⟨_, ⟨rfl, rfl⟩, rfl⟩; refine E.relist (L2 := [_, _, _, _, _, _, _, _, _, _, _, _, _, _, _, _, _, _, _, _, _, _]) rfl ?_
      refine E.loud0 (X.storeA 21 (k := 0) rfl rfl rfl (by simp only [List.all_cons, List.all_nil, exOut_one hO]; rfl) rfl rfl Tryd.sizeOf27 rfl) ?_; rintro _ _ ⟨rfl, rfl⟩; refine E.relist (L2 := [_, _, _, _, _, _, _, _, _, _, _, _, _, _, _, _, _, _, _, _, _, _]) rfl ?_
      refine E.pure (S.assign rfl) rfl ?_
      refine E.pure (S.assign rfl) rfl ?_
      refine E.keep [2, 3, 4, 5, 6, 7, 18] (env1 := [(2, _), (3, _), (4, _), (5, _), (6, _), (7, _), (18, _)]) rfl ?_
      refine C.ret ?_
      have hlen : data.length - i = (readHead data).2.1.length := by rw [hi, List.length_drop]
      refine ⟨_, _, _, ⟨_, _, 21, rfl, rfl, rfl⟩, rfl, rfl, .inr ⟨hno, ev, g, hO, (.tail _ (.head _)), ?_⟩⟩
      first | (rw [← hlen]; done) | (rw [← hlen]; rfl)
theorem open_empty {K : Known} {ea : Fin 5 → Addr} (hs : Sents K ea) (a : Addr) (c : Nat) : Fn Tryd.prog K 10 #[.slice (some a) 0 c] [] (OpenRes ea []) := open_empty2 hs a c [] rfl

theorem open_nil {K : Known} {ea : Fin 5 → Addr} (hs : Sents K ea) (data : List UInt8) (h0 : data = []) : Fn Tryd.prog K 10 #[.slice none 0 0] [] (OpenRes ea data) := by
  refine Fn.intro (args := [.slice none 0 0]) (RR := RetC2 2 5 3 4 _) Tryd.func10 rfl rfl Tryd.ntmps10 (resC2 Tryd.results10 Tryd.isAgg27 Tryd.sizeOf27) ?_
  refine C.reenv (env2 := [(0, .slice none 0 0)]) rfl ?_
  refine C.seq ?_
  refine C.region ?_
  refine E.loud1 (X.alloc Tryd.zeroValue27) rfl ?_; rintro _ _ ⟨b2, rfl, rfl⟩; refine E.relist (L2 := [_]) rfl ?_
  refine E.pure (S.assign rfl) rfl ?_
  refine E.pure (S.assign rfl) rfl ?_
  refine E.keep [0, 2, 3, 4] (env1 := [(0, _), (2, _), (3, _), (4, _)]) rfl ?_
  refine C.seq ?_
  refine C.region ?_
  refine E.pure (S.move rfl) rfl ?_
  refine E.loud1 (OpX.pick [] (F := [_]) rfl (X.call rfl Tryd.call24 clone_nil)) rfl ?_; rintro _ _ ⟨_, ⟨rfl, rfl⟩, rfl⟩; refine E.relist (L2 := [_]) rfl ?_
  refine E.loud1 (OpX.pick [] (F := [_]) rfl (X.call rfl Tryd.call23 (newReader_spec (none) 0 0))) rfl ?_; rintro _ _ ⟨_, ⟨rb, rfl, rfl⟩, rfl⟩; refine E.relist (L2 := [_, _]) rfl ?_
  refine E.same (Same.addEmpty (f := ⟨rb, 0, _⟩) (.head _) 0) ?_
  refine E.same (Same.addEmpty (f := ⟨rb, 0, _⟩) (.tail _ (.head _)) 0) ?_
  refine E.perml [2, 0, 0, 0] (A := [_, _, _, _]) (F := []) rfl ?_
  refine E.relist (L2 := [⟨rb, 0, [.slice none data.length 0, .int .i64 ((0 : Nat) : Int), .int .i64 (-1)]⟩, ⟨rb, 0, []⟩, ⟨rb, 0, []⟩, _]) (by rw [h0]; rfl) ?_
  refine E.pure (S.assign rfl) rfl ?_
  refine E.keep [2, 3, 4, 5] (env1 := [(2, _), (3, _), (4, _), (5, _)]) rfl ?_
  refine C.seq ?_
  refine C.region ?_
  refine E.pure (S.move rfl) rfl ?_
  refine E.pure (S.mkIface rfl conc54) rfl ?_
  refine E.loud1 (OpX.pick [0, 0, 0] (F := [_]) rfl (X.call rfl Tryd.call25 (newReader_spec2 hs (readerSrc K ea hs rb (none) 0 data) data _ _ _ ⟨0, rfl, rfl, Nat.zero_le _, by rw [h0]; decide, by rw [h0]; exact Nat.le_refl 0, .inl h0, rfl⟩))) rfl ?_
  rintro _ _ ⟨_, (⟨hne, rfl, f1, f2, f3, ⟨i, hi, rfl, hi2, hd2, hc2, hg2, rfl⟩, rfl⟩ | ⟨hno, zb, rfl, f1, f2, f3, bs, xa, xn, xf, fb, ab, xb, wb, ⟨i, hi, rfl, hi2, hd2, hc2, hg2, rfl⟩, hbs, hX, rfl⟩), rfl⟩
  ·
    refine E.relist (L2 := [_, _, _, _]) rfl ?_
    refine E.pure (S.move rfl) rfl ?_
    refine E.pure (S.extract rfl rfl) rfl ?_
    refine E.pure (S.extract rfl rfl) rfl ?_
    refine E.pure (S.assign rfl) rfl ?_
    refine E.pure (S.assign rfl) rfl ?_
    refine E.keep [2, 3, 4, 5, 6, 7] (env1 := [(2, _), (3, _), (4, _), (5, _), (6, _), (7, _)]) rfl ?_
    refine C.seq ?_
    refine C.seq ?_
    refine C.region ?_
    refine E.pure (S.move rfl) rfl ?_
    refine E.still (S.neErNil rfl) rfl ?_
    refine E.keep [2, 3, 4, 5, 6, 7, 18] (env1 := [(2, _), (3, _), (4, _), (5, _), (6, _), (7, _), (18, _)]) rfl ?_
    first | refine C.ifp rfl (fun h18 => ?_) (fun h18 => ?_) | refine C.ifNone rfl (fun h18 => ?_) (fun h18 => ?_) | refine C.ifSome rfl (fun h18 => ?_) (fun h18 => ?_) | refine C.ifSe rfl (fun h18 => ?_) (fun h18 => ?_) | refine C.ifNotSe rfl (fun h18 => ?_) (fun h18 => ?_) | refine C.cond rfl (fun h18 => ?_) (fun h18 => ?_)
    ·
      refine C.seq ?_
      refine C.region ?_
      refine E.pure (S.buildV (v := .agg #[.string ⟨#[]⟩, .string ⟨#[]⟩, .slice none 0 0, .int .i64 0, .int .u8 0]) [] rfl (fun w => by simp [Instr.build, Instr.fill, Value.cells, Tryd.zeroValue27])) rfl ?_
      refine E.pure (S.move rfl) rfl ?_
      refine E.loud1 (OpX.pick [0] (F := [_, _, _]) rfl (X.call rfl Tryd.call26 (readerLen_spec rb data i hd2 _ _ hi2))) rfl ?_; rintro _ _ ⟨_, ⟨rfl, rfl⟩, rfl⟩; refine E.relist (L2 := [_, _, _, _]) rfl ?_
      refine E.pure (S.move rfl) rfl ?_
      refine E.loud1 (OpX.pick [] (F := [_, _, _, _]) rfl (X.call rfl Tryd.call27 (kind_spec hs _))) rfl ?_; rintro _ _ ⟨_, ⟨rfl, rfl⟩, rfl⟩; refine E.relist (L2 := [_, _, _, _]) rfl ?_
      refine E.loud0 (X.storeA 3 (k := 0) rfl rfl rfl rfl rfl rfl Tryd.sizeOf27 rfl) ?_; rintro _ _ ⟨rfl, rfl⟩; refine E.relist (L2 := [_, _, _, _]) rfl ?_
      refine E.pure (S.assign rfl) rfl ?_
      refine E.pure (S.assign rfl) rfl ?_
      refine E.keep [2, 3, 4, 5, 6, 7, 18] (env1 := [(2, _), (3, _), (4, _), (5, _), (6, _), (7, _), (18, _)]) rfl ?_
      refine C.ret ?_
      have hlen : data.length - i = (readHead data).2.1.length := by rw [hi, List.length_drop]
      refine ⟨_, _, _, ⟨_, _, 3, rfl, rfl, rfl⟩, rfl, rfl, .inl ⟨hne, ?_⟩⟩
      first | (rw [← hlen]; done) | (rw [← hlen]; rfl)
    ·
      exact absurd h18 hne
  ·
    refine E.relist (L2 := [_, _, _, _, _, _, _, _, _, _, _, _, _, _, _, _, _, _, _, _, _, _]) rfl ?_
    refine E.pure (S.move rfl) rfl ?_
    refine E.pure (S.extract rfl rfl) rfl ?_
    refine E.pure (S.extract rfl rfl) rfl ?_
    refine E.pure (S.assign rfl) rfl ?_
    refine E.pure (S.assign rfl) rfl ?_
    refine E.keep [2, 3, 4, 5, 6, 7] (env1 := [(2, _), (3, _), (4, _), (5, _), (6, _), (7, _)]) rfl ?_
    refine C.seq ?_
    refine C.seq ?_
    refine C.region ?_
    refine E.pure (S.move rfl) rfl ?_
    refine E.still (S.neErNil rfl) rfl ?_
    refine E.keep [2, 3, 4, 5, 6, 7, 18] (env1 := [(2, _), (3, _), (4, _), (5, _), (6, _), (7, _), (18, _)]) rfl ?_
    first | refine C.ifp rfl (fun h18 => ?_) (fun h18 => ?_) | refine C.ifNone rfl (fun h18 => ?_) (fun h18 => ?_) | refine C.ifSome rfl (fun h18 => ?_) (fun h18 => ?_) | refine C.ifSe rfl (fun h18 => ?_) (fun h18 => ?_) | refine C.ifNotSe rfl (fun h18 => ?_) (fun h18 => ?_) | refine C.cond rfl (fun h18 => ?_) (fun h18 => ?_)
    ·
      exact absurd hno h18
    ·
      refine C.skip ?_
      refine C.seq ?_
      refine C.region ?_
      refine E.pure (S.move rfl) rfl ?_
      refine E.pure (S.nilPtr rfl) rfl ?_
      refine E.pure (S.field rfl fa76_0) rfl ?_
      refine E.still (S.loadA 17 (k := 0) rfl rfl rfl rfl Tryd.isAgg69 Tryd.sizeOf69) rfl ?_
      refine E.loud1 (OpX.pick [19] (F := [_, _, _, _, _, _, _, _, _, _, _, _, _, _, _, _, _, _, _, _, _]) rfl (X.call rfl Tryd.call28 (headerOf_spec (readHead data).2.2 (readHead_mod _) xa xn xf hX))) rfl ?_; rintro _ _ ⟨_, ⟨ev, g, hO, rfl, rfl⟩, rfl⟩; refine E.relist (L2 := [_, _, _, _, _, _, _, _, _, _, _, _, _, _, _, _, _, _, _, _, _, _]) rfl ?_
      refine E.pure (S.move rfl) rfl ?_
      refine E.loud1 (OpX.pick [15] (F := [_, _, _, _, _, _, _, _, _, _, _, _, _, _, _, _, _, _, _, _, _]) rfl (X.call rfl Tryd.call26 (readerLen_spec rb data i hd2 _ _ hi2))) rfl ?_; rintro _ _ ⟨_, ⟨rfl, rfl⟩, rfl⟩; refine E.relist (L2 := [_, _, _, _, _, _, _, _, _, _, _, _, _, _, _, _, _, _, _, _, _, _]) rfl ?_
      refine E.loud0 (X.storeA 21 (k := 0) rfl rfl rfl (by simp only [List.all_cons, List.all_nil, exOut_one hO]; rfl) rfl rfl Tryd.sizeOf27 rfl) ?_; rintro _ _ ⟨rfl, rfl⟩; refine E.relist (L2 := [_, _, _, _, _, _, _, _, _, _, _, _, _, _, _, _, _, _, _, _, _, _]) rfl ?_
      refine E.pure (S.assign rfl) rfl ?_
      refine E.pure (S.assign rfl) rfl ?_
      refine E.keep [2, 3, 4, 5, 6, 7, 18] (env1 := [(2, _), (3, _), (4, _), (5, _), (6, _), (7, _), (18, _)]) rfl ?_
      refine C.ret ?_
      have hlen : data.length - i = (readHead data).2.1.length := by rw [hi, List.length_drop]
      refine ⟨_, _, _, ⟨_, _, 21, rfl, rfl, rfl⟩, rfl, rfl, .inr ⟨hno, ev, g, hO, (.tail _ (.head _)), ?_⟩⟩
      first | (rw [← hlen]; done) | (rw [← hlen]; rfl)
end Go.Eng
