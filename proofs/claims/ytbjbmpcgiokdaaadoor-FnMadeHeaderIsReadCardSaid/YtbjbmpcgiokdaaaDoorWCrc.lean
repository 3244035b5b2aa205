/-
  Walks of package crc32.
-/
import Derived.Test.YtbjbmpcgiokdaaaDoorGnd
import Derived.Test.YtbjbmpcgiokdaaaDoorCrc
set_option linter.unusedVariables false
set_option linter.unusedSimpArgs false
namespace Go.Eng
open Go Go.Proofs
set_option maxRecDepth 100000

theorem simplePopulateTable_spec {K : Known} (b o poly : Nat) (hp : poly < 4294967296) (cs : List Value) (hcs : 256 ≤ cs.length) : Fn Tryd.prog K 64 #[.int .u32 ((poly : Nat) : Int), .pointer (some ⟨b, o, none⟩)] [⟨b, o, cs⟩] (fun v L => v = .tuple #[] ∧ L = [⟨b, o, fillT poly 256 cs⟩]) := by
  refine Fn.intro (args := [.int .u32 ((poly : Nat) : Int), .pointer (some ⟨b, o, none⟩)]) (RR := Ret0 _) Tryd.func64 rfl rfl Tryd.ntmps64 (res0 Tryd.results64) ?_
  refine C.reenv (env2 := [(0, .int .u32 ((poly : Nat) : Int)), (1, .pointer (some ⟨b, o, none⟩))]) rfl ?_
  refine C.seq ?_
  refine C.region ?_
  refine E.pure (S.assign rfl) rfl ?_
  refine E.keep [0, 1, 4] (env1 := [(0, _), (1, _), (4, _)]) rfl ?_
  refine C.block ?_
  refine C.loop (fun mm ee ll => ∃ (i : Nat), keeps ee [0, 1, 4] = some [(0, .int .u32 ((poly : Nat) : Int)), (1, .pointer (some ⟨b, o, none⟩)), (4, .int .i64 ((i : Nat) : Int))] ∧ ll = [⟨b, o, fillT poly i cs⟩] ∧ (i ≤ 256) ∧ mm = 256 - i) (_) ⟨0, rfl, rfl, by omega, rfl⟩ ?_
  rintro m0 _ _ ⟨i, hk0, rfl, hi, hm0⟩
  refine C.weaken _ hk0 ?_
  refine C.seq ?_
  refine C.seq ?_
  refine C.region ?_
  refine E.pure (S.move rfl) rfl ?_
  refine E.pure (S.lt (b := ((256 : Nat) : Int)) rfl rfl) rfl ?_
  refine E.keep [0, 1, 4, 8] (env1 := [(0, _), (1, _), (4, _), (8, _)]) rfl ?_
  first | refine C.ifp rfl (fun h8 => ?_) (fun h8 => ?_) | refine C.cond rfl (fun h8 => ?_) (fun h8 => ?_)
  ·
    refine C.skip ?_
    refine C.seq ?_
    refine C.block ?_
    refine C.seq ?_
    refine C.region ?_
    refine E.pure (S.move rfl) rfl ?_
    first | refine E.pure (S.conv rfl Tryd.underlying3 Tryd.underlying52 (N.in_u32 (by omega))) rfl ?_ | refine E.pure (S.conv rfl Tryd.underlying3 Tryd.underlying52 (N.mod_u32 _)) rfl ?_
    refine E.pure (S.assign rfl) rfl ?_
    refine E.keep [0, 1, 4, 5, 8] (env1 := [(0, _), (1, _), (4, _), (5, _), (8, _)]) rfl ?_
    refine C.seq ?_
    refine C.seq ?_
    refine C.region ?_
    refine E.pure (S.assign rfl) rfl ?_
    refine E.keep [0, 1, 4, 5, 6, 8] (env1 := [(0, _), (1, _), (4, _), (5, _), (6, _), (8, _)]) rfl ?_
    refine C.block ?_
    refine C.loop (fun mm ee ll => ∃ (j : Nat), ∃ (c : Nat), keeps ee [0, 1, 4, 5, 6] = some [(0, .int .u32 ((poly : Nat) : Int)), (1, .pointer (some ⟨b, o, none⟩)), (4, .int .i64 ((i : Nat) : Int)), (5, .int .u32 ((c : Nat) : Int)), (6, .int .i64 ((j : Nat) : Int))] ∧ ll = [⟨b, o, fillT poly i cs⟩] ∧ (j ≤ 8) ∧ (c = divN poly j i) ∧ (c < 4294967296) ∧ mm = 8 - j) (_) ⟨0, i, rfl, rfl, by omega, rfl, by omega, rfl⟩ ?_
    rintro m1 _ _ ⟨j, c, hk1, rfl, hj, hc, hb, hm1⟩
    refine C.weaken _ hk1 ?_
    refine C.seq ?_
    refine C.seq ?_
    refine C.region ?_
    refine E.pure (S.move rfl) rfl ?_
    refine E.pure (S.lt (b := ((8 : Nat) : Int)) rfl rfl) rfl ?_
    refine E.keep [0, 1, 4, 5, 6, 14] (env1 := [(0, _), (1, _), (4, _), (5, _), (6, _), (14, _)]) rfl ?_
    first | refine C.ifp rfl (fun h14 => ?_) (fun h14 => ?_) | refine C.cond rfl (fun h14 => ?_) (fun h14 => ?_)
    ·
      refine C.skip ?_
      refine C.seq ?_
      refine C.block ?_
      refine C.seq ?_
      refine C.region ?_
      refine E.pure (S.move rfl) rfl ?_
      refine E.pure (S.and (b := ((1 : Nat) : Int)) rfl rfl (N.and_u32 (by omega) (by omega))) rfl ?_
      refine E.pure (S.eq (b := ((1 : Nat) : Int)) rfl rfl) rfl ?_
      refine E.keep [0, 1, 4, 5, 6, 14, 19] (env1 := [(0, _), (1, _), (4, _), (5, _), (6, _), (14, _), (19, _)]) rfl ?_
      first | refine C.ifp rfl (fun h19 => ?_) (fun h19 => ?_) | refine C.cond rfl (fun h19 => ?_) (fun h19 => ?_)
      ·
        have q1 := divN_odd hc h19
        have q2 : c >>> 1 ^^^ poly < 4294967296 := xor32 (by omega) hp
        refine C.region ?_
        refine E.pure (S.move rfl) rfl ?_
        refine E.pure (S.shr (b := ((1 : Nat) : Int)) rfl rfl (by omega) (N.shr_u32 (by omega) _)) rfl ?_
        refine E.pure (S.move rfl) rfl ?_
        refine E.pure (S.xor rfl rfl (N.xor_u32 (by omega) (by omega))) rfl ?_
        refine E.pure (S.assign rfl) rfl ?_
        refine E.keep [0, 1, 4, 5, 6, 14, 19] (env1 := [(0, _), (1, _), (4, _), (5, _), (6, _), (14, _), (19, _)]) rfl ?_
        refine C.region ?_
        refine E.pure (S.move rfl) rfl ?_
        first | refine E.pure (S.add (b := ((1 : Nat) : Int)) rfl rfl (N.add64 (by omega))) rfl ?_ | refine E.pure (S.add (b := ((1 : Nat) : Int)) rfl rfl (N.addZ (by omega))) rfl ?_
        refine E.pure (S.assign rfl) rfl ?_
        refine E.keep [0, 1, 4, 5, 6, 14, 19] (env1 := [(0, _), (1, _), (4, _), (5, _), (6, _), (14, _), (19, _)]) rfl ?_
        refine ⟨_, ?_, j + 1, _, rfl, rfl, by omega, by assumption, by assumption, rfl⟩; omega
      ·
        have q1 := divN_even hc h19
        have q2 : c >>> 1 < 4294967296 := by omega
        refine C.region ?_
        refine E.pure (S.move rfl) rfl ?_
        refine E.pure (S.shr (b := ((1 : Nat) : Int)) rfl rfl (by omega) (N.shr_u32 (by omega) _)) rfl ?_
        refine E.pure (S.assign rfl) rfl ?_
        refine E.keep [0, 1, 4, 5, 6, 14, 19] (env1 := [(0, _), (1, _), (4, _), (5, _), (6, _), (14, _), (19, _)]) rfl ?_
        refine C.region ?_
        refine E.pure (S.move rfl) rfl ?_
        first | refine E.pure (S.add (b := ((1 : Nat) : Int)) rfl rfl (N.add64 (by omega))) rfl ?_ | refine E.pure (S.add (b := ((1 : Nat) : Int)) rfl rfl (N.addZ (by omega))) rfl ?_
        refine E.pure (S.assign rfl) rfl ?_
        refine E.keep [0, 1, 4, 5, 6, 14, 19] (env1 := [(0, _), (1, _), (4, _), (5, _), (6, _), (14, _), (19, _)]) rfl ?_
        refine ⟨_, ?_, j + 1, _, rfl, rfl, by omega, by assumption, by assumption, rfl⟩; omega
    ·
      have hj8 : j = 8 := by omega
      subst hj8
      subst hc
      have hlt : Nat.blt i (fillT poly i cs).length = true := by rw [fillT_length, Nat.blt_eq]; omega
      refine C.exit rfl ?_
      refine C.region ?_
      refine E.pure (S.move rfl) rfl ?_
      refine E.pure (S.move rfl) rfl ?_
      refine E.pure (S.move rfl) rfl ?_
      refine E.pure (S.nilPtr rfl) rfl ?_
      refine E.pure (S.ixArr (i := i) (s := 1) (m := 256) rfl rfl (by omega) Tryd.underlying131 Tryd.sizeOf52) rfl ?_
      refine E.loud0 (X.store 0 (k := i * 1) rfl rfl rfl rfl (by rw [Nat.mul_one]; exact hlt) Tryd.sizeOf52) ?_; rintro _ _ ⟨rfl, rfl⟩; refine E.relist (L2 := [_]) rfl ?_
      refine E.keep [0, 1, 4, 5, 6, 14] (env1 := [(0, _), (1, _), (4, _), (5, _), (6, _), (14, _)]) rfl ?_
      refine C.region ?_
      refine E.pure (S.move rfl) rfl ?_
      first | refine E.pure (S.add (b := ((1 : Nat) : Int)) rfl rfl (N.add64 (by omega))) rfl ?_ | refine E.pure (S.add (b := ((1 : Nat) : Int)) rfl rfl (N.addZ (by omega))) rfl ?_
      refine E.pure (S.assign rfl) rfl ?_
      refine E.keep [0, 1, 4, 5, 6, 14] (env1 := [(0, _), (1, _), (4, _), (5, _), (6, _), (14, _)]) rfl ?_
      refine ⟨_, ?_, i + 1, rfl, (by rw [fillT, Nat.mul_one]), by omega, rfl⟩; omega
  ·
    have hi8 : i = 256 := by omega
    subst hi8
    refine C.exit rfl ?_
    exact ⟨rfl, rfl⟩
theorem simpleUpdate_spec {K : Known} (crc poly tb pb po cap : Nat) (l : List UInt8) (hpoly : poly < 4294967296) (hcrc : crc < 4294967296) (hT : KT K tb poly) (hp : KB K pb po l) (hl : l.length ≤ 9223372036854775807) : Fn Tryd.prog K 63 #[.int .u32 ((crc : Nat) : Int), .pointer (some ⟨tb, 0 + 0 * 256, none⟩), .slice (some ⟨pb, po, none⟩) (l.length) (cap)] [] (fun v L => v = u32 (crcOn poly crc l) ∧ L = []) := by
  refine Fn.intro (args := [.int .u32 ((crc : Nat) : Int), .pointer (some ⟨tb, 0 + 0 * 256, none⟩), .slice (some ⟨pb, po, none⟩) (l.length) (cap)]) (RR := Ret1 6 _) Tryd.func63 rfl rfl Tryd.ntmps63 (res1 Tryd.results63) ?_
  refine C.reenv (env2 := [(0, .int .u32 ((crc : Nat) : Int)), (1, .pointer (some ⟨tb, 0 + 0 * 256, none⟩)), (2, .slice (some ⟨pb, po, none⟩) (l.length) (cap))]) rfl ?_
  refine C.seq ?_
  refine C.region ?_
  refine E.pure (S.assign rfl) rfl ?_
  refine E.keep [0, 1, 2, 6] (env1 := [(0, _), (1, _), (2, _), (6, _)]) rfl ?_
  refine C.seq ?_
  refine C.region ?_
  refine E.pure (S.move rfl) rfl ?_
  refine E.pure (S.not32 rfl (by omega)) rfl ?_
  refine E.pure (S.assign rfl) rfl ?_
  refine E.keep [0, 1, 2, 6] (env1 := [(0, _), (1, _), (2, _), (6, _)]) rfl ?_
  refine C.seq ?_
  refine C.seq ?_
  refine C.region ?_
  refine E.pure (S.move rfl) rfl ?_
  refine E.pure (S.lenSl rfl Tryd.underlying22) rfl ?_
  refine E.pure (S.move rfl) rfl ?_
  refine E.keep [0, 1, 6, 11, 12, 13] (env1 := [(0, _), (1, _), (6, _), (11, _), (12, _), (13, _)]) rfl ?_
  refine C.block ?_
  refine C.loop (fun mm ee ll => ∃ (i : Nat), ∃ (c : Nat), keeps ee [0, 1, 11, 12, 13] = some [(0, .int .u32 ((c : Nat) : Int)), (1, .pointer (some ⟨tb, 0 + 0 * 256, none⟩)), (11, .slice (some ⟨pb, po, none⟩) (l.length) (cap)), (12, .int .i64 ((l.length : Nat) : Int)), (13, .int .i64 ((i : Nat) : Int))] ∧ ll = [] ∧ (i ≤ l.length) ∧ (c = (nats (l.take i)).foldl (step poly) (not32 crc)) ∧ (c < 4294967296) ∧ mm = l.length - i) (_) ⟨0, _, rfl, rfl, by omega, rfl, not32_lt hcrc, rfl⟩ ?_
  rintro m0 _ _ ⟨i, c, hk0, rfl, hi, hc, hb, hm0⟩
  refine C.weaken _ hk0 ?_
  refine C.seq ?_
  refine C.region ?_
  refine E.pure (S.lt rfl rfl) rfl ?_
  refine E.keep [0, 1, 11, 12, 13, 14] (env1 := [(0, _), (1, _), (11, _), (12, _), (13, _), (14, _)]) rfl ?_
  refine C.seq ?_
  first | refine C.ifp rfl (fun h14 => ?_) (fun h14 => ?_) | refine C.cond rfl (fun h14 => ?_) (fun h14 => ?_)
  ·
    have hi2 : i < l.length := by omega
    have hv := l[i].toNat_lt
    have hx := xor8 (Nat.mod_lt c (by decide : 256 > 0)) hv
    have hx2 := TT_lt (poly := poly) (j := 0) hpoly hx
    have hc2 := (fold_take (poly := poly) (c0 := not32 crc) hi2).trans (by rw [← hc])
    have hst := step_table poly (c := c) hv
    refine C.skip ?_
    refine C.seq ?_
    refine C.block ?_
    refine C.seq ?_
    refine C.region ?_
    refine E.pure (S.ixSl rfl rfl (by omega) Tryd.underlying22 Tryd.sizeOf5) rfl ?_
    refine E.still (S.loadBase rfl (hp.at hi2) Tryd.isAgg5) rfl ?_
    refine E.pure (S.assign rfl) rfl ?_
    refine E.keep [0, 1, 8, 11, 12, 13, 14] (env1 := [(0, _), (1, _), (8, _), (11, _), (12, _), (13, _), (14, _)]) rfl ?_
    refine C.region ?_
    refine E.pure (S.move rfl) rfl ?_
    refine E.pure (S.move rfl) rfl ?_
    first | refine E.pure (S.conv rfl Tryd.underlying52 Tryd.underlying5 (N.in_u8 (by omega))) rfl ?_ | refine E.pure (S.conv rfl Tryd.underlying52 Tryd.underlying5 (N.mod_u8 _)) rfl ?_
    refine E.pure (S.move rfl) rfl ?_
    refine E.pure (S.xor rfl rfl (N.xor_u8 (by omega) (by omega))) rfl ?_
    first | refine E.pure (S.nilPtr rfl) rfl ?_ | refine E.pure (S.nilIface rfl) rfl ?_ | refine E.pure (S.nilFunc rfl) rfl ?_
    refine E.pure (S.ixArr rfl rfl (by omega) Tryd.underlying131 Tryd.sizeOf52) rfl ?_
    refine E.still (S.loadBase rfl (hT.at (by decide) hx) Tryd.isAgg52) rfl ?_
    refine E.pure (S.move rfl) rfl ?_
    refine E.pure (S.shr (b := ((8 : Nat) : Int)) rfl rfl (by omega) (N.shr_u32 (by omega) _)) rfl ?_
    refine E.pure (S.xor rfl rfl (N.xor_u32 (by omega) (by omega))) rfl ?_
    refine E.reslot (v := u32 (step poly c l[i].toNat)) (congrArg u32 hst) ?_
    refine E.pure (S.assign rfl) rfl ?_
    refine E.keep [0, 1, 8, 11, 12, 13, 14] (env1 := [(0, _), (1, _), (8, _), (11, _), (12, _), (13, _), (14, _)]) rfl ?_
    refine C.region ?_
    first | refine E.pure (S.add (b := ((1 : Nat) : Int)) rfl rfl (N.add64 (by omega))) rfl ?_ | refine E.pure (S.add (b := ((1 : Nat) : Int)) rfl rfl (N.addZ (by omega))) rfl ?_
    refine E.pure (S.move rfl) rfl ?_
    refine E.keep [0, 1, 8, 11, 12, 13, 14] (env1 := [(0, _), (1, _), (8, _), (11, _), (12, _), (13, _), (14, _)]) rfl ?_
    refine ⟨_, ?_, i + 1, _, rfl, rfl, by omega, hc2.symm, step_lt hpoly hb l[i].toNat_lt, rfl⟩; omega
  ·
    have hi2 : i = l.length := by omega
    subst hi2
    rw [fold_take_all] at hc
    refine C.exit rfl ?_
    refine C.seq ?_
    refine C.region ?_
    refine E.pure (S.move rfl) rfl ?_
    refine E.pure (S.not32 rfl (by omega)) rfl ?_
    refine E.pure (S.assign rfl) rfl ?_
    refine E.keep [0, 1, 6, 11, 12, 13, 14] (env1 := [(0, _), (1, _), (6, _), (11, _), (12, _), (13, _), (14, _)]) rfl ?_
    refine C.ret ?_
    exact ⟨_, rfl, by rw [hc]; rfl, rfl⟩
theorem zc135 : (Value.agg Tryd.zeroCells135).cells.toList.length = 2048 := by kernel_rfl

theorem slicingMakeTable_spec {K : Known} (poly : Nat) (hpoly : poly < 4294967296) : Fn Tryd.prog K 53 #[.int .u32 ((poly : Nat) : Int)] [] (fun v L => ∃ b cs, v = .pointer (some ⟨b, 0, none⟩) ∧ L = [⟨b, 0, cs⟩] ∧ TabAt poly cs 256 1) := by
  refine Fn.intro (args := [.int .u32 ((poly : Nat) : Int)]) (RR := Ret1 2 _) Tryd.func53 rfl rfl Tryd.ntmps53 (res1 Tryd.results53) ?_
  refine C.reenv (env2 := [(0, .int .u32 ((poly : Nat) : Int))]) rfl ?_
  refine C.seq ?_
  refine C.region ?_
  refine E.pure (S.assign rfl) rfl ?_
  refine E.keep [0, 2] (env1 := [(0, _), (2, _)]) rfl ?_
  refine C.seq ?_
  refine C.region ?_
  refine E.loud1 (X.alloc Tryd.zeroValue135) rfl ?_; rintro _ _ ⟨b7, rfl, rfl⟩; refine E.relist (L2 := [_]) rfl ?_
  have hz := zc135
  generalize (Value.agg Tryd.zeroCells135).cells.toList = cs0 at hz ⊢
  refine E.pure (S.assign rfl) rfl ?_
  refine E.keep [0, 2, 3] (env1 := [(0, _), (2, _), (3, _)]) rfl ?_
  refine C.seq ?_
  refine C.region ?_
  refine E.pure (S.move rfl) rfl ?_
  refine E.pure (S.move rfl) rfl ?_
  refine E.pure (S.nilPtr rfl) rfl ?_
  refine E.pure (S.ixArr (i := 0) rfl rfl (by omega) Tryd.underlying135 Tryd.sizeOf131) rfl ?_
  refine E.loud1 (OpX.pick [0] (F := []) rfl (X.call rfl Tryd.call64 (simplePopulateTable_spec b7 0 poly hpoly cs0 (by omega)))) rfl ?_; rintro _ _ ⟨_, ⟨rfl, rfl⟩, rfl⟩; refine E.relist (L2 := [_]) rfl ?_
  refine E.keep [2, 3] (env1 := [(2, _), (3, _)]) rfl ?_
  refine C.seq ?_
  refine C.seq ?_
  refine C.region ?_
  refine E.pure (S.assign rfl) rfl ?_
  refine E.keep [2, 3, 4] (env1 := [(2, _), (3, _), (4, _)]) rfl ?_
  refine C.block ?_
  refine C.loop (fun mm ee ll => ∃ (i : Nat), ∃ (cs : List Value), keeps ee [3, 4] = some [(3, .pointer (some ⟨b7, 0, none⟩)), (4, .int .i64 ((i : Nat) : Int))] ∧ ll = [⟨b7, 0, cs⟩] ∧ (i ≤ 256) ∧ (TabAt poly cs i 1) ∧ mm = 256 - i) (_) ⟨0, _, rfl, rfl, by omega, TabAt.init hz, rfl⟩ ?_
  rintro m0 _ _ ⟨i, cs, hk0, rfl, hi, hT, hm0⟩
  refine C.weaken _ hk0 ?_
  refine C.seq ?_
  refine C.seq ?_
  refine C.region ?_
  refine E.pure (S.move rfl) rfl ?_
  refine E.pure (S.lt (b := ((256 : Nat) : Int)) rfl rfl) rfl ?_
  refine E.keep [3, 4, 14] (env1 := [(3, _), (4, _), (14, _)]) rfl ?_
  first | refine C.ifp rfl (fun h14 => ?_) (fun h14 => ?_) | refine C.cond rfl (fun h14 => ?_) (fun h14 => ?_)
  ·
    have hi2 : i < 256 := by omega
    refine C.skip ?_
    refine C.seq ?_
    refine C.block ?_
    refine C.seq ?_
    refine C.region ?_
    refine E.pure (S.move rfl) rfl ?_
    refine E.pure (S.move rfl) rfl ?_
    refine E.pure (S.nilPtr rfl) rfl ?_
    refine E.pure (S.ixArr (i := 0) rfl rfl (by omega) Tryd.underlying135 Tryd.sizeOf131) rfl ?_
    refine E.pure (S.ixArr rfl rfl (by omega) Tryd.underlying131 Tryd.sizeOf52) rfl ?_
    refine E.reslot (v := .pointer (some ⟨b7, 0 + i, none⟩)) (by simp) ?_
    refine E.still (S.load 0 rfl rfl (hT.first i hi2) Tryd.isAgg52) rfl ?_
    refine E.pure (S.assign rfl) rfl ?_
    refine E.keep [3, 4, 5, 14] (env1 := [(3, _), (4, _), (5, _), (14, _)]) rfl ?_
    refine C.seq ?_
    refine C.region ?_
    refine E.pure (S.assign rfl) rfl ?_
    refine E.keep [3, 4, 5, 6, 14] (env1 := [(3, _), (4, _), (5, _), (6, _), (14, _)]) rfl ?_
    refine C.block ?_
    refine C.loop (fun mm ee ll => ∃ (j : Nat), ∃ (c : Nat), ∃ (cs2 : List Value), keeps ee [3, 4, 5, 6] = some [(3, .pointer (some ⟨b7, 0, none⟩)), (4, .int .i64 ((i : Nat) : Int)), (5, .int .u32 ((c : Nat) : Int)), (6, .int .i64 ((j : Nat) : Int))] ∧ ll = [⟨b7, 0, cs2⟩] ∧ (1 ≤ j ∧ j ≤ 8) ∧ (TabAt poly cs2 i j) ∧ (c = TT poly (j - 1) i) ∧ mm = 8 - j) (_) ⟨1, TT poly 0 i, cs, rfl, rfl, by omega, hT, rfl, rfl⟩ ?_
    rintro m1 _ _ ⟨j, c, cs2, hk1, rfl, hj, hT2, hc, hm1⟩
    refine C.weaken _ hk1 ?_
    refine C.seq ?_
    refine C.seq ?_
    refine C.region ?_
    refine E.pure (S.move rfl) rfl ?_
    refine E.pure (S.lt (b := ((8 : Nat) : Int)) rfl rfl) rfl ?_
    refine E.keep [3, 4, 5, 6, 24] (env1 := [(3, _), (4, _), (5, _), (6, _), (24, _)]) rfl ?_
    first | refine C.ifp rfl (fun h24 => ?_) (fun h24 => ?_) | refine C.cond rfl (fun h24 => ?_) (fun h24 => ?_)
    ·
      have hcl : c < 4294967296 := by rw [hc]; exact TT_lt hpoly hi2
      have hxl := TT_lt (poly := poly) (j := 0) hpoly (and255_lt c)
      have hst : u32 (TT poly 0 (c &&& 255) ^^^ c >>> 8) = u32 (TT poly j i) := by
        rw [hc, TT_succ, show j - 1 + 1 = j by omega]
      have hxi := TT_lt (poly := poly) (j := j) hpoly hi2
      refine C.skip ?_
      refine C.seq ?_
      refine C.block ?_
      refine C.seq ?_
      refine C.region ?_
      refine E.pure (S.move rfl) rfl ?_
      refine E.pure (S.move rfl) rfl ?_
      refine E.pure (S.and (b := ((255 : Nat) : Int)) rfl rfl (N.and_u32 (by omega) (by omega))) rfl ?_
      refine E.pure (S.nilPtr rfl) rfl ?_
      refine E.pure (S.ixArr (i := 0) rfl rfl (by omega) Tryd.underlying135 Tryd.sizeOf131) rfl ?_
      refine E.pure (S.ixArr rfl rfl (and255_lt c) Tryd.underlying131 Tryd.sizeOf52) rfl ?_
      refine E.reslot (v := .pointer (some ⟨b7, 0 + (c &&& 255), none⟩)) (by simp) ?_
      refine E.still (S.load 0 rfl rfl (hT2.first _ (and255_lt c)) Tryd.isAgg52) rfl ?_
      refine E.pure (S.move rfl) rfl ?_
      refine E.pure (S.shr (b := ((8 : Nat) : Int)) rfl rfl (by omega) (N.shr_u32 (by omega) _)) rfl ?_
      refine E.pure (S.xor rfl rfl (N.xor_u32 (by omega) (by omega))) rfl ?_
      refine E.reslot (v := u32 (TT poly j i)) hst ?_
      refine E.pure (S.assign rfl) rfl ?_
      refine E.keep [3, 4, 5, 6, 24] (env1 := [(3, _), (4, _), (5, _), (6, _), (24, _)]) rfl ?_
      refine C.region ?_
      refine E.pure (S.move rfl) rfl ?_
      refine E.pure (S.move rfl) rfl ?_
      refine E.pure (S.move rfl) rfl ?_
      refine E.pure (S.move rfl) rfl ?_
      refine E.pure (S.nilPtr rfl) rfl ?_
      refine E.pure (S.ixArr rfl rfl (by omega) Tryd.underlying135 Tryd.sizeOf131) rfl ?_
      refine E.pure (S.ixArr rfl rfl (by omega) Tryd.underlying131 Tryd.sizeOf52) rfl ?_
      refine E.reslot (v := .pointer (some ⟨b7, 0 + (j * 256 + i), none⟩)) (by simp [Nat.add_assoc]) ?_
      refine E.loud0 (X.store 0 (k := j * 256 + i) rfl rfl rfl rfl (by rw [hT2.len, Nat.blt_eq]; omega) Tryd.sizeOf52) ?_; rintro _ _ ⟨rfl, rfl⟩; refine E.relist (L2 := [_]) rfl ?_
      refine E.keep [3, 4, 5, 6, 24] (env1 := [(3, _), (4, _), (5, _), (6, _), (24, _)]) rfl ?_
      refine C.region ?_
      refine E.pure (S.move rfl) rfl ?_
      first | refine E.pure (S.add (b := ((1 : Nat) : Int)) rfl rfl (N.add64 (by omega))) rfl ?_ | refine E.pure (S.add (b := ((1 : Nat) : Int)) rfl rfl (N.addZ (by omega))) rfl ?_
      refine E.pure (S.assign rfl) rfl ?_
      refine E.keep [3, 4, 5, 6, 24] (env1 := [(3, _), (4, _), (5, _), (6, _), (24, _)]) rfl ?_
      refine ⟨_, ?_, j + 1, TT poly j i, _, rfl, rfl, by omega, hT2.set (by omega) (by omega) hi2, rfl, rfl⟩; omega
    ·
      have hj8 : j = 8 := by omega
      subst hj8
      refine C.exit rfl ?_
      refine C.region ?_
      refine E.pure (S.move rfl) rfl ?_
      first | refine E.pure (S.add (b := ((1 : Nat) : Int)) rfl rfl (N.add64 (by omega))) rfl ?_ | refine E.pure (S.add (b := ((1 : Nat) : Int)) rfl rfl (N.addZ (by omega))) rfl ?_
      refine E.pure (S.assign rfl) rfl ?_
      refine E.keep [3, 4, 5, 6, 24] (env1 := [(3, _), (4, _), (5, _), (6, _), (24, _)]) rfl ?_
      refine ⟨_, ?_, i + 1, _, rfl, rfl, by omega, hT2.next hi2, rfl⟩; omega
  ·
    have hi2 : i = 256 := by omega
    subst hi2
    refine C.exit rfl ?_
    refine C.seq ?_
    refine C.region ?_
    refine E.pure (S.move rfl) rfl ?_
    refine E.pure (S.assign rfl) rfl ?_
    refine E.keep [2, 3, 4, 14] (env1 := [(2, _), (3, _), (4, _), (14, _)]) rfl ?_
    refine C.ret ?_
    exact ⟨_, rfl, _, _, rfl, rfl, hT⟩
theorem crcLe32_spec {K : Known} (pb po n cap : Nat) (v0 v1 v2 v3 : UInt8) (l : List UInt8) (hn : 4 ≤ n) (hp : KB K pb po (v0 :: v1 :: v2 :: v3 :: l)) : Fn Tryd.prog K 62 #[.slice (some ⟨pb, po, none⟩) (n) (cap)] [] (fun v L => v = u32 (le32 v0.toNat v1.toNat v2.toNat v3.toNat) ∧ L = []) := by
  refine Fn.intro (args := [.slice (some ⟨pb, po, none⟩) (n) (cap)]) (RR := Ret1 2 _) Tryd.func62 rfl rfl Tryd.ntmps62 (res1 Tryd.results62) ?_
  refine C.reenv (env2 := [(0, .slice (some ⟨pb, po, none⟩) (n) (cap))]) rfl ?_
  refine C.seq ?_
  refine C.region ?_
  have g0 : cellAt K pb (po + 0 * 1) = some (u8 v0) := hp.at (j := 0) (by simp only [List.length_cons]; omega)
  have g1 : cellAt K pb (po + 1 * 1) = some (u8 v1) := hp.at (j := 1) (by simp only [List.length_cons]; omega)
  have g2 : cellAt K pb (po + 2 * 1) = some (u8 v2) := hp.at (j := 2) (by simp only [List.length_cons]; omega)
  have g3 : cellAt K pb (po + 3 * 1) = some (u8 v3) := hp.at (j := 3) (by simp only [List.length_cons]; omega)
  have e0 := v0.toNat_lt
  have e1 := v1.toNat_lt
  have e2 := v2.toNat_lt
  have e3 := v3.toNat_lt
  have f1 := or_lt (a := v0.toNat) (b := v1.toNat <<< 8 % 4294967296) (k := 32) (by omega) (by omega)
  have f2 := or_lt (b := v2.toNat <<< 16 % 4294967296) (k := 32) f1 (by omega)
  rw [show (2 : Nat) ^ 32 = 4294967296 from rfl] at f1 f2
  refine E.pure (S.assign rfl) rfl ?_
  refine E.keep [0, 2] (env1 := [(0, _), (2, _)]) rfl ?_
  refine C.seq ?_
  refine C.region ?_
  refine E.pure (S.move rfl) rfl ?_
  refine E.pure (S.ixSl (i := 3) rfl rfl (by omega) Tryd.underlying22 Tryd.sizeOf5) rfl ?_
  refine E.still (S.loadBase rfl (by assumption) Tryd.isAgg5) rfl ?_
  refine E.keep [0, 2] (env1 := [(0, _), (2, _)]) rfl ?_
  refine C.seq ?_
  refine C.draw [0, 1, 2, 4, 0, 16, 32, 64, 128, 264, 0, 1024, 2048, 4096, 8192, 16896, 0, 65536, 131072, 262144, 524288, 1081344, 4194303] (.pure 0 2063856 (.pure 1 2063857 (.pure 4 2063375 (.pure 5 2063391 (.pure 10 2032639 (.pure 11 2033663 (.pure 16 65535 (.pure 17 131071 (.seg [(2, 2063859), (3, 2063863), (6, 2063423), (7, 2063487), (8, 2063615), (9, 2063871), (12, 2035711), (13, 2039807), (14, 2047999), (15, 2064383), (18, 262143), (19, 524287), (20, 1048575), (21, 2097151), (22, 4194303)] .done))))))))) mixed (by decide +kernel) ?_
  refine D.pure rfl (S.move rfl) rfl ?_
  refine D.pure rfl (S.ixSl (i := 0) rfl rfl (by omega) Tryd.underlying22 Tryd.sizeOf5) rfl ?_
  refine D.pure rfl (S.move rfl) rfl ?_
  refine D.pure rfl (S.ixSl (i := 1) rfl rfl (by omega) Tryd.underlying22 Tryd.sizeOf5) rfl ?_
  refine D.pure rfl (S.move rfl) rfl ?_
  refine D.pure rfl (S.ixSl (i := 2) rfl rfl (by omega) Tryd.underlying22 Tryd.sizeOf5) rfl ?_
  refine D.pure rfl (S.move rfl) rfl ?_
  refine D.pure rfl (S.ixSl (i := 3) rfl rfl (by omega) Tryd.underlying22 Tryd.sizeOf5) rfl ?_
  refine D.seg (by decide) ?_
  refine W.still rfl (S.loadBase rfl (by assumption) Tryd.isAgg5) rfl ?_
  first | refine W.pure rfl (S.conv rfl Tryd.underlying5 Tryd.underlying52 (N.in_u32 (by omega))) rfl ?_ | refine W.pure rfl (S.conv rfl Tryd.underlying5 Tryd.underlying52 (N.mod_u32 _)) rfl ?_
  refine W.still rfl (S.loadBase rfl (by assumption) Tryd.isAgg5) rfl ?_
  first | refine W.pure rfl (S.conv rfl Tryd.underlying5 Tryd.underlying52 (N.in_u32 (by omega))) rfl ?_ | refine W.pure rfl (S.conv rfl Tryd.underlying5 Tryd.underlying52 (N.mod_u32 _)) rfl ?_
  refine W.pure rfl (S.shl (b := ((8 : Nat) : Int)) rfl rfl (by omega) (N.shl_u32 _ _)) rfl ?_
  refine W.pure rfl (S.or rfl rfl (N.or_u32 (by omega) (by omega))) rfl ?_
  refine W.still rfl (S.loadBase rfl (by assumption) Tryd.isAgg5) rfl ?_
  first | refine W.pure rfl (S.conv rfl Tryd.underlying5 Tryd.underlying52 (N.in_u32 (by omega))) rfl ?_ | refine W.pure rfl (S.conv rfl Tryd.underlying5 Tryd.underlying52 (N.mod_u32 _)) rfl ?_
  refine W.pure rfl (S.shl (b := ((16 : Nat) : Int)) rfl rfl (by omega) (N.shl_u32 _ _)) rfl ?_
  refine W.pure rfl (S.or rfl rfl (N.or_u32 (by omega) (by omega))) rfl ?_
  refine W.still rfl (S.loadBase rfl (by assumption) Tryd.isAgg5) rfl ?_
  first | refine W.pure rfl (S.conv rfl Tryd.underlying5 Tryd.underlying52 (N.in_u32 (by omega))) rfl ?_ | refine W.pure rfl (S.conv rfl Tryd.underlying5 Tryd.underlying52 (N.mod_u32 _)) rfl ?_
  refine W.pure rfl (S.shl (b := ((24 : Nat) : Int)) rfl rfl (by omega) (N.shl_u32 _ _)) rfl ?_
  refine W.pure rfl (S.or rfl rfl (N.or_u32 (by omega) (by omega))) rfl ?_
  refine W.pure rfl (S.assign rfl) rfl ?_
  refine W.nil ?_
  refine D.keep [0, 2] (env1 := [(0, _), (2, _)]) rfl ?_
  refine C.ret ?_
  exact ⟨_, rfl, rfl, rfl⟩
theorem slicingUpdate_spec {K : Known} (crc poly tb pb po cap : Nat) (l : List UInt8) (hpoly : poly < 4294967296) (hcrc : crc < 4294967296) (hT : KT K tb poly) (hp : KB K pb po l) (hl : l.length ≤ 9223372036854775807) (hcap : l.length ≤ cap) : Fn Tryd.prog K 52 #[.int .u32 ((crc : Nat) : Int), .pointer (some ⟨tb, 0, none⟩), .slice (some ⟨pb, po, none⟩) (l.length) (cap)] [] (fun v L => v = u32 (crcOn poly crc l) ∧ L = []) := by
  refine Fn.intro (args := [.int .u32 ((crc : Nat) : Int), .pointer (some ⟨tb, 0, none⟩), .slice (some ⟨pb, po, none⟩) (l.length) (cap)]) (RR := Ret1 6 _) Tryd.func52 rfl rfl Tryd.ntmps52 (res1 Tryd.results52) ?_
  refine C.reenv (env2 := [(0, .int .u32 ((crc : Nat) : Int)), (1, .pointer (some ⟨tb, 0, none⟩)), (2, .slice (some ⟨pb, po, none⟩) (l.length) (cap))]) rfl ?_
  refine C.seq ?_
  refine C.region ?_
  refine E.pure (S.assign rfl) rfl ?_
  refine E.keep [0, 1, 2, 6] (env1 := [(0, _), (1, _), (2, _), (6, _)]) rfl ?_
  refine C.cut (M := fun ee ll => ∃ (k : Nat), ∃ (c : Nat), keeps ee [0, 1, 2] = some [(0, .int .u32 ((c : Nat) : Int)), (1, .pointer (some ⟨tb, 0, none⟩)), (2, .slice (some ⟨pb, po + k, none⟩) (l.length - k) (cap - k))] ∧ ll = [] ∧ (k ≤ l.length) ∧ (c < 4294967296) ∧ (crcOn poly c (l.drop k) = crcOn poly crc l)) ?_ ?_
  ·
    refine C.seq ?_
    refine C.region ?_
    refine E.pure (S.move rfl) rfl ?_
    refine E.pure (S.lenSl rfl Tryd.underlying22) rfl ?_
    refine E.pure (S.ge (b := ((16 : Nat) : Int)) rfl rfl) rfl ?_
    refine E.keep [0, 1, 2, 6, 9] (env1 := [(0, _), (1, _), (2, _), (6, _), (9, _)]) rfl ?_
    first | refine C.ifp rfl (fun h9 => ?_) (fun h9 => ?_) | refine C.cond rfl (fun h9 => ?_) (fun h9 => ?_)
    ·
      refine C.seq ?_
      refine C.region ?_
      refine E.pure (S.move rfl) rfl ?_
      refine E.pure (S.not32 rfl (by omega)) rfl ?_
      refine E.pure (S.assign rfl) rfl ?_
      refine E.keep [0, 1, 2, 6, 9] (env1 := [(0, _), (1, _), (2, _), (6, _), (9, _)]) rfl ?_
      refine C.seq ?_
      refine C.block ?_
      refine C.loop (fun mm ee ll => ∃ (k : Nat), ∃ (c : Nat), keeps ee [0, 1, 2] = some [(0, .int .u32 ((c : Nat) : Int)), (1, .pointer (some ⟨tb, 0, none⟩)), (2, .slice (some ⟨pb, po + k, none⟩) (l.length - k) (cap - k))] ∧ ll = [] ∧ (k ≤ l.length) ∧ (c < 4294967296) ∧ (not32 ((nats (l.drop k)).foldl (step poly) c) = crcOn poly crc l) ∧ mm = l.length - k) (_) ⟨0, _, rfl, rfl, by omega, not32_lt hcrc, rfl, rfl⟩ ?_
      rintro m0 _ _ ⟨k, c, hk0, rfl, hk, hb, hc, hm0⟩
      refine C.weaken _ hk0 ?_
      refine C.seq ?_
      refine C.seq ?_
      refine C.region ?_
      refine E.pure (S.move rfl) rfl ?_
      refine E.pure (S.lenSl rfl Tryd.underlying22) rfl ?_
      refine E.pure (S.gt (b := ((8 : Nat) : Int)) rfl rfl) rfl ?_
      refine E.keep [0, 1, 2, 14] (env1 := [(0, _), (1, _), (2, _), (14, _)]) rfl ?_
      first | refine C.ifp rfl (fun h14 => ?_) (fun h14 => ?_) | refine C.cond rfl (fun h14 => ?_) (fun h14 => ?_)
      ·
        have h8 : 8 < l.length - k := by omega
        obtain ⟨v0, v1, v2, v3, v4, v5, v6, v7, r, hd, hd8⟩ := eight h8
        have hB := hp.drop k
        rw [hd] at hB
        have hle := le32_lt v0.toNat_lt v1.toNat_lt v2.toNat_lt v3.toNat_lt
        obtain ⟨zz, hC⟩ : ∃ zz, zz = c ^^^ le32 v0.toNat v1.toNat v2.toNat v3.toNat := ⟨_, rfl⟩
        have hCl : zz < 4294967296 := by rw [hC]; exact xor32 hb hle
        refine C.skip ?_
        refine C.block ?_
        refine C.seq ?_
        refine C.region ?_
        refine E.pure (S.move rfl) rfl ?_
        refine E.pure (S.move rfl) rfl ?_
        refine E.loud1 (OpX.pick [] (F := []) rfl (X.call rfl Tryd.call62 (crcLe32_spec pb (po + k) (l.length - k) (cap - k) v0 v1 v2 v3 (v4 :: v5 :: v6 :: v7 :: r) (by omega) hB))) rfl ?_; rintro _ _ ⟨_, ⟨rfl, rfl⟩, rfl⟩; refine E.relist (L2 := []) rfl ?_
        refine E.pure (S.xor rfl rfl (N.xor_u32 (by omega) (by omega))) rfl ?_
        refine E.reslot (v := u32 zz) (congrArg u32 hC.symm) ?_
        refine E.pure (S.assign rfl) rfl ?_
        refine E.keep [0, 1, 2, 14] (env1 := [(0, _), (1, _), (2, _), (14, _)]) rfl ?_
        refine C.seq ?_
        have g0 : cellAt K pb (po + k + 0 * 1) = some (u8 v0) := hB.at (j := 0) (by simp only [List.length_cons]; omega)
        have g1 : cellAt K pb (po + k + 1 * 1) = some (u8 v1) := hB.at (j := 1) (by simp only [List.length_cons]; omega)
        have g2 : cellAt K pb (po + k + 2 * 1) = some (u8 v2) := hB.at (j := 2) (by simp only [List.length_cons]; omega)
        have g3 : cellAt K pb (po + k + 3 * 1) = some (u8 v3) := hB.at (j := 3) (by simp only [List.length_cons]; omega)
        have g4 : cellAt K pb (po + k + 4 * 1) = some (u8 v4) := hB.at (j := 4) (by simp only [List.length_cons]; omega)
        have g5 : cellAt K pb (po + k + 5 * 1) = some (u8 v5) := hB.at (j := 5) (by simp only [List.length_cons]; omega)
        have g6 : cellAt K pb (po + k + 6 * 1) = some (u8 v6) := hB.at (j := 6) (by simp only [List.length_cons]; omega)
        have g7 : cellAt K pb (po + k + 7 * 1) = some (u8 v7) := hB.at (j := 7) (by simp only [List.length_cons]; omega)
        have e0 := v0.toNat_lt
        have e1 := v1.toNat_lt
        have e2 := v2.toNat_lt
        have e3 := v3.toNat_lt
        have e4 := v4.toNat_lt
        have e5 := v5.toNat_lt
        have e6 := v6.toNat_lt
        have e7 := v7.toNat_lt
        have i4 : zz >>> 24 < 256 := by omega
        have i5 := and255_lt (zz >>> 16)
        have i6 := and255_lt (zz >>> 8)
        have i7 := and255_lt zz
        have T0 := hT.at (j := 0) (k := v7.toNat) (by decide) (by omega)
        have b0 := TT_lt (poly := poly) (j := 0) (k := v7.toNat) hpoly (by omega)
        have T1 := hT.at (j := 1) (k := v6.toNat) (by decide) (by omega)
        have b1 := TT_lt (poly := poly) (j := 1) (k := v6.toNat) hpoly (by omega)
        have T2 := hT.at (j := 2) (k := v5.toNat) (by decide) (by omega)
        have b2 := TT_lt (poly := poly) (j := 2) (k := v5.toNat) hpoly (by omega)
        have T3 := hT.at (j := 3) (k := v4.toNat) (by decide) (by omega)
        have b3 := TT_lt (poly := poly) (j := 3) (k := v4.toNat) hpoly (by omega)
        have T4 := hT.at (j := 4) (k := (zz >>> 24)) (by decide) (by omega)
        have b4 := TT_lt (poly := poly) (j := 4) (k := (zz >>> 24)) hpoly (by omega)
        have T5 := hT.at (j := 5) (k := (zz >>> 16 &&& 255)) (by decide) (by omega)
        have b5 := TT_lt (poly := poly) (j := 5) (k := (zz >>> 16 &&& 255)) hpoly (by omega)
        have T6 := hT.at (j := 6) (k := (zz >>> 8 &&& 255)) (by decide) (by omega)
        have b6 := TT_lt (poly := poly) (j := 6) (k := (zz >>> 8 &&& 255)) hpoly (by omega)
        have T7 := hT.at (j := 7) (k := (zz &&& 255)) (by decide) (by omega)
        have b7 := TT_lt (poly := poly) (j := 7) (k := (zz &&& 255)) hpoly (by omega)
        have s1 := xor32 b0 b1
        have s2 := xor32 s1 b2
        have s3 := xor32 s2 b3
        have s4 := xor32 s3 b4
        have s5 := xor32 s4 b5
        have s6 := xor32 s5 b6
        have s7 := xor32 s6 b7
        have hS : TT poly 0 v7.toNat ^^^ TT poly 1 v6.toNat ^^^ TT poly 2 v5.toNat ^^^ TT poly 3 v4.toNat ^^^ TT poly 4 (zz >>> 24) ^^^ TT poly 5 (zz >>> 16 &&& 255) ^^^ TT poly 6 (zz >>> 8 &&& 255) ^^^ TT poly 7 (zz &&& 255) = [v0.toNat, v1.toNat, v2.toNat, v3.toNat, v4.toNat, v5.toNat, v6.toNat, v7.toNat].foldl (step poly) c := by rw [hC]; exact slice8 poly hb e0 e1 e2 e3
        refine C.draw [0, 0, 2, 4, 1, 16, 40, 64, 0, 0, 512, 1024, 256, 4096, 10240, 16384, 32896, 0, 0, 262144, 524288, 131072, 2097152, 5242880, 8388608, 16842752, 0, 0, 134217728, 268435456, 67108864, 1073741824, 2684354560, 4294967296, 8623489024, 0, 0, 68719476736, 34359738368, 274877906944, 687194767360, 1099511627776, 2216203124736, 0, 0, 17592186044416, 35184372088832, 8796093022208, 140737488355328, 351843720888320, 562949953421312, 1130297953353728, 0, 0, 9007199254740992, 18014398509481984, 4503599627370496, 72057594037927936, 180143985094819840, 288230376151711744, 578712552117108736, 0, 0, 4611686018427387904, 2305843009213693952, 18446744073709551616, 46116860184273879040, 73786976294838206464, 148726874094283259904, 590295810358705651711] (.pure 0 293992727459672293134 (.pure 1 293992727459672293169 (.pure 2 293992727459672293171 (.pure 4 293992727459672293135 (.pure 5 293992727459672293151 (.pure 8 293992727459672231679 (.pure 9 293992727459672240639 (.pure 10 293992727459672241151 (.pure 12 293992727459672231935 (.pure 13 293992727459672236031 (.pure 17 293992727459640770559 (.pure 18 293992727459645358079 (.pure 19 293992727459645620223 (.pure 21 293992727459640901631 (.pure 22 293992727459642998783 (.pure 26 293992727443532677119 (.pure 27 293992727445881487359 (.pure 28 293992727446015705087 (.pure 30 293992727443599785983 (.pure 31 293992727444673527807 (.pure 35 293992723319357439999 (.pure 36 293992723972192468991 (.pure 37 293992724040911945727 (.pure 38 293992723353717178367 (.pure 39 293992723628595085311 (.pure 40 293992724178350899199 (.pure 43 293990612016513941503 (.pure 44 293990919879769718783 (.pure 45 293990937471955763199 (.pure 46 293990972656327852031 (.pure 47 293990620812606963711 (.pure 48 293990761550095319039 (.pure 49 293991043025072029695 (.pure 52 292909616164549689343 (.pure 53 293067242151507656703 (.pure 54 293076249350762397695 (.pure 55 293094263749271879679 (.pure 56 292914119764177059839 (.pure 57 292986177358214987775 (.pure 58 293130292546290843647 (.pure 61 16140901064495857663 (.pure 62 59951918239556042751 (.pure 63 64563604257983430655 (.pure 64 18446744073709551615 (.pure 65 36893488147419103231 (.pure 66 73786976294838206463 (.seg [(3, 293992727459672293175), (6, 293992727459672293183), (7, 293992727459672293247), (11, 293992727459672242175), (14, 293992727459672244223), (15, 293992727459672260607), (16, 293992727459672293375), (20, 293992727459646144511), (23, 293992727459647193087), (24, 293992727459655581695), (25, 293992727459672358911), (29, 293992727446284140543), (32, 293992727446821011455), (33, 293992727451115978751), (34, 293992727459705913343), (41, 293992725277862526975), (42, 293992727476885782527), (50, 293991605975025451007), (51, 293992731874932293631), (59, 293418522922442555391), (60, 293994983674745978879), (67, 147573952589676412927), (68, 295147905179352825855), (69, 590295810358705651711)] .done))))))))))))))))))))))))))))))))))))))))))))))) mixed (by decide +kernel) ?_
        refine D.pure rfl (S.move rfl) rfl ?_
        refine D.pure rfl (S.move rfl) rfl ?_
        refine D.pure rfl (S.ixSl (i := 7) rfl rfl (by omega) Tryd.underlying22 Tryd.sizeOf5) rfl ?_
        refine D.pure rfl (S.nilPtr rfl) rfl ?_
        refine D.pure rfl (S.ixArr (i := 0) rfl rfl (by omega) Tryd.underlying135 Tryd.sizeOf131) rfl ?_
        refine D.pure rfl (S.move rfl) rfl ?_
        refine D.pure rfl (S.move rfl) rfl ?_
        refine D.pure rfl (S.ixSl (i := 6) rfl rfl (by omega) Tryd.underlying22 Tryd.sizeOf5) rfl ?_
        refine D.pure rfl (S.nilPtr rfl) rfl ?_
        refine D.pure rfl (S.ixArr (i := 1) rfl rfl (by omega) Tryd.underlying135 Tryd.sizeOf131) rfl ?_
        refine D.pure rfl (S.move rfl) rfl ?_
        refine D.pure rfl (S.move rfl) rfl ?_
        refine D.pure rfl (S.ixSl (i := 5) rfl rfl (by omega) Tryd.underlying22 Tryd.sizeOf5) rfl ?_
        refine D.pure rfl (S.nilPtr rfl) rfl ?_
        refine D.pure rfl (S.ixArr (i := 2) rfl rfl (by omega) Tryd.underlying135 Tryd.sizeOf131) rfl ?_
        refine D.pure rfl (S.move rfl) rfl ?_
        refine D.pure rfl (S.move rfl) rfl ?_
        refine D.pure rfl (S.ixSl (i := 4) rfl rfl (by omega) Tryd.underlying22 Tryd.sizeOf5) rfl ?_
        refine D.pure rfl (S.nilPtr rfl) rfl ?_
        refine D.pure rfl (S.ixArr (i := 3) rfl rfl (by omega) Tryd.underlying135 Tryd.sizeOf131) rfl ?_
        refine D.pure rfl (S.move rfl) rfl ?_
        refine D.pure rfl (S.move rfl) rfl ?_
        refine D.pure rfl (S.shr (b := ((24 : Nat) : Int)) rfl rfl (by omega) (N.shr_u32 (by omega) _)) rfl ?_
        refine D.pure rfl (S.nilPtr rfl) rfl ?_
        refine D.pure rfl (S.ixArr (i := 4) rfl rfl (by omega) Tryd.underlying135 Tryd.sizeOf131) rfl ?_
        refine D.pure rfl (S.ixArr rfl rfl (by omega) Tryd.underlying131 Tryd.sizeOf52) rfl ?_
        refine D.pure rfl (S.move rfl) rfl ?_
        refine D.pure rfl (S.move rfl) rfl ?_
        refine D.pure rfl (S.shr (b := ((16 : Nat) : Int)) rfl rfl (by omega) (N.shr_u32 (by omega) _)) rfl ?_
        refine D.pure rfl (S.and (b := ((255 : Nat) : Int)) rfl rfl (N.and_u32 (by omega) (by omega))) rfl ?_
        refine D.pure rfl (S.nilPtr rfl) rfl ?_
        refine D.pure rfl (S.ixArr (i := 5) rfl rfl (by omega) Tryd.underlying135 Tryd.sizeOf131) rfl ?_
        refine D.pure rfl (S.ixArr rfl rfl (by omega) Tryd.underlying131 Tryd.sizeOf52) rfl ?_
        refine D.pure rfl (S.move rfl) rfl ?_
        refine D.pure rfl (S.move rfl) rfl ?_
        refine D.pure rfl (S.shr (b := ((8 : Nat) : Int)) rfl rfl (by omega) (N.shr_u32 (by omega) _)) rfl ?_
        refine D.pure rfl (S.and (b := ((255 : Nat) : Int)) rfl rfl (N.and_u32 (by omega) (by omega))) rfl ?_
        refine D.pure rfl (S.nilPtr rfl) rfl ?_
        refine D.pure rfl (S.ixArr (i := 6) rfl rfl (by omega) Tryd.underlying135 Tryd.sizeOf131) rfl ?_
        refine D.pure rfl (S.ixArr rfl rfl (by omega) Tryd.underlying131 Tryd.sizeOf52) rfl ?_
        refine D.pure rfl (S.move rfl) rfl ?_
        refine D.pure rfl (S.move rfl) rfl ?_
        refine D.pure rfl (S.and (b := ((255 : Nat) : Int)) rfl rfl (N.and_u32 (by omega) (by omega))) rfl ?_
        refine D.pure rfl (S.nilPtr rfl) rfl ?_
        refine D.pure rfl (S.ixArr (i := 7) rfl rfl (by omega) Tryd.underlying135 Tryd.sizeOf131) rfl ?_
        refine D.pure rfl (S.ixArr rfl rfl (by omega) Tryd.underlying131 Tryd.sizeOf52) rfl ?_
        refine D.seg (by decide) ?_
        refine W.still rfl (S.loadBase rfl (by assumption) Tryd.isAgg5) rfl ?_
        refine W.pure rfl (S.ixArr rfl rfl (by omega) Tryd.underlying131 Tryd.sizeOf52) rfl ?_
        refine W.still rfl (S.loadBase rfl (by assumption) Tryd.isAgg52) rfl ?_
        refine W.still rfl (S.loadBase rfl (by assumption) Tryd.isAgg5) rfl ?_
        refine W.pure rfl (S.ixArr rfl rfl (by omega) Tryd.underlying131 Tryd.sizeOf52) rfl ?_
        refine W.still rfl (S.loadBase rfl (by assumption) Tryd.isAgg52) rfl ?_
        refine W.pure rfl (S.xor rfl rfl (N.xor_u32 (by omega) (by omega))) rfl ?_
        refine W.still rfl (S.loadBase rfl (by assumption) Tryd.isAgg5) rfl ?_
        refine W.pure rfl (S.ixArr rfl rfl (by omega) Tryd.underlying131 Tryd.sizeOf52) rfl ?_
        refine W.still rfl (S.loadBase rfl (by assumption) Tryd.isAgg52) rfl ?_
        refine W.pure rfl (S.xor rfl rfl (N.xor_u32 (by omega) (by omega))) rfl ?_
        refine W.still rfl (S.loadBase rfl (by assumption) Tryd.isAgg5) rfl ?_
        refine W.pure rfl (S.ixArr rfl rfl (by omega) Tryd.underlying131 Tryd.sizeOf52) rfl ?_
        refine W.still rfl (S.loadBase rfl (by assumption) Tryd.isAgg52) rfl ?_
        refine W.pure rfl (S.xor rfl rfl (N.xor_u32 (by omega) (by omega))) rfl ?_
        refine W.still rfl (S.loadBase rfl (by assumption) Tryd.isAgg52) rfl ?_
        refine W.pure rfl (S.xor rfl rfl (N.xor_u32 (by omega) (by omega))) rfl ?_
        refine W.still rfl (S.loadBase rfl (by assumption) Tryd.isAgg52) rfl ?_
        refine W.pure rfl (S.xor rfl rfl (N.xor_u32 (by omega) (by omega))) rfl ?_
        refine W.still rfl (S.loadBase rfl (by assumption) Tryd.isAgg52) rfl ?_
        refine W.pure rfl (S.xor rfl rfl (N.xor_u32 (by omega) (by omega))) rfl ?_
        refine W.still rfl (S.loadBase rfl (by assumption) Tryd.isAgg52) rfl ?_
        refine W.pure rfl (S.xor rfl rfl (N.xor_u32 (by omega) (by omega))) rfl ?_
        refine W.reslot (congrArg u32 hS) ?_
        refine W.pure rfl (S.assign rfl) rfl ?_
        refine W.nil ?_
        refine D.keep [0, 1, 2, 14] (env1 := [(0, _), (1, _), (2, _), (14, _)]) rfl ?_
        refine C.region ?_
        refine E.pure (S.move rfl) rfl ?_
        refine E.pure (S.slL (lo := 8) rfl rfl (by omega) Tryd.underlying22 Tryd.sizeOf5) rfl ?_
        refine E.reslot (v := .slice (some ⟨pb, po + (k + 8), none⟩) (l.length - (k + 8)) (cap - (k + 8))) (slice_to (by rw [part, if_neg (by omega)]; omega) (by omega) (by omega)) ?_
        refine E.pure (S.assign rfl) rfl ?_
        refine E.keep [0, 1, 2, 14] (env1 := [(0, _), (1, _), (2, _), (14, _)]) rfl ?_
        refine ⟨_, ?_, k + 8, _, rfl, rfl, by omega, hS ▸ s7, by rw [← hc, hd, hd8]; rfl, rfl⟩; omega
      ·
        refine C.exit rfl ?_
        refine C.region ?_
        refine E.pure (S.move rfl) rfl ?_
        refine E.pure (S.not32 rfl (by omega)) rfl ?_
        refine E.pure (S.assign rfl) rfl ?_
        refine E.keep [0, 1, 2, 14] (env1 := [(0, _), (1, _), (2, _), (14, _)]) rfl ?_
        first | exact ⟨0, crc, rfl, rfl, by omega, hcrc, rfl⟩ | exact ⟨_, not32 c, rfl, rfl, hk, not32_lt hb, by rw [← hc]; unfold crcOn; rw [not32_not32]⟩
    ·
      refine C.skip ?_
      first | exact ⟨0, crc, rfl, rfl, by omega, hcrc, rfl⟩ | exact ⟨_, not32 c, rfl, rfl, hk, not32_lt hb, by rw [← hc]; unfold crcOn; rw [not32_not32]⟩
  ·
    rintro _ _ ⟨k, c, hq8, rfl, hk, hb, hc⟩
    refine C.weaken _ hq8 ?_
    refine C.seq ?_
    refine C.seq ?_
    refine C.region ?_
    refine E.pure (S.move rfl) rfl ?_
    refine E.pure (S.lenSl rfl Tryd.underlying22) rfl ?_
    refine E.pure (S.eq (b := ((0 : Nat) : Int)) rfl rfl) rfl ?_
    refine E.keep [0, 1, 2, 94] (env1 := [(0, _), (1, _), (2, _), (94, _)]) rfl ?_
    first | refine C.ifp rfl (fun h94 => ?_) (fun h94 => ?_) | refine C.cond rfl (fun h94 => ?_) (fun h94 => ?_)
    ·
      refine C.seq ?_
      refine C.region ?_
      refine E.pure (S.move rfl) rfl ?_
      refine E.pure (S.assign rfl) rfl ?_
      refine E.keep [0, 1, 2, 6, 94] (env1 := [(0, _), (1, _), (2, _), (6, _), (94, _)]) rfl ?_
      refine C.ret ?_
      first | exact ⟨_, rfl, by rw [hc], rfl⟩ | (have hk2 : l.drop k = [] := List.drop_eq_nil_of_le (by omega); rw [hk2] at hc; exact ⟨_, rfl, by rw [← hc]; unfold crcOn; exact congrArg u32 (not32_not32 c).symm, rfl⟩)
    ·
      refine C.skip ?_
      refine C.seq ?_
      refine C.region ?_
      refine E.pure (S.move rfl) rfl ?_
      refine E.pure (S.move rfl) rfl ?_
      refine E.pure (S.nilPtr rfl) rfl ?_
      refine E.pure (S.ixArr (i := 0) rfl rfl (by omega) Tryd.underlying135 Tryd.sizeOf131) rfl ?_
      refine E.pure (S.move rfl) rfl ?_
      refine E.reslot (v := .slice (some ⟨pb, po + k, none⟩) ((l.drop k).length) (cap - k)) (slice_to rfl (by rw [List.length_drop]) rfl) ?_
      refine E.loud1 (OpX.pick [] (F := []) rfl (X.call rfl Tryd.call63 (simpleUpdate_spec c poly tb pb (po + k) (cap - k) (l.drop k) hpoly hb hT (hp.drop k) (by rw [List.length_drop]; omega)))) rfl ?_; rintro _ _ ⟨_, ⟨rfl, rfl⟩, rfl⟩; refine E.relist (L2 := []) rfl ?_
      refine E.pure (S.assign rfl) rfl ?_
      refine E.keep [0, 1, 2, 6, 94] (env1 := [(0, _), (1, _), (2, _), (6, _), (94, _)]) rfl ?_
      refine C.ret ?_
      first | exact ⟨_, rfl, by rw [hc], rfl⟩ | (have hk2 : l.drop k = [] := List.drop_eq_nil_of_le (by omega); rw [hk2] at hc; exact ⟨_, rfl, by rw [← hc]; unfold crcOn; exact congrArg u32 (not32_not32 c).symm, rfl⟩)
theorem slicingUpdate_any {K : Known} {L : Frags} (crc poly tb pb po cap : Nat) (l : List UInt8) (hpoly : poly < 4294967296) (hcrc : crc < 4294967296) {cs : List Value} (hm : ⟨tb, 0, cs⟩ ∈ L) (hT : TabAt poly cs 256 1)
    (hr : Reads K L pb po (bytesV l)) (hl : l.length ≤ 9223372036854775807) (hcap : l.length ≤ cap) :
    Fn Tryd.prog K 52 #[.int .u32 ((crc : Nat) : Int), .pointer (some ⟨tb, 0, none⟩), .slice (some ⟨pb, po, none⟩) (l.length) (cap)] L (fun v L' => v = u32 (crcOn poly crc l) ∧ L' = L) :=
  Fn.stillR fun w hw => Fn.mono (slicingUpdate_spec crc poly tb pb po cap l hpoly hcrc (fun j k hj hk => by
    have := hw.cellAt hm (hT.cols j k hj hk)
    rwa [Nat.zero_add] at this) (hr.kb hw) hl hcap) fun v L' h => h.1

abbrev IEEE : Nat := 3988292384

theorem KB.keep {K : Known} {w : World} {b o : Nat} {l : List UInt8} (h : KB K b o l) : KB K b o l := h

theorem UpdateIEEE_known {K : Known} (crc pb po cap : Nat) (l : List UInt8) (hcrc : crc < 4294967296) (hp : KB K pb po l) (hl : l.length ≤ 9223372036854775807) (hcap : l.length ≤ cap) : Fn Tryd.prog K 44 #[.int .u32 ((crc : Nat) : Int), .slice (some ⟨pb, po, none⟩) (l.length) (cap)] [] (fun v _ => v = u32 (crcOn IEEE crc l)) := by
  refine Fn.intro (args := [.int .u32 ((crc : Nat) : Int), .slice (some ⟨pb, po, none⟩) (l.length) (cap)]) (RR := Ret1 4 _) Tryd.func44 rfl rfl Tryd.ntmps44 (res1 Tryd.results44) ?_
  refine C.reenv (env2 := [(0, .int .u32 ((crc : Nat) : Int)), (1, .slice (some ⟨pb, po, none⟩) (l.length) (cap))]) rfl ?_
  refine C.seq ?_
  refine C.region ?_
  refine E.pure (S.assign rfl) rfl ?_
  refine E.keep [0, 1, 4] (env1 := [(0, _), (1, _), (4, _)]) rfl ?_
  refine C.seq ?_
  refine C.region ?_
  refine E.pure (S.move rfl) rfl ?_
  refine E.loud1 (OpX.pick [] (F := []) rfl (X.call rfl Tryd.call53 (slicingMakeTable_spec IEEE (by decide)))) rfl ?_; rintro _ _ ⟨_, ⟨tb, cs, rfl, rfl, hT⟩, rfl⟩; refine E.relist (L2 := [_]) rfl ?_
  refine E.pure (S.move rfl) rfl ?_
  refine E.loud1 (X.call rfl Tryd.call52 (slicingUpdate_any crc IEEE tb pb po cap l (by decide) hcrc (List.mem_singleton.2 rfl) hT hp.reads hl hcap)) rfl ?_; rintro _ _ ⟨rfl, rfl⟩; refine E.relist (L2 := [_]) rfl ?_
  refine E.pure (S.assign rfl) rfl ?_
  refine E.keep [4] (env1 := [(4, _)]) rfl ?_
  refine C.ret ?_
  exact ⟨_, rfl, rfl⟩
/-- UpdateIEEE goes on with the check. -/
theorem UpdateIEEE_spec {K : Known} {L : Frags} (crc pb po cap : Nat) (l : List UInt8) (hcrc : crc < 4294967296) (hr : Reads K L pb po (bytesV l)) (hl : l.length ≤ 9223372036854775807) (hcap : l.length ≤ cap) :
    Fn Tryd.prog K 44 #[.int .u32 ((crc : Nat) : Int), .slice (some ⟨pb, po, none⟩) (l.length) (cap)] L (fun v L' => v = u32 (crcOn IEEE crc l) ∧ L' = L) :=
  Fn.stillR fun w hw => UpdateIEEE_known crc pb po cap l hcrc (hr.kb hw) hl hcap

theorem ChecksumIEEE_known {K : Known} (pb po cap : Nat) (l : List UInt8) (hp : KB K pb po l) (hl : l.length ≤ 9223372036854775807) (hcap : l.length ≤ cap) : Fn Tryd.prog K 56 #[.slice (some ⟨pb, po, none⟩) (l.length) (cap)] [] (fun v _ => v = u32 (crcOn IEEE 0 l)) := by
  refine Fn.intro (args := [.slice (some ⟨pb, po, none⟩) (l.length) (cap)]) (RR := Ret1 2 _) Tryd.func56 rfl rfl Tryd.ntmps56 (res1 Tryd.results56) ?_
  refine C.reenv (env2 := [(0, .slice (some ⟨pb, po, none⟩) (l.length) (cap))]) rfl ?_
  refine C.seq ?_
  refine C.region ?_
  refine E.pure (S.assign rfl) rfl ?_
  refine E.keep [0, 2] (env1 := [(0, _), (2, _)]) rfl ?_
  refine C.seq ?_
  refine C.region ?_
  refine E.pure (S.move rfl) rfl ?_
  refine E.loud1 (X.call rfl Tryd.call44 (UpdateIEEE_spec 0 pb po cap l (by decide) hp.reads hl hcap)) rfl ?_; rintro _ _ ⟨rfl, rfl⟩; refine E.relist (L2 := []) rfl ?_
  refine E.pure (S.assign rfl) rfl ?_
  refine E.keep [2] (env1 := [(2, _)]) rfl ?_
  refine C.ret ?_
  exact ⟨_, rfl, rfl⟩
theorem ChecksumIEEE_spec {K : Known} {L : Frags} (pb po cap : Nat) (l : List UInt8) (hr : Reads K L pb po (bytesV l)) (hl : l.length ≤ 9223372036854775807) (hcap : l.length ≤ cap) :
    Fn Tryd.prog K 56 #[.slice (some ⟨pb, po, none⟩) (l.length) (cap)] L (fun v L' => v = u32 (crcOn IEEE 0 l) ∧ L' = L) :=
  Fn.stillR fun w hw => ChecksumIEEE_known pb po cap l (hr.kb hw) hl hcap

end Go.Eng
