/-
  Walks of the reference: checks, numbers.
-/
import Derived.Test.YtbjbmpcgiokdaaaDoorWImp
set_option linter.unusedVariables false
set_option linter.unusedSimpArgs false
namespace Go.Eng
open Go Go.Proofs
set_option maxRecDepth 100000


def littleN : List UInt8 → Nat
  | [] => 0
  | c :: r => c.toNat + 256 * littleN r

theorem littleN_lt : ∀ l : List UInt8, littleN l < 2 ^ (8 * l.length)
  | [] => by simp [littleN]
  | c :: r => by
    have h := littleN_lt r
    have hc := c.toNat_lt
    rw [littleN, List.length_cons, show 8 * (r.length + 1) = 8 * r.length + 8 by omega, Nat.pow_add]
    have : (2 : Nat) ^ 8 = 256 := by decide
    rw [this]; omega

theorem littleN_snoc : ∀ (l : List UInt8) (c : UInt8), littleN (l ++ [c]) = littleN l + c.toNat * 2 ^ (8 * l.length)
  | [], c => by simp [littleN]
  | x :: r, c => by
    rw [List.cons_append, littleN, littleN_snoc r c, littleN, List.length_cons, show 8 * (r.length + 1) = 8 * r.length + 8 by omega, Nat.pow_add]
    have : (2 : Nat) ^ 8 = 256 := by decide
    rw [this, Nat.mul_add, Nat.add_assoc]
    congr 2
    rw [Nat.mul_left_comm, Nat.mul_comm (2 ^ (8 * r.length)) 256]
theorem little_step {l : List UInt8} {i : Nat} (h : i < l.length) : littleN (l.take i) ||| (l[i].toNat <<< (8 * i)) = littleN (l.take (i + 1)) := by
  have hl : (l.take i).length = i := by rw [List.length_take]; omega
  have hlt := littleN_lt (l.take i)
  rw [hl] at hlt
  rw [take_snoc h, littleN_snoc, hl, Nat.or_comm, ← Nat.shiftLeft_add_eq_or_of_lt hlt, Nat.shiftLeft_eq, Nat.add_comm]

theorem divide_spec {K : Known} (poly c0 : Nat) (hp : poly < 4294967296) (hc0 : c0 < 4294967296) : Fn Tryd.prog K 50 #[.int .u32 ((poly : Nat) : Int), .int .u32 ((c0 : Nat) : Int)] [] (fun v L => v = u32 (divN poly 8 c0) ∧ L = []) := by
  refine Fn.intro (args := [.int .u32 ((poly : Nat) : Int), .int .u32 ((c0 : Nat) : Int)]) (RR := Ret1 4 _) Tryd.func50 rfl rfl Tryd.ntmps50 (res1 Tryd.results50) ?_
  refine C.reenv (env2 := [(0, .int .u32 ((poly : Nat) : Int)), (1, .int .u32 ((c0 : Nat) : Int))]) rfl ?_
  refine C.seq ?_
  refine C.region ?_
  refine E.pure (S.assign rfl) rfl ?_
  refine E.keep [0, 1, 4] (env1 := [(0, _), (1, _), (4, _)]) rfl ?_
  refine C.seq ?_
  refine C.seq ?_
  refine C.region ?_
  refine E.pure (S.move rfl) rfl ?_
  refine E.keep [0, 1, 4, 5] (env1 := [(0, _), (1, _), (4, _), (5, _)]) rfl ?_
  refine C.block ?_
  refine C.loop (fun mm ee ll => ∃ (j : Nat), ∃ (c : Nat), keeps ee [0, 1, 5] = some [(0, .int .u32 ((poly : Nat) : Int)), (1, .int .u32 ((c : Nat) : Int)), (5, .int .i64 ((j : Nat) : Int))] ∧ ll = [] ∧ (j ≤ 8) ∧ (c = divN poly j c0) ∧ (c < 4294967296) ∧ mm = 8 - j) (_) ⟨0, c0, rfl, rfl, by omega, rfl, hc0, rfl⟩ ?_
  rintro m0 _ _ ⟨j, c, hk0, rfl, hj, hc, hb, hm0⟩
  refine C.weaken _ hk0 ?_
  refine C.seq ?_
  refine C.region ?_
  refine E.pure (S.lt (b := ((8 : Nat) : Int)) rfl rfl) rfl ?_
  refine E.keep [0, 1, 5, 6] (env1 := [(0, _), (1, _), (5, _), (6, _)]) rfl ?_
  refine C.seq ?_
  first | refine C.ifp rfl (fun h6 => ?_) (fun h6 => ?_) | refine C.cond rfl (fun h6 => ?_) (fun h6 => ?_)
  ·
    refine C.skip ?_
    refine C.seq ?_
    refine C.block ?_
    refine C.seq ?_
    refine C.region ?_
    refine E.pure (S.move rfl) rfl ?_
    refine E.pure (S.and (b := ((1 : Nat) : Int)) rfl rfl (N.and_u32 (by omega) (by omega))) rfl ?_
    refine E.pure (S.eq (b := ((1 : Nat) : Int)) rfl rfl) rfl ?_
    refine E.keep [0, 1, 5, 6, 9] (env1 := [(0, _), (1, _), (5, _), (6, _), (9, _)]) rfl ?_
    first | refine C.ifp rfl (fun h9 => ?_) (fun h9 => ?_) | refine C.cond rfl (fun h9 => ?_) (fun h9 => ?_)
    ·
      have q1 := divN_odd hc h9
      have q2 : c >>> 1 ^^^ poly < 4294967296 := xor32 (by omega) hp
      refine C.region ?_
      refine E.pure (S.move rfl) rfl ?_
      refine E.pure (S.shr (b := ((1 : Nat) : Int)) rfl rfl (by omega) (N.shr_u32 (by omega) _)) rfl ?_
      refine E.pure (S.move rfl) rfl ?_
      refine E.pure (S.xor rfl rfl (N.xor_u32 (by omega) (by omega))) rfl ?_
      refine E.pure (S.assign rfl) rfl ?_
      refine E.keep [0, 1, 5, 6, 9] (env1 := [(0, _), (1, _), (5, _), (6, _), (9, _)]) rfl ?_
      refine C.region ?_
      first | refine E.pure (S.add (b := ((1 : Nat) : Int)) rfl rfl (N.add64 (by omega))) rfl ?_ | refine E.pure (S.add (b := ((1 : Nat) : Int)) rfl rfl (N.addZ (by omega))) rfl ?_
      refine E.pure (S.move rfl) rfl ?_
      refine E.keep [0, 1, 5, 6, 9] (env1 := [(0, _), (1, _), (5, _), (6, _), (9, _)]) rfl ?_
      refine ⟨_, ?_, j + 1, _, rfl, rfl, by omega, q1, q2, rfl⟩; omega
    ·
      have q1 := divN_even hc h9
      have q2 : c >>> 1 < 4294967296 := by omega
      refine C.region ?_
      refine E.pure (S.move rfl) rfl ?_
      refine E.pure (S.shr (b := ((1 : Nat) : Int)) rfl rfl (by omega) (N.shr_u32 (by omega) _)) rfl ?_
      refine E.pure (S.assign rfl) rfl ?_
      refine E.keep [0, 1, 5, 6, 9] (env1 := [(0, _), (1, _), (5, _), (6, _), (9, _)]) rfl ?_
      refine C.region ?_
      first | refine E.pure (S.add (b := ((1 : Nat) : Int)) rfl rfl (N.add64 (by omega))) rfl ?_ | refine E.pure (S.add (b := ((1 : Nat) : Int)) rfl rfl (N.addZ (by omega))) rfl ?_
      refine E.pure (S.move rfl) rfl ?_
      refine E.keep [0, 1, 5, 6, 9] (env1 := [(0, _), (1, _), (5, _), (6, _), (9, _)]) rfl ?_
      refine ⟨_, ?_, j + 1, _, rfl, rfl, by omega, q1, q2, rfl⟩; omega
  ·
    have hj8 : j = 8 := by omega
    subst hj8
    subst hc
    refine C.exit rfl ?_
    refine C.seq ?_
    refine C.region ?_
    refine E.pure (S.move rfl) rfl ?_
    refine E.pure (S.assign rfl) rfl ?_
    refine E.keep [0, 1, 4, 5, 6] (env1 := [(0, _), (1, _), (4, _), (5, _), (6, _)]) rfl ?_
    refine C.ret ?_
    exact ⟨_, rfl, rfl, rfl⟩
theorem update_spec {K : Known} (poly sum pb po cap : Nat) (l : List UInt8) (hpoly : poly < 4294967296) (hsum : sum < 4294967296) (hp : KB K pb po l) (hl : l.length ≤ 9223372036854775806) : Fn Tryd.prog K 39 #[.int .u32 ((poly : Nat) : Int), .int .u32 ((sum : Nat) : Int), .slice (some ⟨pb, po, none⟩) (l.length) (cap)] [] (fun v L => v = u32 (crcOn poly sum l) ∧ L = []) := by
  refine Fn.intro (args := [.int .u32 ((poly : Nat) : Int), .int .u32 ((sum : Nat) : Int), .slice (some ⟨pb, po, none⟩) (l.length) (cap)]) (RR := Ret1 6 _) Tryd.func39 rfl rfl Tryd.ntmps39 (res1 Tryd.results39) ?_
  refine C.reenv (env2 := [(0, .int .u32 ((poly : Nat) : Int)), (1, .int .u32 ((sum : Nat) : Int)), (2, .slice (some ⟨pb, po, none⟩) (l.length) (cap))]) rfl ?_
  refine C.seq ?_
  refine C.region ?_
  refine E.pure (S.assign rfl) rfl ?_
  refine E.keep [0, 1, 2, 6] (env1 := [(0, _), (1, _), (2, _), (6, _)]) rfl ?_
  refine C.seq ?_
  refine C.region ?_
  refine E.pure (S.move rfl) rfl ?_
  refine E.pure (S.not32 rfl (by omega)) rfl ?_
  refine E.pure (S.assign rfl) rfl ?_
  refine E.keep [0, 2, 6, 7] (env1 := [(0, _), (2, _), (6, _), (7, _)]) rfl ?_
  refine C.seq ?_
  refine C.seq ?_
  refine C.region ?_
  refine E.pure (S.move rfl) rfl ?_
  refine E.pure (S.lenSl rfl Tryd.underlying22) rfl ?_
  refine E.pure (S.move rfl) rfl ?_
  refine E.keep [0, 6, 7, 12, 13, 14] (env1 := [(0, _), (6, _), (7, _), (12, _), (13, _), (14, _)]) rfl ?_
  refine C.block ?_
  refine C.loop (fun mm ee ll => ∃ (i : Nat), ∃ (c : Nat), keeps ee [0, 7, 12, 13, 14] = some [(0, .int .u32 ((poly : Nat) : Int)), (7, .int .u32 ((c : Nat) : Int)), (12, .slice (some ⟨pb, po, none⟩) (l.length) (cap)), (13, .int .i64 ((l.length : Nat) : Int)), (14, .int .i64 ((i : Nat) : Int))] ∧ ll = [] ∧ (i ≤ l.length) ∧ (c = (nats (l.take i)).foldl (step poly) (not32 sum)) ∧ (c < 4294967296) ∧ mm = l.length - i) (_) ⟨0, _, rfl, rfl, by omega, rfl, not32_lt hsum, rfl⟩ ?_
  rintro m0 _ _ ⟨i, c, hk0, rfl, hi, hc, hb, hm0⟩
  refine C.weaken _ hk0 ?_
  refine C.seq ?_
  refine C.region ?_
  refine E.pure (S.lt rfl rfl) rfl ?_
  refine E.keep [0, 7, 12, 13, 14, 15] (env1 := [(0, _), (7, _), (12, _), (13, _), (14, _), (15, _)]) rfl ?_
  refine C.seq ?_
  first | refine C.ifp rfl (fun h15 => ?_) (fun h15 => ?_) | refine C.cond rfl (fun h15 => ?_) (fun h15 => ?_)
  ·
    have hi2 : i < l.length := by omega
    have hv := l[i].toNat_lt
    have hc2 := (fold_take (poly := poly) (c0 := not32 sum) hi2).trans (by rw [← hc])
    refine C.skip ?_
    refine C.seq ?_
    refine C.block ?_
    refine C.seq ?_
    refine C.region ?_
    refine E.pure (S.ixSl rfl rfl (by omega) Tryd.underlying22 Tryd.sizeOf5) rfl ?_
    refine E.still (S.loadBase rfl (hp.at hi2) Tryd.isAgg5) rfl ?_
    refine E.pure (S.assign rfl) rfl ?_
    refine E.keep [0, 7, 9, 12, 13, 14, 15] (env1 := [(0, _), (7, _), (9, _), (12, _), (13, _), (14, _), (15, _)]) rfl ?_
    refine C.region ?_
    refine E.pure (S.move rfl) rfl ?_
    refine E.pure (S.move rfl) rfl ?_
    refine E.pure (S.move rfl) rfl ?_
    first | refine E.pure (S.conv rfl Tryd.underlying5 Tryd.underlying52 (N.in_u32 (by omega))) rfl ?_ | refine E.pure (S.conv rfl Tryd.underlying5 Tryd.underlying52 (N.mod_u32 _)) rfl ?_
    refine E.pure (S.xor rfl rfl (N.xor_u32 (by omega) (by omega))) rfl ?_
    refine E.loud1 (OpX.pick [] (F := []) rfl (X.call rfl Tryd.call50 (divide_spec poly (c ^^^ l[i].toNat) hpoly (xor32 hb (by omega))))) rfl ?_; rintro _ _ ⟨_, ⟨rfl, rfl⟩, rfl⟩; refine E.relist (L2 := []) rfl ?_
    refine E.pure (S.assign rfl) rfl ?_
    refine E.keep [0, 7, 9, 12, 13, 14, 15] (env1 := [(0, _), (7, _), (9, _), (12, _), (13, _), (14, _), (15, _)]) rfl ?_
    refine C.region ?_
    first | refine E.pure (S.add (b := ((1 : Nat) : Int)) rfl rfl (N.add64 (by omega))) rfl ?_ | refine E.pure (S.add (b := ((1 : Nat) : Int)) rfl rfl (N.addZ (by omega))) rfl ?_
    refine E.pure (S.move rfl) rfl ?_
    refine E.keep [0, 7, 9, 12, 13, 14, 15] (env1 := [(0, _), (7, _), (9, _), (12, _), (13, _), (14, _), (15, _)]) rfl ?_
    refine ⟨_, ?_, i + 1, _, rfl, rfl, by omega, hc2.symm, step_lt hpoly hb l[i].toNat_lt, rfl⟩; omega
  ·
    have hi2 : i = l.length := by omega
    subst hi2
    rw [fold_take_all] at hc
    refine C.exit rfl ?_
    refine C.seq ?_
    refine C.region ?_
    refine E.pure (S.move rfl) rfl ?_
    refine E.pure (S.not32 rfl (by omega)) rfl ?_
    refine E.pure (S.assign rfl) rfl ?_
    refine E.keep [0, 6, 7, 12, 13, 14, 15] (env1 := [(0, _), (6, _), (7, _), (12, _), (13, _), (14, _), (15, _)]) rfl ?_
    refine C.ret ?_
    exact ⟨_, rfl, by rw [hc]; rfl, rfl⟩
theorem check_spec {K : Known} (pb po cap : Nat) (l : List UInt8) (hp : KB K pb po l) (hl : l.length ≤ 9223372036854775806) : Fn Tryd.prog K 22 #[.slice (some ⟨pb, po, none⟩) (l.length) (cap)] [] (fun v L => v = u32 (crcOn IEEE 0 l) ∧ L = []) := by
  refine Fn.intro (args := [.slice (some ⟨pb, po, none⟩) (l.length) (cap)]) (RR := Ret1 2 _) Tryd.func22 rfl rfl Tryd.ntmps22 (res1 Tryd.results22) ?_
  refine C.reenv (env2 := [(0, .slice (some ⟨pb, po, none⟩) (l.length) (cap))]) rfl ?_
  refine C.seq ?_
  refine C.region ?_
  refine E.pure (S.assign rfl) rfl ?_
  refine E.keep [0, 2] (env1 := [(0, _), (2, _)]) rfl ?_
  refine C.seq ?_
  refine C.region ?_
  refine E.pure (S.move rfl) rfl ?_
  refine E.loud1 (OpX.pick [] (F := []) rfl (X.call rfl Tryd.call39 (update_spec IEEE 0 pb po cap l (by decide) (by decide) hp hl))) rfl ?_; rintro _ _ ⟨_, ⟨rfl, rfl⟩, rfl⟩; refine E.relist (L2 := []) rfl ?_
  refine E.pure (S.assign rfl) rfl ?_
  refine E.keep [2] (env1 := [(2, _)]) rfl ?_
  refine C.ret ?_
  exact ⟨_, rfl, rfl, rfl⟩
theorem little_spec {K : Known} (pb po cap : Nat) (l : List UInt8) (hp : KB K pb po l) (hl : l.length ≤ 4) : Fn Tryd.prog K 20 #[.slice (some ⟨pb, po, none⟩) (l.length) (cap)] [] (fun v L => v = .int .i64 ((littleN l : Nat) : Int) ∧ L = []) := by
  refine Fn.intro (args := [.slice (some ⟨pb, po, none⟩) (l.length) (cap)]) (RR := Ret1 2 _) Tryd.func20 rfl rfl Tryd.ntmps20 (res1 Tryd.results20) ?_
  refine C.reenv (env2 := [(0, .slice (some ⟨pb, po, none⟩) (l.length) (cap))]) rfl ?_
  refine C.seq ?_
  refine C.region ?_
  refine E.pure (S.assign rfl) rfl ?_
  refine E.keep [0, 2] (env1 := [(0, _), (2, _)]) rfl ?_
  refine C.seq ?_
  refine C.region ?_
  refine E.pure (S.assign rfl) rfl ?_
  refine E.keep [0, 2, 3] (env1 := [(0, _), (2, _), (3, _)]) rfl ?_
  refine C.seq ?_
  refine C.seq ?_
  refine C.region ?_
  refine E.pure (S.move rfl) rfl ?_
  refine E.pure (S.lenSl rfl Tryd.underlying22) rfl ?_
  refine E.pure (S.move rfl) rfl ?_
  refine E.keep [0, 2, 3, 6, 7] (env1 := [(0, _), (2, _), (3, _), (6, _), (7, _)]) rfl ?_
  refine C.block ?_
  refine C.loop (fun mm ee ll => ∃ (i : Nat), keeps ee [0, 3, 6, 7] = some [(0, .slice (some ⟨pb, po, none⟩) (l.length) (cap)), (3, .int .i64 ((littleN (l.take i) : Nat) : Int)), (6, .int .i64 ((l.length : Nat) : Int)), (7, .int .i64 ((i : Nat) : Int))] ∧ ll = [] ∧ (i ≤ l.length) ∧ mm = l.length - i) (_) ⟨0, rfl, rfl, by omega, rfl⟩ ?_
  rintro m0 _ _ ⟨i, hk0, rfl, hi, hm0⟩
  refine C.weaken _ hk0 ?_
  refine C.seq ?_
  refine C.region ?_
  refine E.pure (S.lt rfl rfl) rfl ?_
  refine E.keep [0, 3, 6, 7, 8] (env1 := [(0, _), (3, _), (6, _), (7, _), (8, _)]) rfl ?_
  refine C.seq ?_
  first | refine C.ifp rfl (fun h8 => ?_) (fun h8 => ?_) | refine C.cond rfl (fun h8 => ?_) (fun h8 => ?_)
  ·
    have hi2 : i < l.length := by omega
    have hv := l[i].toNat_lt
    have hst := little_step hi2
    have hb1 := littleN_lt (l.take i)
    have hb2 : littleN (l.take i) < 9223372036854775808 := by
      have : 2 ^ (8 * (l.take i).length) ≤ 2 ^ 32 := Nat.pow_le_pow_right (by decide) (by rw [List.length_take]; omega)
      omega
    have hb3 : l[i].toNat <<< (8 * i) < 9223372036854775808 := by
      rw [Nat.shiftLeft_eq]
      have h1 : 2 ^ (8 * i) ≤ 2 ^ 24 := Nat.pow_le_pow_right (by decide) (by omega)
      have h2 : l[i].toNat * 2 ^ (8 * i) ≤ 255 * 2 ^ 24 := Nat.mul_le_mul (by omega) h1
      omega
    refine C.skip ?_
    refine C.seq ?_
    refine C.block ?_
    refine C.seq ?_
    refine C.region ?_
    refine E.pure (S.move rfl) rfl ?_
    refine E.pure (S.assign rfl) rfl ?_
    refine E.keep [0, 3, 4, 6, 7, 8] (env1 := [(0, _), (3, _), (4, _), (6, _), (7, _), (8, _)]) rfl ?_
    refine C.region ?_
    refine E.pure (S.move rfl) rfl ?_
    refine E.pure (S.move rfl) rfl ?_
    refine E.pure (S.move rfl) rfl ?_
    refine E.pure (S.ixSl rfl rfl (by omega) Tryd.underlying22 Tryd.sizeOf5) rfl ?_
    refine E.still (S.loadBase rfl (hp.at hi2) Tryd.isAgg5) rfl ?_
    refine E.pure (S.conv rfl Tryd.underlying5 Tryd.underlying2 (N.i64n (by omega))) rfl ?_
    refine E.pure (S.move rfl) rfl ?_
    first | refine E.pure (S.mul (a := ((8 : Nat) : Int)) rfl rfl (N.mul64 (by omega))) rfl ?_ | refine E.pure (S.mul (a := ((8 : Nat) : Int)) rfl rfl (N.mulZ (by omega))) rfl ?_
    refine E.pure (S.shl (a := ((l[i].toNat : Nat) : Int)) (b := ((8 * i : Nat) : Int)) rfl rfl (by omega) (N.shl64 hb3)) rfl ?_
    refine E.pure (S.or (b := ((l[i].toNat <<< (8 * i) : Nat) : Int)) rfl rfl (N.or64 hb2 hb3)) rfl ?_
    refine E.reslot (v := .int .i64 ((littleN (l.take (i + 1)) : Nat) : Int)) (by rw [hst]) ?_
    refine E.pure (S.assign rfl) rfl ?_
    refine E.keep [0, 3, 4, 6, 7, 8] (env1 := [(0, _), (3, _), (4, _), (6, _), (7, _), (8, _)]) rfl ?_
    refine C.region ?_
    first | refine E.pure (S.add (b := ((1 : Nat) : Int)) rfl rfl (N.add64 (by omega))) rfl ?_ | refine E.pure (S.add (b := ((1 : Nat) : Int)) rfl rfl (N.addZ (by omega))) rfl ?_
    refine E.pure (S.move rfl) rfl ?_
    refine E.keep [0, 3, 4, 6, 7, 8] (env1 := [(0, _), (3, _), (4, _), (6, _), (7, _), (8, _)]) rfl ?_
    refine ⟨_, ?_, i + 1, rfl, rfl, by omega, rfl⟩; omega
  ·
    have hi2 : i = l.length := by omega
    subst hi2
    refine C.exit rfl ?_
    refine C.seq ?_
    refine C.region ?_
    refine E.pure (S.move rfl) rfl ?_
    refine E.pure (S.assign rfl) rfl ?_
    refine E.keep [0, 2, 3, 6, 7, 8] (env1 := [(0, _), (2, _), (3, _), (6, _), (7, _), (8, _)]) rfl ?_
    refine C.ret ?_
    exact ⟨_, rfl, by rw [List.take_length], rfl⟩
end Go.Eng
