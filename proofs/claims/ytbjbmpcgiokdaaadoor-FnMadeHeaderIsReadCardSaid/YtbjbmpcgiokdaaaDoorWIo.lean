/-
  Walks of package io: ReadAtLeast, ReadFull, of a source.
-/
import Derived.Test.YtbjbmpcgiokdaaaDoorSrc
set_option linter.unusedVariables false
set_option linter.unusedSimpArgs false
namespace Go.Eng
open Go Go.Proofs
set_option maxRecDepth 100000


/-- How ReadFull ends. -/
def fullErr (l : List UInt8) (m : Nat) : Er := if m ≤ l.length then .none else if l.length = 0 then .eof else .unexp

theorem rdErr_nil {l : List UInt8} (h : l.length = 0) : rdErr l = .eof := by
  rw [List.eq_nil_of_length_eq_zero h]; rfl
theorem rdErr_cons {l : List UInt8} (h : l.length ≠ 0) : rdErr l = .none := by
  cases l with
  | nil => simp at h
  | cons c r => rfl

theorem min_i {l : List UInt8} {m : Nat} : Nat.min m l.length = min m l.length := rfl

theorem drop_min (l : List UInt8) (m : Nat) : l.drop (Nat.min m l.length) = l.drop m := by
  rcases Nat.le_total m l.length with h | h
  · rw [min_i, Nat.min_eq_left h]
  · rw [min_i, Nat.min_eq_right h, List.drop_length, List.drop_eq_nil_of_le h]

theorem take_min (l : List UInt8) (m : Nat) : l.take (Nat.min m l.length) = l.take m := by
  rcases Nat.le_total m l.length with h | h
  · rw [min_i, Nat.min_eq_left h]
  · rw [min_i, Nat.min_eq_right h, List.take_length, List.take_of_length_le h]

theorem more_bytes {l : List UInt8} {cs : List Value} (k j : Nat) (hk : k ≤ l.length) : bytesV (l.take k) ++ (bytesV ((l.drop k).take j) ++ (cs.drop k).drop j) = bytesV (l.take (k + j)) ++ cs.drop (k + j) := by
  rw [← List.append_assoc, ← bytesV_append, ← List.take_add, List.drop_drop]


theorem ra_step {l : List UInt8} {k j m : Nat} (hk : k ≤ l.length) (hj : j ≤ (l.drop k).length) (hkm : k < m) : rdErr (l.drop k) = .none ∨ (rdErr (l.drop k) = .eof ∧ k + j = l.length ∧ k + j < m) := by
  by_cases hz : (l.drop k).length = 0
  · rw [List.length_drop] at hz hj
    exact .inr ⟨rdErr_nil (by rw [List.length_drop]; exact hz), by omega, by omega⟩
  · exact .inl (rdErr_cons hz)
theorem ra_lt {l : List UInt8} {k j m : Nat} (hj : l.drop k ≠ [] → 0 < j) (hkm : k < m) :
    2 * (m - (k + j)) + (if (rdErr (l.drop k)).isNone then 1 else 0) < 2 * (m - k) + (if Er.none.isNone then 1 else 0) := by
  have h1 : (if Er.none.isNone = true then 1 else 0) = 1 := rfl
  rw [h1]
  by_cases hz : (l.drop k).length = 0
  · rw [rdErr_nil hz]
    have : (if Er.eof.isNone = true then 1 else 0) = 0 := rfl
    rw [this]; omega
  · rw [rdErr_cons hz, h1]
    have := hj (fun h => hz (by rw [h]; rfl))
    omega
theorem fullErr_all {l : List UInt8} {m : Nat} (h : m ≤ l.length) : fullErr l m = .none := by rw [fullErr, if_pos h]
theorem fullErr_eof {l : List UInt8} {m : Nat} (h : l.length < m) (h0 : l.length = 0) : fullErr l m = .eof := by rw [fullErr, if_neg (by omega), if_pos h0]
theorem fullErr_part {l : List UInt8} {m : Nat} (h : l.length < m) (h0 : l.length ≠ 0) : fullErr l m = .unexp := by rw [fullErr, if_neg (by omega), if_neg h0]
theorem full_end {l : List UInt8} {k m : Nat} (h : k = l.length) (hm : k < m) : l.take k = l.take m ∧ l.drop k = l.drop m ∧ Nat.min m l.length = k := by
  subst h
  rw [List.take_length, List.take_of_length_le (by omega), List.drop_length, List.drop_eq_nil_of_le (by omega)]
  exact ⟨rfl, rfl, Nat.min_eq_right (by omega)⟩

theorem readAtLeast_spec {K : Known} {ea : Fin 5 → Addr} (hs : Sents K ea) (src : Src K ea) (l : List UInt8) (x1 x2 x3 : Frag) (b o m mc : Nat) (cs : List Value) (hA : src.At l x1 x2 x3) (hm : m = cs.length) (hmc : m ≤ mc) (hml : m ≤ 4611686018427387904) : Fn Tryd.prog K 54 #[.iface src.t src.v, .slice (some ⟨b, o, none⟩) (m) (mc), .int .i64 ((m : Nat) : Int)] [x1, x2, x3, ⟨b, o, cs⟩] (fun r L => ∃ f1 f2 f3, src.At (l.drop m) f1 f2 f3 ∧ r = .tuple #[.int .i64 ((Nat.min m l.length : Nat) : Int), Er.val ea (fullErr l m)] ∧ L = [f1, f2, f3, ⟨b, o, bytesV (l.take m) ++ cs.drop (Nat.min m l.length)⟩]) := by
  refine Fn.intro (args := [.iface src.t src.v, .slice (some ⟨b, o, none⟩) (m) (mc), .int .i64 ((m : Nat) : Int)]) (RR := Ret2 6 7 _) Tryd.func54 rfl rfl Tryd.ntmps54 (res2 Tryd.results54) ?_
  refine C.reenv (env2 := [(0, .iface src.t src.v), (1, .slice (some ⟨b, o, none⟩) (m) (mc)), (2, .int .i64 ((m : Nat) : Int))]) rfl ?_
  refine C.seq ?_
  refine C.region ?_
  refine E.pure (S.assign rfl) rfl ?_
  refine E.pure (S.assign (v := Er.val ea .none) rfl) rfl ?_
  refine E.keep [0, 1, 2, 6, 7] (env1 := [(0, _), (1, _), (2, _), (6, _), (7, _)]) rfl ?_
  refine C.seq ?_
  refine C.seq ?_
  refine C.region ?_
  refine E.pure (S.move rfl) rfl ?_
  refine E.pure (S.lenSl rfl Tryd.underlying22) rfl ?_
  refine E.pure (S.move rfl) rfl ?_
  refine E.pure (S.lt rfl rfl) rfl ?_
  refine E.keep [0, 1, 2, 6, 7, 12] (env1 := [(0, _), (1, _), (2, _), (6, _), (7, _), (12, _)]) rfl ?_
  first | refine C.ifp rfl (fun h12 => ?_) (fun h12 => ?_) | refine C.ifNone rfl (fun h12 => ?_) (fun h12 => ?_) | refine C.ifSome rfl (fun h12 => ?_) (fun h12 => ?_) | refine C.ifSe rfl (fun h12 => ?_) (fun h12 => ?_) | refine C.ifNotSe rfl (fun h12 => ?_) (fun h12 => ?_) | refine C.cond rfl (fun h12 => ?_) (fun h12 => ?_)
  ·
    exact absurd h12 (by omega)
  ·
    refine C.skip ?_
    refine C.cut (M := fun ee ll => ∃ (k : Nat), ∃ (e : Er), ∃ (g1 : Frag), ∃ (g2 : Frag), ∃ (g3 : Frag), keeps ee [0, 1, 2, 6, 7] = some [(0, .iface src.t src.v), (1, .slice (some ⟨b, o, none⟩) (m) (mc)), (2, .int .i64 ((m : Nat) : Int)), (6, .int .i64 ((k : Nat) : Int)), (7, Er.val ea e)] ∧ ll = [g1, g2, g3, ⟨b, o, bytesV (l.take k) ++ cs.drop k⟩] ∧ (src.At (l.drop k) g1 g2 g3) ∧ (k = m ∧ k ≤ l.length ∨ (e = .eof ∧ k = l.length ∧ k < m))) ?_ ?_
    ·
      refine C.block ?_
      refine C.loop (fun mm ee ll => ∃ (k : Nat), ∃ (e : Er), ∃ (g1 : Frag), ∃ (g2 : Frag), ∃ (g3 : Frag), keeps ee [0, 1, 2, 6, 7] = some [(0, .iface src.t src.v), (1, .slice (some ⟨b, o, none⟩) (m) (mc)), (2, .int .i64 ((m : Nat) : Int)), (6, .int .i64 ((k : Nat) : Int)), (7, Er.val ea e)] ∧ ll = [g1, g2, g3, ⟨b, o, bytesV (l.take k) ++ cs.drop k⟩] ∧ (k ≤ l.length) ∧ (k ≤ m) ∧ (src.At (l.drop k) g1 g2 g3) ∧ (e = .none ∨ (e = .eof ∧ k = l.length ∧ k < m)) ∧ mm = 2 * (m - k) + (if e.isNone then 1 else 0)) (_) ⟨0, .none, x1, x2, x3, rfl, rfl, by omega, by omega, hA, .inl rfl, rfl⟩ ?_
      rintro m0 _ _ ⟨k, e, g1, g2, g3, hk0, rfl, hk, hkm, hG, hE, hm0⟩
      refine C.weaken _ hk0 ?_
      refine C.seq ?_
      refine C.seq ?_
      refine C.region ?_
      refine E.pure (S.move rfl) rfl ?_
      refine E.pure (S.move rfl) rfl ?_
      refine E.pure (S.lt rfl rfl) rfl ?_
      refine E.pure (S.move rfl) rfl ?_
      first | refine E.fork (fun g17 => ?_) (fun g17 => ?_) | refine E.forkB (fun g17 => ?_) (fun g17 => ?_)
      ·
        refine E.wanted 17 rfl rfl ?_
        refine E.pure (S.move rfl) rfl ?_
        refine E.wanted 17 rfl rfl ?_
        refine E.still (S.eqErNil rfl) rfl ?_
        refine E.pure (S.pickT rfl rfl) rfl ?_
        refine E.keep [0, 1, 2, 6, 7, 20] (env1 := [(0, _), (1, _), (2, _), (6, _), (7, _), (20, _)]) rfl ?_
        first | refine C.ifp rfl (fun h20 => ?_) (fun h20 => ?_) | refine C.ifNone rfl (fun h20 => ?_) (fun h20 => ?_) | refine C.ifSome rfl (fun h20 => ?_) (fun h20 => ?_) | refine C.ifSe rfl (fun h20 => ?_) (fun h20 => ?_) | refine C.ifNotSe rfl (fun h20 => ?_) (fun h20 => ?_) | refine C.cond rfl (fun h20 => ?_) (fun h20 => ?_)
        ·
          subst h20
          refine C.skip ?_
          refine C.block ?_
          refine C.seq ?_
          refine C.region ?_
          refine E.pure (S.assign rfl) rfl ?_
          refine E.keep [0, 1, 2, 6, 7, 8, 20] (env1 := [(0, _), (1, _), (2, _), (6, _), (7, _), (8, _), (20, _)]) rfl ?_
          refine C.seq ?_
          have hkm2 : k < m := by omega
          have hxs : (bytesV (l.take k)).length = k := by rw [bytesV_length, List.length_take]; omega
          have hcs : cs.length - k = m - k := by omega
          refine C.same (Same.splitAt (k := k) 3 rfl rfl rfl hxs rfl) ?_
          refine C.relist (L2 := [⟨b, o, bytesV (l.take k)⟩, ⟨b, o + k, cs.drop k⟩, g1, g2, g3]) rfl ?_
          refine C.draw [0, 0, 0, 6, 1, 16, 49, 72, 128, 256, 256, 1023, 4095] (.pure 0 14 (.pure 1 117 (.pure 2 115 (.pure 3 119 (.pure 4 15 (.pure 5 31 (.pure 6 63 (.alt 7 (.pure 8 255 (.pure 9 1535 (.pure 10 3071 (.pure 11 2047 (.pure 12 4095 .done))))) .stop)))))))) mixed (by decide +kernel) ?_
          refine D.pure rfl (S.move rfl) rfl ?_
          refine D.pure rfl (S.move rfl) rfl ?_
          refine D.pure rfl (S.move rfl) rfl ?_
          refine D.pure rfl (S.slL rfl rfl (by omega) Tryd.underlying22 Tryd.sizeOf5) rfl ?_
          refine D.reslot (v := .slice (some ⟨b, o + k, none⟩) (m - k) (mc - k)) (slice_to (by rw [part, if_neg (by omega)]; omega) rfl rfl) ?_
          refine D.pure rfl (S.mkMethod rfl) rfl ?_
          first | refine D.pure rfl (S.nilPtr rfl) rfl ?_ | refine D.pure rfl (S.nilIface rfl) rfl ?_ | refine D.pure rfl (S.nilFunc rfl) rfl ?_ | refine D.pure rfl (S.nilMethod rfl src.nRead) rfl ?_
          refine D.pure rfl (S.move rfl) rfl ?_
          refine D.one ?_
          refine O.loud1 rfl (OpX.pick [2, 2, 2, 1] (F := [_]) rfl (X.invoke rfl rfl src.mRead src.cRead (src.read _ _ _ _ b (o + k) (m - k) (mc - k) (cs.drop k) hG (by omega) (by rw [List.length_drop]; omega) (by omega)))) rfl ?_; rintro _ _ ⟨_, ⟨j, f1, f2, f3, hF, hj1, hj2, hj3, rfl, rfl⟩, rfl⟩; refine D.relist (L2 := [_, _, _, _, _]) rfl ?_
          refine D.pure rfl (S.move rfl) rfl ?_
          refine D.pure rfl (S.extract rfl rfl) rfl ?_
          refine D.pure rfl (S.extract rfl rfl) rfl ?_
          refine D.pure rfl (S.assign rfl) rfl ?_
          refine D.pure rfl (S.assign rfl) rfl ?_
          refine D.keep [0, 1, 2, 6, 7, 8, 20] (env1 := [(0, _), (1, _), (2, _), (6, _), (7, _), (8, _), (20, _)]) rfl ?_
          refine C.same (Same.joinAt 4 3 rfl rfl (by rw [hxs])) ?_
          refine C.relist (L2 := [⟨b, o, bytesV (l.take k) ++ (bytesV ((l.drop k).take j) ++ (cs.drop k).drop j)⟩, f1, f2, f3]) rfl ?_
          rw [more_bytes k j hk]
          refine C.perml [1, 1, 1, 0] (A := [_, _, _, _]) (F := []) rfl ?_
          refine C.relist (L2 := [f1, f2, f3, ⟨b, o, bytesV (l.take (k + j)) ++ cs.drop (k + j)⟩]) rfl ?_
          refine C.region ?_
          refine E.pure (S.move rfl) rfl ?_
          refine E.pure (S.move rfl) rfl ?_
          first | refine E.pure (S.add rfl rfl (N.add64 (by omega))) rfl ?_ | refine E.pure (S.add rfl rfl (N.addZ (by omega))) rfl ?_
          refine E.pure (S.assign rfl) rfl ?_
          refine E.keep [0, 1, 2, 6, 7, 8, 20] (env1 := [(0, _), (1, _), (2, _), (6, _), (7, _), (8, _), (20, _)]) rfl ?_
          refine ⟨_, ?_, k + j, _, f1, f2, f3, rfl, rfl, by rw [List.length_drop] at hj2; omega, by omega, by rw [← List.drop_drop]; exact hF, ra_step hk hj2 hkm2, rfl⟩; (rw [hm0]; exact ra_lt hj3 hkm2)
        ·
          refine C.exit rfl ?_
          exact ⟨_, _, _, _, _, rfl, rfl, hG, by first | exact .inl ⟨by omega, hk⟩ | exact .inr (hE.resolve_left h20)⟩
      ·
        refine E.guardNo 17 false rfl rfl rfl rfl ?_
        refine E.guardNo 17 false rfl rfl rfl rfl ?_
        refine E.pure (S.pickF rfl rfl) rfl ?_
        refine E.keep [0, 1, 2, 6, 7, 20] (env1 := [(0, _), (1, _), (2, _), (6, _), (7, _), (20, _)]) rfl ?_
        refine C.no rfl (rfl) ?_
        refine C.exit rfl ?_
        exact ⟨_, _, _, _, _, rfl, rfl, hG, by first | exact .inl ⟨by omega, hk⟩ | exact .inr (hE.resolve_left h20)⟩
    ·
      rintro _ _ ⟨k, e, g1, g2, g3, hq7, rfl, hG, hkm⟩
      refine C.weaken _ hq7 ?_
      refine C.seq ?_
      refine C.seq ?_
      refine C.region ?_
      refine E.pure (S.move rfl) rfl ?_
      refine E.pure (S.move rfl) rfl ?_
      refine E.pure (S.ge rfl rfl) rfl ?_
      refine E.keep [0, 1, 2, 6, 7, 37] (env1 := [(0, _), (1, _), (2, _), (6, _), (7, _), (37, _)]) rfl ?_
      first | refine C.ifp rfl (fun h37 => ?_) (fun h37 => ?_) | refine C.ifNone rfl (fun h37 => ?_) (fun h37 => ?_) | refine C.ifSome rfl (fun h37 => ?_) (fun h37 => ?_) | refine C.ifSe rfl (fun h37 => ?_) (fun h37 => ?_) | refine C.ifNotSe rfl (fun h37 => ?_) (fun h37 => ?_) | refine C.cond rfl (fun h37 => ?_) (fun h37 => ?_)
      ·
        obtain ⟨rfl, hkl⟩ : k = m ∧ k ≤ l.length := hkm.resolve_right (by omega)
        refine C.region ?_
        refine E.pure (S.assign (v := Er.val ea .none) rfl) rfl ?_
        refine E.keep [0, 1, 2, 6, 7, 37] (env1 := [(0, _), (1, _), (2, _), (6, _), (7, _), (37, _)]) rfl ?_
        refine C.ret ?_
        first | exact ⟨_, _, rfl, rfl, g1, g2, g3, hG, by rw [fullErr_all hkl, min_i, Nat.min_eq_left hkl], by rw [min_i, Nat.min_eq_left hkl]⟩ | exact ⟨_, _, rfl, rfl, g1, g2, g3, hG, by rw [fullErr_part (by omega) (by omega), q3], by rw [q1, q3]⟩ | exact ⟨_, _, rfl, rfl, g1, g2, g3, hG, by rw [fullErr_eof (by omega) (by omega), q3, he], by rw [q1, q3]⟩
      ·
        obtain ⟨he, hkl, hkm3⟩ := hkm.resolve_left (by omega)
        obtain ⟨q1, q2, q3⟩ := full_end hkl hkm3
        rw [q2] at hG
        refine C.seq ?_
        refine C.region ?_
        refine E.pure (S.move rfl) rfl ?_
        refine E.pure (S.gt (b := ((0 : Nat) : Int)) rfl rfl) rfl ?_
        refine E.pure (S.move rfl) rfl ?_
        first | refine E.fork (fun g40 => ?_) (fun g40 => ?_) | refine E.forkB (fun g40 => ?_) (fun g40 => ?_)
        ·
          refine E.wanted 40 rfl rfl ?_
          refine E.pure (S.move rfl) rfl ?_
          refine E.wanted 40 rfl rfl ?_
          refine E.still (S.loadBase rfl hs.g0 Tryd.isAgg59) rfl ?_
          refine E.wanted 40 rfl rfl ?_
          refine E.still (S.eqEr hs rfl rfl) rfl ?_
          refine E.pure (S.pickT rfl rfl) rfl ?_
          refine E.keep [0, 1, 2, 6, 7, 37, 44] (env1 := [(0, _), (1, _), (2, _), (6, _), (7, _), (37, _), (44, _)]) rfl ?_
          first | refine C.ifp rfl (fun h44 => ?_) (fun h44 => ?_) | refine C.ifNone rfl (fun h44 => ?_) (fun h44 => ?_) | refine C.ifSome rfl (fun h44 => ?_) (fun h44 => ?_) | refine C.ifSe rfl (fun h44 => ?_) (fun h44 => ?_) | refine C.ifNotSe rfl (fun h44 => ?_) (fun h44 => ?_) | refine C.cond rfl (fun h44 => ?_) (fun h44 => ?_)
          ·
            refine C.region ?_
            refine E.still (S.loadBase rfl hs.g3 Tryd.isAgg59) rfl ?_
            refine E.pure (S.assign rfl) rfl ?_
            refine E.keep [0, 1, 2, 6, 7, 37, 44] (env1 := [(0, _), (1, _), (2, _), (6, _), (7, _), (37, _), (44, _)]) rfl ?_
            refine C.ret ?_
            first | exact ⟨_, _, rfl, rfl, g1, g2, g3, hG, by rw [fullErr_all hkl, min_i, Nat.min_eq_left hkl], by rw [min_i, Nat.min_eq_left hkl]⟩ | exact ⟨_, _, rfl, rfl, g1, g2, g3, hG, by rw [fullErr_part (by omega) (by omega), q3], by rw [q1, q3]⟩ | exact ⟨_, _, rfl, rfl, g1, g2, g3, hG, by rw [fullErr_eof (by omega) (by omega), q3, he], by rw [q1, q3]⟩
          ·
            exact absurd he h44
        ·
          refine E.guardNo 40 false rfl rfl rfl rfl ?_
          refine E.guardNo 40 false rfl rfl rfl rfl ?_
          refine E.guardNo 40 false rfl rfl rfl rfl ?_
          refine E.pure (S.pickF rfl rfl) rfl ?_
          refine E.keep [0, 1, 2, 6, 7, 37, 44] (env1 := [(0, _), (1, _), (2, _), (6, _), (7, _), (37, _), (44, _)]) rfl ?_
          refine C.no rfl (rfl) ?_
          refine C.skip ?_
          refine C.ret ?_
          first | exact ⟨_, _, rfl, rfl, g1, g2, g3, hG, by rw [fullErr_all hkl, min_i, Nat.min_eq_left hkl], by rw [min_i, Nat.min_eq_left hkl]⟩ | exact ⟨_, _, rfl, rfl, g1, g2, g3, hG, by rw [fullErr_part (by omega) (by omega), q3], by rw [q1, q3]⟩ | exact ⟨_, _, rfl, rfl, g1, g2, g3, hG, by rw [fullErr_eof (by omega) (by omega), q3, he], by rw [q1, q3]⟩
theorem readFull_spec {K : Known} {ea : Fin 5 → Addr} (hs : Sents K ea) (src : Src K ea) (l : List UInt8) (x1 x2 x3 : Frag) (b o m mc : Nat) (cs : List Value) (hA : src.At l x1 x2 x3) (hm : m = cs.length) (hmc : m ≤ mc) (hml : m ≤ 4611686018427387904) : Fn Tryd.prog K 45 #[.iface src.t src.v, .slice (some ⟨b, o, none⟩) (m) (mc)] [x1, x2, x3, ⟨b, o, cs⟩] (fun r L => ∃ f1 f2 f3, src.At (l.drop m) f1 f2 f3 ∧ r = .tuple #[.int .i64 ((Nat.min m l.length : Nat) : Int), Er.val ea (fullErr l m)] ∧ L = [f1, f2, f3, ⟨b, o, bytesV (l.take m) ++ cs.drop (Nat.min m l.length)⟩]) := by
  refine Fn.intro (args := [.iface src.t src.v, .slice (some ⟨b, o, none⟩) (m) (mc)]) (RR := Ret2 4 5 _) Tryd.func45 rfl rfl Tryd.ntmps45 (res2 Tryd.results45) ?_
  refine C.reenv (env2 := [(0, .iface src.t src.v), (1, .slice (some ⟨b, o, none⟩) (m) (mc))]) rfl ?_
  refine C.seq ?_
  refine C.region ?_
  refine E.pure (S.assign rfl) rfl ?_
  refine E.pure (S.assign (v := Er.val ea .none) rfl) rfl ?_
  refine E.keep [0, 1, 4, 5] (env1 := [(0, _), (1, _), (4, _), (5, _)]) rfl ?_
  refine C.seq ?_
  refine C.region ?_
  refine E.pure (S.move rfl) rfl ?_
  refine E.pure (S.move rfl) rfl ?_
  refine E.pure (S.move rfl) rfl ?_
  refine E.pure (S.lenSl rfl Tryd.underlying22) rfl ?_
  refine E.loud1 (OpX.pick [0, 0, 0, 0] (F := []) rfl (X.call rfl Tryd.call54 (readAtLeast_spec hs src l x1 x2 x3 b o m mc cs hA hm hmc hml))) rfl ?_; rintro _ _ ⟨_, ⟨f1, f2, f3, hF, rfl, rfl⟩, rfl⟩; refine E.relist (L2 := [_, _, _, _]) rfl ?_
  refine E.pure (S.extract rfl rfl) rfl ?_
  refine E.pure (S.extract rfl rfl) rfl ?_
  refine E.pure (S.assign rfl) rfl ?_
  refine E.pure (S.assign rfl) rfl ?_
  refine E.keep [4, 5] (env1 := [(4, _), (5, _)]) rfl ?_
  refine C.ret ?_
  exact ⟨_, _, rfl, rfl, f1, f2, f3, hF, rfl, rfl⟩
end Go.Eng
