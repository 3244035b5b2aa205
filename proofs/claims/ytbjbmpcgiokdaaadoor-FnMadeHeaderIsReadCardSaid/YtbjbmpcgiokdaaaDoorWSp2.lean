/-
  Walk of the reference: Latin.
-/
import Derived.Test.YtbjbmpcgiokdaaaDoorWSp1
set_option linter.unusedVariables false
set_option linter.unusedSimpArgs false
namespace Go.Eng
open Go Go.Proofs
set_option maxRecDepth 100000


theorem Reads.mem {K : Known} {L : Frags} {b o k : Nat} {cs vs : List Value} (hL : ⟨b, o, cs⟩ ∈ L) (h : (cs.drop k).take vs.length = vs) : Reads K L b (o + k) vs := by
  obtain ⟨i, hi⟩ := List.mem_iff_getElem?.1 hL
  exact Reads.frag hi h

theorem Sl.reads {K : Known} {v : Value} {xs : List UInt8} {Lf : Frags} (h : Sl 1 v xs.length (bytesV xs) Lf) : ∃ a c, v = .slice a xs.length c ∧ (xs = [] ∨ ∃ b o, a = some ⟨b, o, none⟩ ∧ Reads K Lf b o (bytesV xs)) := by
  rcases h.2 with ⟨rfl, h1, rfl⟩ | ⟨b, o, c, cs, rfl, rfl, h1, h2, h3, h4⟩
  · exact ⟨none, 0, by rw [h1], .inl (List.eq_nil_of_length_eq_zero h1)⟩
  · rw [Nat.mul_one] at h4
    exact ⟨_, c, rfl, .inr ⟨b, o, rfl, Reads.mem (k := 0) (.head _) (by rw [List.drop_zero, bytesV_length]; exact h4)⟩⟩

section
variable {P : Program} {K : Known} {n : Nat} {env : Env} {L : Frags}
theorem E.lose {ops : Array Oper} {l : List Oper} {A F : Frags} {N : Post} (s : Same L (A ++ F)) (h : wpE P K n ops l env A N) : wpE P K n ops l env L N := by
  refine E.same s ?_
  intro a w hf hw Q q
  exact h a w hf hw.drop Q fun e l a' w' h f t => q e l a' w' h f (To.frame hw t).drop
end

theorem arr2 (f : Nat → Value) (u v : Value) : (((Array.range 2).map f).setIfInBounds 0 u).setIfInBounds 1 v = #[u, v] := by
  rw [show Array.range 2 = #[0, 1] by decide]; simp

def encB (c : UInt8) : List UInt8 := if c.toNat < 128 then [c] else [UInt8.ofNat (192 + c.toNat / 64), UInt8.ofNat (128 + c.toNat % 64)]
def latinB (l : List UInt8) : List UInt8 := l.flatMap encB

theorem encode_enc (c : UInt8) : Utf8.encode ((c.toNat : Nat) : Int) = ⟨(encB c).toArray⟩ := by
  rw [encode_byte, encB]; split <;> rfl

theorem latinB_go : ∀ (l : List UInt8) (s : ByteArray), (l.map fun c => ((c.toNat : Nat) : Int)).foldl (fun r n => r ++ Utf8.encode n) s = ⟨s.data ++ (latinB l).toArray⟩
  | [], s => by simp [latinB]
  | c :: r, s => by
    rw [List.map_cons, List.foldl_cons, encode_enc, latinB_go r _]
    simp [latinB]
theorem latin_eq (l : List UInt8) : latin l = ⟨(latinB l).toArray⟩ := by
  unfold latin runesBytes
  rw [latinB_go l _]; simp

theorem latinB_snoc {l : List UInt8} {i : Nat} (h : i < l.length) : latinB (l.take (i + 1)) = latinB (l.take i) ++ encB l[i] := by
  unfold latinB
  rw [take_snoc h, List.flatMap_append]; simp
theorem encB_length (c : UInt8) : (encB c).length ≤ 2 := by unfold encB; split <;> simp
theorem latinB_length : ∀ l : List UInt8, (latinB l).length ≤ 2 * l.length
  | [] => by simp [latinB]
  | c :: r => by
    have := latinB_length r
    have h2 := encB_length c
    unfold latinB at this ⊢
    rw [List.flatMap_cons, List.length_append, List.length_cons]; omega

theorem enc_small {c : UInt8} (h : ((c.toNat : Nat) : Int) < ((128 : Nat) : Int)) : encB c = [c] := by rw [encB, if_pos (by omega)]
theorem enc_big {c : UInt8} (h : ¬ ((c.toNat : Nat) : Int) < ((128 : Nat) : Int)) : ∃ x y : UInt8, encB c = [x, y] ∧ x.toNat = 192 ||| (c.toNat >>> 6) ∧ y.toNat = 128 ||| (c.toNat &&& 63) := by
  have hc := c.toNat_lt
  refine ⟨_, _, by rw [encB, if_neg (by omega)], ?_, ?_⟩
  · have h1 := Nat.shiftLeft_add_eq_or_of_lt (b := c.toNat >>> 6) (i := 6) (by omega) 3
    rw [show (192 : Nat) = 3 <<< 6 by decide, ← h1, UInt8.toNat_ofNat']
    rw [Nat.shiftRight_eq_div_pow]; omega
  · have h2 : c.toNat &&& 63 = c.toNat % 64 := by rw [show (63 : Nat) = 2 ^ 6 - 1 from rfl, Nat.and_two_pow_sub_one_eq_mod]
    have h1 := Nat.shiftLeft_add_eq_or_of_lt (b := c.toNat % 64) (i := 6) (by omega) 2
    rw [h2, show (128 : Nat) = 2 <<< 6 by decide, ← h1, UInt8.toNat_ofNat']; omega

theorem latin_spec {K : Known} (pb po cap : Nat) (l : List UInt8) (hp : KB K pb po l) (hl : l.length ≤ 35184372088832) : Fn Tryd.prog K 21 #[.slice (some ⟨pb, po, none⟩) (l.length) (cap)] [] (fun v _ => v = .string (latin l)) := by
  refine Fn.intro (args := [.slice (some ⟨pb, po, none⟩) (l.length) (cap)]) (RR := Ret1 2 _) Tryd.func21 rfl rfl Tryd.ntmps21 (res1 Tryd.results21) ?_
  refine C.reenv (env2 := [(0, .slice (some ⟨pb, po, none⟩) (l.length) (cap))]) rfl ?_
  refine C.seq ?_
  refine C.region ?_
  refine E.pure (S.assign rfl) rfl ?_
  refine E.keep [0, 2] (env1 := [(0, _), (2, _)]) rfl ?_
  refine C.seq ?_
  refine C.region ?_
  refine E.pure (S.assign rfl) rfl ?_
  refine E.keep [0, 2, 3] (env1 := [(0, _), (2, _), (3, _)]) rfl ?_
  refine C.seq ?_
  refine C.seq ?_
  refine C.region ?_
  refine E.pure (S.move rfl) rfl ?_
  refine E.pure (S.lenSl rfl Tryd.underlying22) rfl ?_
  refine E.pure (S.move rfl) rfl ?_
  refine E.keep [2, 3, 6, 7, 8] (env1 := [(2, _), (3, _), (6, _), (7, _), (8, _)]) rfl ?_
  refine C.block ?_
  refine C.loop (fun mm ee ll => ∃ (i : Nat), ∃ (v : Value), ∃ (Lf : Frags), keeps ee [3, 6, 7, 8] = some [(3, v), (6, .slice (some ⟨pb, po, none⟩) (l.length) (cap)), (7, .int .i64 ((l.length : Nat) : Int)), (8, .int .i64 ((i : Nat) : Int))] ∧ ll = Lf ∧ (i ≤ l.length) ∧ (Sl 1 v (latinB (l.take i)).length (bytesV (latinB (l.take i))) Lf) ∧ mm = l.length - i) (_) ⟨0, _, [], rfl, rfl, by omega, Sl.nil 1, rfl⟩ ?_
  rintro m0 _ Lf ⟨i, v, _, hk0, rfl, hi, hsl, hm0⟩
  refine C.weaken _ hk0 ?_
  refine C.seq ?_
  refine C.region ?_
  refine E.pure (S.lt rfl rfl) rfl ?_
  refine E.keep [3, 6, 7, 8, 9] (env1 := [(3, _), (6, _), (7, _), (8, _), (9, _)]) rfl ?_
  refine C.seq ?_
  first | refine C.ifp rfl (fun h9 => ?_) (fun h9 => ?_) | refine C.cond rfl (fun h9 => ?_) (fun h9 => ?_)
  ·
    have hi2 : i < l.length := by omega
    have hv := l[i].toNat_lt
    have hlb := latinB_length (l.take i)
    rw [List.length_take] at hlb
    refine C.skip ?_
    refine C.seq ?_
    refine C.block ?_
    refine C.seq ?_
    refine C.region ?_
    refine E.pure (S.ixSl rfl rfl (by omega) Tryd.underlying22 Tryd.sizeOf5) rfl ?_
    refine E.still (S.loadBase rfl (hp.at hi2) Tryd.isAgg5) rfl ?_
    refine E.pure (S.assign rfl) rfl ?_
    refine E.keep [3, 5, 6, 7, 8, 9] (env1 := [(3, _), (5, _), (6, _), (7, _), (8, _), (9, _)]) rfl ?_
    refine C.seq ?_
    refine C.region ?_
    refine E.pure (S.move rfl) rfl ?_
    refine E.pure (S.lt (b := ((128 : Nat) : Int)) rfl rfl) rfl ?_
    refine E.keep [3, 5, 6, 7, 8, 9, 13] (env1 := [(3, _), (5, _), (6, _), (7, _), (8, _), (9, _), (13, _)]) rfl ?_
    first | refine C.ifp rfl (fun h13 => ?_) (fun h13 => ?_) | refine C.cond rfl (fun h13 => ?_) (fun h13 => ?_)
    ·
      have he := enc_small h13
      refine C.region ?_
      refine E.pure (S.move rfl) rfl ?_
      refine E.pure (S.move rfl) rfl ?_
      refine E.loud1 (X.buildSliceV (vs := [u8 l[i]]) (e := 5) [(0, u8 l[i])] rfl (fun w => by simp [Instr.buildSlice, Instr.fill, Value.cells, newRow, Tryd.runUnderlying22, Tryd.typeInfo5]; rw [arr1])) rfl ?_
      rintro _ _ ⟨yb, rfl, rfl⟩
      refine E.same (Same.perm (List.perm_append_singleton _ Lf).symm) ?_
      refine E.loud1 (X.appendB (L := [⟨yb, 0, _⟩]) (xs := latinB (l.take i)) (ys := [l[i]]) (Lf := Lf) rfl rfl hsl rfl (.inr ⟨yb, 0, rfl, Reads.mem (k := 0) (List.mem_append_right _ (.head _)) rfl⟩) (by simp only [List.length_cons, List.length_nil]; omega)) rfl ?_
      rintro v2 _ ⟨Lf2, hsl2, rfl⟩
      refine E.lose (Same.refl _) ?_
      rw [← he, ← latinB_snoc hi2] at hsl2
      refine E.pure (S.assign rfl) rfl ?_
      refine E.keep [3, 5, 6, 7, 8, 9, 13] (env1 := [(3, _), (5, _), (6, _), (7, _), (8, _), (9, _), (13, _)]) rfl ?_
      refine C.region ?_
      first | refine E.pure (S.add (b := ((1 : Nat) : Int)) rfl rfl (N.add64 (by omega))) rfl ?_ | refine E.pure (S.add (b := ((1 : Nat) : Int)) rfl rfl (N.addZ (by omega))) rfl ?_
      refine E.pure (S.move rfl) rfl ?_
      refine E.keep [3, 5, 6, 7, 8, 9, 13] (env1 := [(3, _), (5, _), (6, _), (7, _), (8, _), (9, _), (13, _)]) rfl ?_
      refine ⟨_, ?_, i + 1, v2, Lf2, rfl, rfl, by omega, hsl2, rfl⟩; omega
    ·
      obtain ⟨ex, ey, he, hex, hey⟩ := enc_big h13
      have h63 : l[i].toNat &&& 63 < 256 := Nat.lt_of_le_of_lt Nat.and_le_left hv
      have hxy : (([.int .u8 ((192 ||| (l[i].toNat >>> 6) : Nat) : Int), .int .u8 ((128 ||| (l[i].toNat &&& 63) : Nat) : Int)] : List Value).drop 0).take (bytesV [ex, ey]).length = bytesV [ex, ey] := by
        rw [← hex, ← hey]; rfl
      refine C.region ?_
      refine E.pure (S.move rfl) rfl ?_
      refine E.pure (S.move rfl) rfl ?_
      refine E.pure (S.shr (b := ((6 : Nat) : Int)) rfl rfl (by omega) (N.shr_u8 (by omega) _)) rfl ?_
      refine E.pure (S.or (a := ((192 : Nat) : Int)) rfl rfl (N.or_u8 (by omega) (by omega))) rfl ?_
      refine E.pure (S.move rfl) rfl ?_
      refine E.pure (S.and (b := ((63 : Nat) : Int)) rfl rfl (N.and_u8 (by omega) (by omega))) rfl ?_
      refine E.pure (S.or (a := ((128 : Nat) : Int)) rfl rfl (N.or_u8 (by omega) (by omega))) rfl ?_
      refine E.loud1 (X.buildSliceV (vs := [.int .u8 ((192 ||| (l[i].toNat >>> 6) : Nat) : Int), .int .u8 ((128 ||| (l[i].toNat &&& 63) : Nat) : Int)]) (e := 5) [(0, .int .u8 ((192 ||| (l[i].toNat >>> 6) : Nat) : Int)), (1, .int .u8 ((128 ||| (l[i].toNat &&& 63) : Nat) : Int))] rfl (fun w => by simp [Instr.buildSlice, Instr.fill, Value.cells, newRow, Tryd.runUnderlying22, Tryd.typeInfo5]; rw [arr2])) rfl ?_
      rintro _ _ ⟨yb, rfl, rfl⟩
      refine E.same (Same.perm (List.perm_append_singleton _ Lf).symm) ?_
      refine E.loud1 (X.appendB (L := [⟨yb, 0, _⟩]) (xs := latinB (l.take i)) (ys := [ex, ey]) (Lf := Lf) rfl rfl hsl rfl (.inr ⟨yb, 0, rfl, Reads.mem (k := 0) (List.mem_append_right _ (.head _)) hxy⟩) (by simp only [List.length_cons, List.length_nil]; omega)) rfl ?_
      rintro v2 _ ⟨Lf2, hsl2, rfl⟩
      refine E.lose (Same.refl _) ?_
      rw [← he, ← latinB_snoc hi2] at hsl2
      refine E.pure (S.assign rfl) rfl ?_
      refine E.keep [3, 5, 6, 7, 8, 9, 13] (env1 := [(3, _), (5, _), (6, _), (7, _), (8, _), (9, _), (13, _)]) rfl ?_
      refine C.region ?_
      first | refine E.pure (S.add (b := ((1 : Nat) : Int)) rfl rfl (N.add64 (by omega))) rfl ?_ | refine E.pure (S.add (b := ((1 : Nat) : Int)) rfl rfl (N.addZ (by omega))) rfl ?_
      refine E.pure (S.move rfl) rfl ?_
      refine E.keep [3, 5, 6, 7, 8, 9, 13] (env1 := [(3, _), (5, _), (6, _), (7, _), (8, _), (9, _), (13, _)]) rfl ?_
      refine ⟨_, ?_, i + 1, v2, Lf2, rfl, rfl, by omega, hsl2, rfl⟩; omega
  ·
    have hi2 : i = l.length := by omega
    subst hi2
    rw [List.take_length] at hsl
    obtain ⟨va, vc, rfl, hrd⟩ := hsl.reads (K := K)
    refine C.exit rfl ?_
    refine C.seq ?_
    refine C.region ?_
    refine E.pure (S.move rfl) rfl ?_
    refine E.still (S.bytesStr (l := latinB l) Tryd.underlying22 Tryd.underlying5 Tryd.underlying9 rfl hrd) rfl ?_
    refine E.pure (S.assign rfl) rfl ?_
    refine E.keep [2, 3, 6, 7, 8, 9] (env1 := [(2, _), (3, _), (6, _), (7, _), (8, _), (9, _)]) rfl ?_
    refine C.ret ?_
    exact ⟨_, rfl, by rw [latin_eq]⟩
end Go.Eng
