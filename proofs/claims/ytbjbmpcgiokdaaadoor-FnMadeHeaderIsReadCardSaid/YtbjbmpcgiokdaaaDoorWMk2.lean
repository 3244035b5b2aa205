/-
  Walks of the reference: Fits, First; of zzFits1.
-/
import Derived.Test.YtbjbmpcgiokdaaaDoorWMk1
set_option linter.unusedVariables false
set_option linter.unusedSimpArgs false
namespace Go.Eng
open Go Go.Proofs
set_option maxRecDepth 100000

section
variable {P : Program} {K : Known} {n : Nat} {env : Env} {L : Frags}
theorem D.forget {ops : Array Oper} {ds : List Nat} {p : Plan} {A F : Frags} {N : Post} (is : List Nat) (hp : picks is L = some (A, F)) (h : wpD P K n ops ds p env A N) : wpD P K n ops ds p env L N := by
  intro fuel listed l h0 h00 h1 h2 a w hf hw Nw k
  have hq := picks_perm hp
  have hA : Agree K (A ++ F) w.heap := hw.perm hq
  exact h fuel listed l h0 h00 h1 h2 a w hf hA.drop Nw fun e l a' w' h f t => k e l a' w' h f ((To.frame hA t).drop.permL hq)
end

section
variable {K : Known} {n : Nat} {env : Env} {L : Frags} {ty : TypeId}
/-- append of bytes to a slice of one's own. -/
theorem X.appendO {x y : Operand} {v : Value} {k yc : Nat} {ya : Option Addr} {xs ys : List UInt8} {g : Frag} {F : Frags}
    (hx : ev? env x = some v) (hy : ev? env y = some (.slice ya k yc)) (hS : Sl 1 v xs.length (bytesV xs) [g]) (hk : k = ys.length)
    (hread : ys = [] ∨ ∃ yb yo, ya = some ⟨yb, yo, none⟩ ∧ Reads K (g :: F) yb yo (bytesV ys)) (h0 : 0 < xs.length) (hb : xs.length + ys.length ≤ 140737488355328) :
    OpX Tryd.prog K n (.call { callee := .builtin .append, args := #[x, y], argTypes := #[22, 22] }) ty env (g :: F) fun v' L' =>
      ∃ g', Sl 1 v' (xs ++ ys).length (bytesV (xs ++ ys)) [g'] ∧ L' = g' :: F := by
  refine OpX.mono (X.appendB (Lf := [g]) (L := F) hx hy hS hk hread hb) ?_
  rintro v' L' ⟨Lf', h1, rfl⟩
  obtain ⟨b, o, c, cs, rfl, rfl, h2, h3, h4, h5⟩ := h1.one (by rw [List.length_append]; omega)
  exact ⟨_, h1, rfl⟩
end

def RdB (a : Option Addr) (xs : List UInt8) (g : Frag) : Prop := ∀ (K : Known) (L : Frags), g ∈ L → (xs = [] ∨ ∃ b o, a = some ⟨b, o, none⟩ ∧ Reads K L b o (bytesV xs))
theorem Bs.rd {v : Value} {xs : List UInt8} {g : Frag} (h : Bs v xs g) : ∃ a c, v = .slice a xs.length c ∧ RdB a xs g := by
  rcases h with ⟨h1, h2, _⟩ | h
  · subst h1; exact ⟨none, 0, h2, fun _ _ _ => .inl rfl⟩
  · rcases h.2 with ⟨h1, h2, _⟩ | ⟨b, o, c, cs, h1, h2, h3, h4, h5, h6⟩
    · have hx := List.eq_nil_of_length_eq_zero h2
      exact ⟨none, 0, by rw [h1, h2], fun _ _ _ => .inl hx⟩
    · simp only [List.cons.injEq, and_true] at h2
      subst h2
      rw [Nat.mul_one] at h6
      exact ⟨_, c, h1, fun K L hL => .inr ⟨b, o, rfl, Reads.mem (k := 0) hL (by rw [List.drop_zero, bytesV_length]; exact h6)⟩⟩
theorem Sl.rd {v : Value} {xs : List UInt8} {g : Frag} (h : Sl 1 v xs.length (bytesV xs) [g]) : ∃ a c, v = .slice a xs.length c ∧ RdB a xs g := Bs.rd (.inr h)

theorem text_made {K : Known} (s : ByteArray) (xs : List UInt8) (hx : textB s.data.toList = some xs) (hl : s.size ≤ 140737488355327) (x : Frag) (F : Frags) :
    Fn Tryd.prog K 32 #[.string s] (x :: F) (fun r L => ∃ a c g, RdB a xs g ∧ r = .tuple #[.slice a xs.length c, .bool true] ∧ L = g :: x :: F) := by
  refine Fn.mono (text_bs s hl x F) ?_
  rintro r L ⟨v, g, h, rfl, rfl⟩
  rw [hx] at h ⊢
  obtain ⟨a, c, rfl, h2⟩ := Bs.rd (xs := xs) h
  exact ⟨a, c, g, h2, rfl, rfl⟩
theorem number_rd {K : Known} (x n : Nat) (hx : x < 9223372036854775808) (hn : n ≤ 8) : Fn Tryd.prog K 33 #[.int .i64 ((x : Nat) : Int), .int .i64 ((n : Nat) : Int)] [] (fun r L => ∃ a c g, RdB a (numL x n) g ∧ r = .slice a (numL x n).length c ∧ L = [g]) := by
  refine Fn.mono (number_spec x n hx hn) ?_
  rintro r L ⟨g, h, rfl⟩
  obtain ⟨a, c, rfl, h2⟩ := h.rd
  exact ⟨a, c, g, h2, rfl, rfl⟩
theorem check_own {K : Known} {v : Value} {xs : List UInt8} {g : Frag} (h : Sl 1 v xs.length (bytesV xs) [g]) (h0 : 0 < xs.length) (hlen : xs.length ≤ 140737488355328) (F : Frags) : Fn Tryd.prog K 22 #[v] (g :: F) (fun r L => r = .int .u32 ((crcOn IEEE 0 xs : Nat) : Int) ∧ L = g :: F) := by
  obtain ⟨b, o, c, cs, rfl, h2, h3, h4, h5, h6⟩ := h.one h0
  simp only [List.cons.injEq, and_true] at h2
  subst h2
  rw [Nat.mul_one] at h6
  refine Fn.stillR fun w hw => ?_
  have hr : Reads K (⟨b, o, cs⟩ :: F) b o (bytesV xs) := Reads.mem (k := 0) (.head _) (by rw [List.drop_zero, bytesV_length]; exact h6)
  exact Fn.mono (check_spec b o c xs (hr.kb hw) (by omega)) fun r L h => h.1

theorem fits_walk {K : Known} (n1 n2 : ByteArray) (ea : Option Addr) (en ec : Nat) (mo os : Int) (h1 : n1.size ≤ 140737488355327) (h2 : n2.size ≤ 140737488355327) : Fn Tryd.prog K 13 #[.agg #[.string n1, .string n2, .slice ea en ec, .int .i64 mo, .int .u8 os]] [] (fun r L => ∃ q, r = .bool q ∧ (q = true → (textB n1.data.toList).isSome = true ∧ (textB n2.data.toList).isSome = true ∧ ((textB n1.data.toList).getD []).length < 512 ∧ ((textB n2.data.toList).getD []).length < 512 ∧ en ≤ 65535 ∧ 0 ≤ mo ∧ mo < 4294967296)) := by
  refine Fn.intro (args := [.agg #[.string n1, .string n2, .slice ea en ec, .int .i64 mo, .int .u8 os]]) (RR := Ret1 2 _) Tryd.func13 rfl rfl Tryd.ntmps13 (res1 Tryd.results13) ?_
  refine C.reenv (env2 := [(0, .agg #[.string n1, .string n2, .slice ea en ec, .int .i64 mo, .int .u8 os])]) rfl ?_
  refine C.seq ?_
  refine C.region ?_
  refine E.loud1 (X.box rfl) rfl ?_; rintro _ _ ⟨b1, rfl, rfl⟩; refine E.relist (L2 := [_]) rfl ?_
  refine E.pure (S.assign rfl) rfl ?_
  refine E.keep [1, 2] (env1 := [(1, _), (2, _)]) rfl ?_
  refine C.seq ?_
  refine C.region ?_
  refine E.pure (S.field rfl fa24_0) rfl ?_
  refine E.still (S.load 0 (k := 0) rfl rfl rfl Tryd.isAgg9) rfl ?_
  refine E.loud1 (OpX.pick [] (F := [_]) rfl (X.call rfl Tryd.call32 (text_any n1 h1))) rfl ?_; rintro _ _ ⟨_, ⟨ta, tc, rfl, rfl⟩, rfl⟩; refine E.relist (L2 := [_]) rfl ?_
  refine E.pure (S.move rfl) rfl ?_
  refine E.pure (S.extract rfl rfl) rfl ?_
  refine E.pure (S.extract rfl rfl) rfl ?_
  refine E.pure (S.assign rfl) rfl ?_
  refine E.pure (S.assign rfl) rfl ?_
  refine E.keep [1, 2, 3, 4] (env1 := [(1, _), (2, _), (3, _), (4, _)]) rfl ?_
  refine C.seq ?_
  refine C.region ?_
  refine E.pure (S.field rfl fa24_1) rfl ?_
  refine E.still (S.load 0 (k := 1) rfl rfl rfl Tryd.isAgg9) rfl ?_
  refine E.loud1 (OpX.pick [] (F := [_]) rfl (X.call rfl Tryd.call32 (text_any n2 h2))) rfl ?_; rintro _ _ ⟨_, ⟨ta2, tc2, rfl, rfl⟩, rfl⟩; refine E.relist (L2 := [_]) rfl ?_
  refine E.pure (S.move rfl) rfl ?_
  refine E.pure (S.extract rfl rfl) rfl ?_
  refine E.pure (S.extract rfl rfl) rfl ?_
  refine E.pure (S.assign rfl) rfl ?_
  refine E.pure (S.assign rfl) rfl ?_
  refine E.keep [1, 2, 3, 4, 5, 6] (env1 := [(1, _), (2, _), (3, _), (4, _), (5, _), (6, _)]) rfl ?_
  refine C.seq ?_
  refine C.region ?_
  refine E.pure (S.move rfl) rfl ?_
  refine E.pure (S.move rfl) rfl ?_
  first | refine E.fork (fun g20 => ?_) (fun g20 => ?_) | refine E.forkB (fun g20 => ?_) (fun g20 => ?_)
  ·
    refine E.wanted 20 rfl rfl ?_
    refine E.pure (S.move rfl) rfl ?_
    refine E.pure (S.pickT rfl rfl) rfl ?_
    refine E.pure (S.move rfl) rfl ?_
    first | refine E.fork (fun g23 => ?_) (fun g23 => ?_) | refine E.forkB (fun g23 => ?_) (fun g23 => ?_)
    ·
      refine E.wanted 23 rfl rfl ?_
      refine E.pure (S.move rfl) rfl ?_
      refine E.wanted 23 rfl rfl ?_
      refine E.pure (S.lenSl rfl Tryd.underlying22) rfl ?_
      refine E.wanted 23 rfl rfl ?_
      refine E.pure (S.lt (b := ((512 : Nat) : Int)) rfl rfl) rfl ?_
      refine E.pure (S.pickT rfl rfl) rfl ?_
      refine E.pure (S.move rfl) rfl ?_
      first | refine E.fork (fun g28 => ?_) (fun g28 => ?_) | refine E.forkB (fun g28 => ?_) (fun g28 => ?_)
      ·
        refine E.wanted 28 rfl rfl ?_
        refine E.pure (S.move rfl) rfl ?_
        refine E.wanted 28 rfl rfl ?_
        refine E.pure (S.lenSl rfl Tryd.underlying22) rfl ?_
        refine E.wanted 28 rfl rfl ?_
        refine E.pure (S.lt (b := ((512 : Nat) : Int)) rfl rfl) rfl ?_
        refine E.pure (S.pickT rfl rfl) rfl ?_
        refine E.pure (S.move rfl) rfl ?_
        first | refine E.fork (fun g33 => ?_) (fun g33 => ?_) | refine E.forkB (fun g33 => ?_) (fun g33 => ?_)
        ·
          refine E.wanted 33 rfl rfl ?_
          refine E.pure (S.field rfl fa24_2) rfl ?_
          refine E.wanted 33 rfl rfl ?_
          refine E.still (S.load 0 (k := 2) rfl rfl rfl Tryd.isAgg22) rfl ?_
          refine E.wanted 33 rfl rfl ?_
          refine E.pure (S.lenSl rfl Tryd.underlying22) rfl ?_
          refine E.wanted 33 rfl rfl ?_
          refine E.pure (S.le (b := ((65535 : Nat) : Int)) rfl rfl) rfl ?_
          refine E.pure (S.pickT rfl rfl) rfl ?_
          refine E.pure (S.move rfl) rfl ?_
          first | refine E.fork (fun g39 => ?_) (fun g39 => ?_) | refine E.forkB (fun g39 => ?_) (fun g39 => ?_)
          ·
            refine E.wanted 39 rfl rfl ?_
            refine E.pure (S.field rfl fa24_3) rfl ?_
            refine E.wanted 39 rfl rfl ?_
            refine E.still (S.load 0 (k := 3) rfl rfl rfl Tryd.isAgg2) rfl ?_
            refine E.wanted 39 rfl rfl ?_
            refine E.pure (S.ge (b := ((0 : Nat) : Int)) rfl rfl) rfl ?_
            refine E.pure (S.pickT rfl rfl) rfl ?_
            refine E.pure (S.move rfl) rfl ?_
            first | refine E.fork (fun g44 => ?_) (fun g44 => ?_) | refine E.forkB (fun g44 => ?_) (fun g44 => ?_)
            ·
              refine E.wanted 44 rfl rfl ?_
              refine E.pure (S.field rfl fa24_3) rfl ?_
              refine E.wanted 44 rfl rfl ?_
              refine E.still (S.load 0 (k := 3) rfl rfl rfl Tryd.isAgg2) rfl ?_
              refine E.wanted 44 rfl rfl ?_
              refine E.pure (S.lt (b := ((4294967296 : Nat) : Int)) rfl rfl) rfl ?_
              refine E.pure (S.pickT rfl rfl) rfl ?_
              refine E.pure (S.assign rfl) rfl ?_
              refine E.keep [1, 2, 3, 4, 5, 6] (env1 := [(1, _), (2, _), (3, _), (4, _), (5, _), (6, _)]) rfl ?_
              refine C.ret ?_
              exact ⟨_, rfl, _, rfl, fun h => by first | exact ⟨g20, g23, by omega, by omega, by omega, by omega, by have := of_decide_eq_true h; omega⟩ | cases h⟩
            ·
              refine E.guardNo 44 false rfl rfl rfl rfl ?_
              refine E.guardNo 44 false rfl rfl rfl rfl ?_
              refine E.guardNo 44 false rfl rfl rfl rfl ?_
              refine E.pure (S.pickF rfl rfl) rfl ?_
              refine E.pure (S.assign rfl) rfl ?_
              refine E.keep [1, 2, 3, 4, 5, 6] (env1 := [(1, _), (2, _), (3, _), (4, _), (5, _), (6, _)]) rfl ?_
              refine C.ret ?_
              exact ⟨_, rfl, _, rfl, fun h => by first | exact ⟨g20, g23, by omega, by omega, by omega, by omega, by have := of_decide_eq_true h; omega⟩ | cases h⟩
          ·
            refine E.guardNo 39 false rfl rfl rfl rfl ?_
            refine E.guardNo 39 false rfl rfl rfl rfl ?_
            refine E.guardNo 39 false rfl rfl rfl rfl ?_
            refine E.pure (S.pickF rfl rfl) rfl ?_
            refine E.pure (S.move rfl) rfl ?_
            refine E.guardNo 44 false rfl rfl rfl rfl ?_
            refine E.guardNo 44 false rfl rfl rfl rfl ?_
            refine E.guardNo 44 false rfl rfl rfl rfl ?_
            refine E.pure (S.pickF rfl rfl) rfl ?_
            refine E.pure (S.assign rfl) rfl ?_
            refine E.keep [1, 2, 3, 4, 5, 6] (env1 := [(1, _), (2, _), (3, _), (4, _), (5, _), (6, _)]) rfl ?_
            refine C.ret ?_
            exact ⟨_, rfl, _, rfl, fun h => by first | exact ⟨g20, g23, by omega, by omega, by omega, by omega, by have := of_decide_eq_true h; omega⟩ | cases h⟩
        ·
          refine E.guardNo 33 false rfl rfl rfl rfl ?_
          refine E.guardNo 33 false rfl rfl rfl rfl ?_
          refine E.guardNo 33 false rfl rfl rfl rfl ?_
          refine E.guardNo 33 false rfl rfl rfl rfl ?_
          refine E.pure (S.pickF rfl rfl) rfl ?_
          refine E.pure (S.move rfl) rfl ?_
          refine E.guardNo 39 false rfl rfl rfl rfl ?_
          refine E.guardNo 39 false rfl rfl rfl rfl ?_
          refine E.guardNo 39 false rfl rfl rfl rfl ?_
          refine E.pure (S.pickF rfl rfl) rfl ?_
          refine E.pure (S.move rfl) rfl ?_
          refine E.guardNo 44 false rfl rfl rfl rfl ?_
          refine E.guardNo 44 false rfl rfl rfl rfl ?_
          refine E.guardNo 44 false rfl rfl rfl rfl ?_
          refine E.pure (S.pickF rfl rfl) rfl ?_
          refine E.pure (S.assign rfl) rfl ?_
          refine E.keep [1, 2, 3, 4, 5, 6] (env1 := [(1, _), (2, _), (3, _), (4, _), (5, _), (6, _)]) rfl ?_
          refine C.ret ?_
          exact ⟨_, rfl, _, rfl, fun h => by first | exact ⟨g20, g23, by omega, by omega, by omega, by omega, by have := of_decide_eq_true h; omega⟩ | cases h⟩
      ·
        refine E.guardNo 28 false rfl rfl rfl rfl ?_
        refine E.guardNo 28 false rfl rfl rfl rfl ?_
        refine E.guardNo 28 false rfl rfl rfl rfl ?_
        refine E.pure (S.pickF rfl rfl) rfl ?_
        refine E.pure (S.move rfl) rfl ?_
        refine E.guardNo 33 false rfl rfl rfl rfl ?_
        refine E.guardNo 33 false rfl rfl rfl rfl ?_
        refine E.guardNo 33 false rfl rfl rfl rfl ?_
        refine E.guardNo 33 false rfl rfl rfl rfl ?_
        refine E.pure (S.pickF rfl rfl) rfl ?_
        refine E.pure (S.move rfl) rfl ?_
        refine E.guardNo 39 false rfl rfl rfl rfl ?_
        refine E.guardNo 39 false rfl rfl rfl rfl ?_
        refine E.guardNo 39 false rfl rfl rfl rfl ?_
        refine E.pure (S.pickF rfl rfl) rfl ?_
        refine E.pure (S.move rfl) rfl ?_
        refine E.guardNo 44 false rfl rfl rfl rfl ?_
        refine E.guardNo 44 false rfl rfl rfl rfl ?_
        refine E.guardNo 44 false rfl rfl rfl rfl ?_
        refine E.pure (S.pickF rfl rfl) rfl ?_
        refine E.pure (S.assign rfl) rfl ?_
        refine E.keep [1, 2, 3, 4, 5, 6] (env1 := [(1, _), (2, _), (3, _), (4, _), (5, _), (6, _)]) rfl ?_
        refine C.ret ?_
        exact ⟨_, rfl, _, rfl, fun h => by first | exact ⟨g20, g23, by omega, by omega, by omega, by omega, by have := of_decide_eq_true h; omega⟩ | cases h⟩
    ·
      refine E.guardNo 23 false rfl rfl rfl rfl ?_
      refine E.guardNo 23 false rfl rfl rfl rfl ?_
      refine E.guardNo 23 false rfl rfl rfl rfl ?_
      refine E.pure (S.pickF rfl rfl) rfl ?_
      refine E.pure (S.move rfl) rfl ?_
      refine E.guardNo 28 false rfl rfl rfl rfl ?_
      refine E.guardNo 28 false rfl rfl rfl rfl ?_
      refine E.guardNo 28 false rfl rfl rfl rfl ?_
      refine E.pure (S.pickF rfl rfl) rfl ?_
      refine E.pure (S.move rfl) rfl ?_
      refine E.guardNo 33 false rfl rfl rfl rfl ?_
      refine E.guardNo 33 false rfl rfl rfl rfl ?_
      refine E.guardNo 33 false rfl rfl rfl rfl ?_
      refine E.guardNo 33 false rfl rfl rfl rfl ?_
      refine E.pure (S.pickF rfl rfl) rfl ?_
      refine E.pure (S.move rfl) rfl ?_
      refine E.guardNo 39 false rfl rfl rfl rfl ?_
      refine E.guardNo 39 false rfl rfl rfl rfl ?_
      refine E.guardNo 39 false rfl rfl rfl rfl ?_
      refine E.pure (S.pickF rfl rfl) rfl ?_
      refine E.pure (S.move rfl) rfl ?_
      refine E.guardNo 44 false rfl rfl rfl rfl ?_
      refine E.guardNo 44 false rfl rfl rfl rfl ?_
      refine E.guardNo 44 false rfl rfl rfl rfl ?_
      refine E.pure (S.pickF rfl rfl) rfl ?_
      refine E.pure (S.assign rfl) rfl ?_
      refine E.keep [1, 2, 3, 4, 5, 6] (env1 := [(1, _), (2, _), (3, _), (4, _), (5, _), (6, _)]) rfl ?_
      refine C.ret ?_
      exact ⟨_, rfl, _, rfl, fun h => by first | exact ⟨g20, g23, by omega, by omega, by omega, by omega, by have := of_decide_eq_true h; omega⟩ | cases h⟩
  ·
    refine E.guardNo 20 false rfl rfl rfl rfl ?_
    refine E.pure (S.pickF rfl rfl) rfl ?_
    refine E.pure (S.move rfl) rfl ?_
    refine E.guardNo 23 false rfl rfl rfl rfl ?_
    refine E.guardNo 23 false rfl rfl rfl rfl ?_
    refine E.guardNo 23 false rfl rfl rfl rfl ?_
    refine E.pure (S.pickF rfl rfl) rfl ?_
    refine E.pure (S.move rfl) rfl ?_
    refine E.guardNo 28 false rfl rfl rfl rfl ?_
    refine E.guardNo 28 false rfl rfl rfl rfl ?_
    refine E.guardNo 28 false rfl rfl rfl rfl ?_
    refine E.pure (S.pickF rfl rfl) rfl ?_
    refine E.pure (S.move rfl) rfl ?_
    refine E.guardNo 33 false rfl rfl rfl rfl ?_
    refine E.guardNo 33 false rfl rfl rfl rfl ?_
    refine E.guardNo 33 false rfl rfl rfl rfl ?_
    refine E.guardNo 33 false rfl rfl rfl rfl ?_
    refine E.pure (S.pickF rfl rfl) rfl ?_
    refine E.pure (S.move rfl) rfl ?_
    refine E.guardNo 39 false rfl rfl rfl rfl ?_
    refine E.guardNo 39 false rfl rfl rfl rfl ?_
    refine E.guardNo 39 false rfl rfl rfl rfl ?_
    refine E.pure (S.pickF rfl rfl) rfl ?_
    refine E.pure (S.move rfl) rfl ?_
    refine E.guardNo 44 false rfl rfl rfl rfl ?_
    refine E.guardNo 44 false rfl rfl rfl rfl ?_
    refine E.guardNo 44 false rfl rfl rfl rfl ?_
    refine E.pure (S.pickF rfl rfl) rfl ?_
    refine E.pure (S.assign rfl) rfl ?_
    refine E.keep [1, 2, 3, 4, 5, 6] (env1 := [(1, _), (2, _), (3, _), (4, _), (5, _), (6, _)]) rfl ?_
    refine C.ret ?_
    exact ⟨_, rfl, _, rfl, fun h => by first | exact ⟨g20, g23, by omega, by omega, by omega, by omega, by have := of_decide_eq_true h; omega⟩ | cases h⟩
theorem fits_spec {K : Known} (n1 n2 : ByteArray) (ea : Option Addr) (en ec : Nat) (mo os : Int) (h1 : n1.size ≤ 140737488355327) (h2 : n2.size ≤ 140737488355327) : Fn Tryd.prog K 13 #[.agg #[.string n1, .string n2, .slice ea en ec, .int .i64 mo, .int .u8 os]] [] (fun r L => ∃ q, r = .bool q ∧
    (q = true → ∃ nb cb, textB n1.data.toList = some nb ∧ textB n2.data.toList = some cb ∧ nb.length < 512 ∧ cb.length < 512 ∧ en ≤ 65535 ∧ 0 ≤ mo ∧ mo < 4294967296) ∧ L = []) := by
  refine Fn.lose (fits_walk n1 n2 ea en ec mo os h1 h2) ?_
  rintro r L ⟨q, rfl, h⟩
  refine ⟨[], L, Same.refl _, q, rfl, fun hq => ?_, rfl⟩
  obtain ⟨q1, q2, q3, q4, q5⟩ := h hq
  obtain ⟨nb, e1⟩ := Option.isSome_iff_exists.1 q1
  obtain ⟨cb, e2⟩ := Option.isSome_iff_exists.1 q2
  rw [e1] at q3
  rw [e2] at q4
  exact ⟨nb, cb, e1, e2, q3, q4, q5⟩

theorem zz1_walk {K : Known} (m : Md) (ea va : Option Addr) (ec vn vc : Nat) (hB : BlocksA K (.slice va vn vc)) : Fn Tryd.prog K 12 #[.agg #[.string m.name, .string m.comment, .slice ea m.extra.length ec, .int .i64 m.mod, u8 m.os, .bool m.text, .bool m.checked, .bool m.ex, .bool m.nm, .bool m.cm, u8 m.flags, .slice va vn vc]] [] (fun r L => ∃ q, r = .bool q ∧ (q = true → m.name.size ≤ 2147483647 ∧ m.comment.size ≤ 2147483647 ∧ m.extra.length ≤ 2147483647)) := by
  refine Fn.intro (args := [.agg #[.string m.name, .string m.comment, .slice ea m.extra.length ec, .int .i64 m.mod, u8 m.os, .bool m.text, .bool m.checked, .bool m.ex, .bool m.nm, .bool m.cm, u8 m.flags, .slice va vn vc]]) (RR := Ret1 2 _) Tryd.func12 rfl rfl Tryd.ntmps12 (res1 Tryd.results12) ?_
  refine C.reenv (env2 := [(0, .agg #[.string m.name, .string m.comment, .slice ea m.extra.length ec, .int .i64 m.mod, u8 m.os, .bool m.text, .bool m.checked, .bool m.ex, .bool m.nm, .bool m.cm, u8 m.flags, .slice va vn vc])]) rfl ?_
  refine C.seq ?_
  refine C.region ?_
  refine E.loud1 (X.box rfl) rfl ?_; rintro _ _ ⟨b1, rfl, rfl⟩; refine E.relist (L2 := [_]) rfl ?_
  refine E.pure (S.assign rfl) rfl ?_
  refine E.keep [1, 2] (env1 := [(1, _), (2, _)]) rfl ?_
  refine C.seq ?_
  refine C.seq ?_
  refine C.region ?_
  refine E.pure (S.field rfl fa34_0) rfl ?_
  refine E.still (S.loadA 0 (k := 0) rfl rfl rfl rfl Tryd.isAgg24 Tryd.sizeOf24) rfl ?_
  refine E.loud1 (OpX.pick [] (F := [_]) rfl (X.call rfl Tryd.call30 (zz2_none m.name m.comment ea m.extra.length ec m.mod (m.os.toNat : Int)))) rfl ?_; rintro _ _ ⟨_, ⟨q2, rfl, hq2, rfl⟩, rfl⟩; refine E.relist (L2 := [_]) rfl ?_
  refine E.pure (S.notB rfl) rfl ?_
  refine E.keep [1, 2, 6] (env1 := [(1, _), (2, _), (6, _)]) rfl ?_
  first | refine C.ifp rfl (fun h6 => ?_) (fun h6 => ?_) | refine C.cond rfl (fun h6 => ?_) (fun h6 => ?_)
  ·
    refine C.seq ?_
    refine C.region ?_
    refine E.pure (S.assign rfl) rfl ?_
    refine E.keep [1, 2, 6] (env1 := [(1, _), (2, _), (6, _)]) rfl ?_
    refine C.ret ?_
    exact ⟨_, rfl, _, rfl, fun h => by first | exact hq2 (by simpa using h6) | cases h⟩
  ·
    refine C.skip ?_
    refine C.seq ?_
    refine C.seq ?_
    refine C.region ?_
    refine E.pure (S.field rfl fa34_7) rfl ?_
    refine E.still (S.load 0 (k := 11) rfl rfl rfl Tryd.isAgg32) rfl ?_
    refine E.loud1 (OpX.pick [] (F := [_]) rfl (X.call rfl Tryd.call31 (zz3_spec hB))) rfl ?_; rintro _ _ ⟨_, ⟨q3, rfl, rfl⟩, rfl⟩; refine E.relist (L2 := [_]) rfl ?_
    refine E.pure (S.notB rfl) rfl ?_
    refine E.keep [1, 2, 6, 10] (env1 := [(1, _), (2, _), (6, _), (10, _)]) rfl ?_
    first | refine C.ifp rfl (fun h10 => ?_) (fun h10 => ?_) | refine C.cond rfl (fun h10 => ?_) (fun h10 => ?_)
    ·
      refine C.seq ?_
      refine C.region ?_
      refine E.pure (S.assign rfl) rfl ?_
      refine E.keep [1, 2, 6, 10] (env1 := [(1, _), (2, _), (6, _), (10, _)]) rfl ?_
      refine C.ret ?_
      exact ⟨_, rfl, _, rfl, fun h => by first | exact hq2 (by simpa using h6) | cases h⟩
    ·
      refine C.skip ?_
      refine C.seq ?_
      refine C.region ?_
      refine E.pure (S.assign rfl) rfl ?_
      refine E.keep [1, 2, 6, 10] (env1 := [(1, _), (2, _), (6, _), (10, _)]) rfl ?_
      refine C.ret ?_
      exact ⟨_, rfl, _, rfl, fun h => by first | exact hq2 (by simpa using h6) | cases h⟩
theorem zz1_spec {K : Known} (m : Md) (ea va : Option Addr) (ec vn vc : Nat) (hB : BlocksA K (.slice va vn vc)) : Fn Tryd.prog K 12 #[.agg #[.string m.name, .string m.comment, .slice ea m.extra.length ec, .int .i64 m.mod, u8 m.os, .bool m.text, .bool m.checked, .bool m.ex, .bool m.nm, .bool m.cm, u8 m.flags, .slice va vn vc]] [] (fun r L => ∃ q, r = .bool q ∧ (q = true → m.name.size ≤ 2147483647 ∧ m.comment.size ≤ 2147483647 ∧ m.extra.length ≤ 2147483647) ∧ L = []) := by
  refine Fn.lose (zz1_walk m ea va ec vn vc hB) ?_
  rintro r L ⟨q, rfl, h⟩
  exact ⟨[], L, Same.refl _, q, rfl, h, rfl⟩

theorem head_sl (hb fl : Nat) (h : fl < 256) : Sl 1 (.slice (some ⟨hb, 0, none⟩) 4 4) ([31, 139, 8, UInt8.ofNat fl] : List UInt8).length (bytesV [31, 139, 8, UInt8.ofNat fl]) [⟨hb, 0, [.int .u8 31, .int .u8 139, .int .u8 8, .int .u8 ((fl : Nat) : Int)]⟩] := by
  refine ⟨rfl, .inr ⟨hb, 0, 4, _, rfl, rfl, rfl, Nat.le_refl _, by decide, ?_⟩⟩
  show [Value.int .u8 31, .int .u8 139, .int .u8 8, .int .u8 ((fl : Nat) : Int)] = [Value.int .u8 31, .int .u8 139, .int .u8 8, .int .u8 (((UInt8.ofNat fl).toNat : Nat) : Int)]
  rw [UInt8.toNat_ofNat', Nat.mod_eq_of_lt h]

def flN (bs : List Bool) : Nat → Nat
  | 0 => 0
  | i + 1 => flN bs i + (if bs.getD i false then 2 ^ i else 0)
theorem flN_lt (bs : List Bool) : ∀ i, flN bs i < 2 ^ i
  | 0 => by simp [flN]
  | i + 1 => by
    have := flN_lt bs i
    rw [flN, Nat.pow_succ]
    split <;> omega
theorem flN_yes {bs : List Bool} {i : Nat} (hi : i < 5) (h : bs.getD i false = true) : flN bs i ||| (1 <<< i) % 256 = flN bs (i + 1) := by
  have h1 := flN_lt bs i
  have h2 := Nat.shiftLeft_add_eq_or_of_lt h1 1
  have h3 : (1 <<< i) % 256 = 1 <<< i := by rcases (show i = 0 ∨ i = 1 ∨ i = 2 ∨ i = 3 ∨ i = 4 by omega) with rfl | rfl | rfl | rfl | rfl <;> decide
  rw [h3, Nat.or_comm, ← h2, flN, if_pos h, Nat.shiftLeft_eq, Nat.one_mul, Nat.add_comm]
theorem flN_no {bs : List Bool} {i : Nat} (h : bs.getD i false = false) : flN bs (i + 1) = flN bs i := by rw [flN, if_neg (by rw [h]; decide), Nat.add_zero]
theorem bools_get {a b c d e : Bool} {i : Nat} (h : i < 5) : ([.bool a, .bool b, .bool c, .bool d, .bool e] : List Value)[i * 1]? = some (.bool ([a, b, c, d, e].getD i false)) := by
  rcases (show i = 0 ∨ i = 1 ∨ i = 2 ∨ i = 3 ∨ i = 4 by omega) with rfl | rfl | rfl | rfl | rfl <;> rfl
theorem flN_flags (m : Md) (nb cb : List UInt8) : flN [m.text, m.checked, m.ex || decide (0 < m.extra.length), m.nm || decide (0 < nb.length), m.cm || decide (0 < cb.length)] 5 = flagsN m nb cb := by
  unfold flagsN
  generalize (m.ex || decide (0 < m.extra.length)) = a
  generalize (m.nm || decide (0 < nb.length)) = b
  generalize (m.cm || decide (0 < cb.length)) = c
  generalize m.text = d
  generalize m.checked = e
  revert a b c d e
  decide
theorem arr5 (f : Nat → Value) (a b c d e : Value) : ((((((Array.range 5).map f).setIfInBounds 0 a).setIfInBounds 1 b).setIfInBounds 2 c).setIfInBounds 3 d).setIfInBounds 4 e = #[a, b, c, d, e] := by
  rw [show Array.range 5 = #[0, 1, 2, 3, 4] by decide]; simp
theorem arr4 (f : Nat → Value) (a b c d : Value) : (((((Array.range 4).map f).setIfInBounds 0 a).setIfInBounds 1 b).setIfInBounds 2 c).setIfInBounds 3 d = #[a, b, c, d] := by
  rw [show Array.range 4 = #[0, 1, 2, 3] by decide]; simp

theorem first0_len (m : Md) (nb cb : List UInt8) : (first0 m nb cb).length = 10 := by simp [first0, numL_length]
theorem first1_len {m : Md} (nb cb : List UInt8) (h : m.extra.length ≤ 65535) : 10 ≤ (first1 m nb cb).length ∧ (first1 m nb cb).length ≤ 65547 := by
  have := first0_len m nb cb
  unfold first1; split
  · omega
  · simp only [List.length_append, numL_length]; omega
theorem first2_len {m : Md} {nb : List UInt8} (cb : List UInt8) (h : m.extra.length ≤ 65535) (hn : nb.length < 512) : 10 ≤ (first2 m nb cb).length ∧ (first2 m nb cb).length ≤ 66060 := by
  have := first1_len (m := m) nb cb h
  unfold first2; split
  · omega
  · simp only [List.length_append, List.length_cons, List.length_nil]; omega
theorem first3_len {m : Md} {nb cb : List UInt8} (h : m.extra.length ≤ 65535) (hn : nb.length < 512) (hc : cb.length < 512) : 10 ≤ (first3 m nb cb).length ∧ (first3 m nb cb).length ≤ 66572 := by
  have := first2_len (m := m) (nb := nb) cb h hn
  unfold first3; split
  · omega
  · simp only [List.length_append, List.length_cons, List.length_nil]; omega
theorem firstL_len {m : Md} {nb cb : List UInt8} (h : m.extra.length ≤ 65535) (hn : nb.length < 512) (hc : cb.length < 512) : 10 ≤ (firstL m nb cb).length ∧ (firstL m nb cb).length ≤ 66574 := by
  have := first3_len (m := m) (nb := nb) (cb := cb) h hn hc
  unfold firstL; split
  · omega
  · simp only [List.length_append, numL_length]; omega

theorem first_walk {K : Known} (m : Md) (mo : Nat) (nb cb : List UInt8) (ea va : Option Addr) (ec vn vc : Nat) (hE : m.extra = [] ∨ ∃ b o, ea = some ⟨b, o, none⟩ ∧ KB K b o m.extra) (hmo : m.mod.toNat = mo) (hmo2 : mo < 4294967296) (h1 : m.name.size ≤ 140737488355327) (h2 : m.comment.size ≤ 140737488355327) (hnb : textB m.name.data.toList = some nb) (hcb : textB m.comment.data.toList = some cb) (hnl : nb.length < 512) (hcl : cb.length < 512) (hel : m.extra.length ≤ 65535) : Fn Tryd.prog K 14 #[.agg #[.string m.name, .string m.comment, .slice ea m.extra.length ec, .int .i64 ((mo : Nat) : Int), u8 m.os, .bool m.text, .bool m.checked, .bool m.ex, .bool m.nm, .bool m.cm, u8 m.flags, .slice va vn vc]] [] (fun r L => ∃ g F, Sl 1 r (firstL m nb cb).length (bytesV (firstL m nb cb)) [g] ∧ L = g :: F) := by
  have hfl := flagsN_lt m nb cb
  have e0 := first0_len m nb cb
  have e1 := first1_len (m := m) nb cb hel
  have e2 := first2_len (m := m) (nb := nb) cb hel hnl
  have e3 := first3_len (m := m) (nb := nb) (cb := cb) hel hnl hcl
  have hqq : crcOn IEEE 0 (first3 m nb cb) < 4294967296 := crcOn_lt (by decide) (by decide) _
  have hq16 : crcOn IEEE 0 (first3 m nb cb) % 65536 < 65536 := Nat.mod_lt _ (by decide)
  refine Fn.intro (args := [.agg #[.string m.name, .string m.comment, .slice ea m.extra.length ec, .int .i64 ((mo : Nat) : Int), u8 m.os, .bool m.text, .bool m.checked, .bool m.ex, .bool m.nm, .bool m.cm, u8 m.flags, .slice va vn vc]]) (RR := Ret1 2 _) Tryd.func14 rfl rfl Tryd.ntmps14 (res1 Tryd.results14) ?_
  refine C.reenv (env2 := [(0, .agg #[.string m.name, .string m.comment, .slice ea m.extra.length ec, .int .i64 ((mo : Nat) : Int), u8 m.os, .bool m.text, .bool m.checked, .bool m.ex, .bool m.nm, .bool m.cm, u8 m.flags, .slice va vn vc])]) rfl ?_
  refine C.seq ?_
  refine C.region ?_
  refine E.loud1 (X.box rfl) rfl ?_; rintro _ _ ⟨b1, rfl, rfl⟩; refine E.relist (L2 := [_]) rfl ?_
  refine E.pure (S.assign rfl) rfl ?_
  refine E.keep [1, 2] (env1 := [(1, _), (2, _)]) rfl ?_
  refine C.seq ?_
  refine C.region ?_
  refine E.pure (S.field rfl fa34_0) rfl ?_
  refine E.pure (S.field rfl fa24_0) rfl ?_
  refine E.still (S.load 0 (k := 0) rfl rfl rfl Tryd.isAgg9) rfl ?_
  refine E.loud1 (X.call rfl Tryd.call32 (text_made m.name nb hnb h1 _ [])) rfl ?_; rintro _ _ ⟨a1, c1, g1, hR1, rfl, rfl⟩; refine E.relist (L2 := [_, _]) rfl ?_
  refine E.pure (S.move rfl) rfl ?_
  refine E.pure (S.extract rfl rfl) rfl ?_
  refine E.pure (S.extract rfl rfl) rfl ?_
  refine E.pure (S.assign rfl) rfl ?_
  refine E.pure (S.assign rfl) rfl ?_
  refine E.keep [1, 2, 3] (env1 := [(1, _), (2, _), (3, _)]) rfl ?_
  refine C.seq ?_
  refine C.region ?_
  refine E.pure (S.field rfl fa34_0) rfl ?_
  refine E.pure (S.field rfl fa24_1) rfl ?_
  refine E.still (S.load 1 (k := 1) rfl rfl rfl Tryd.isAgg9) rfl ?_
  refine E.loud1 (X.call rfl Tryd.call32 (text_made m.comment cb hcb h2 _ _)) rfl ?_; rintro _ _ ⟨a2, c2, g2, hR2, rfl, rfl⟩; refine E.relist (L2 := [_, _, _]) rfl ?_
  refine E.pure (S.move rfl) rfl ?_
  refine E.pure (S.extract rfl rfl) rfl ?_
  refine E.pure (S.extract rfl rfl) rfl ?_
  refine E.pure (S.assign rfl) rfl ?_
  refine E.pure (S.assign rfl) rfl ?_
  refine E.keep [1, 2, 3, 5] (env1 := [(1, _), (2, _), (3, _), (5, _)]) rfl ?_
  refine C.seq ?_
  refine C.region ?_
  refine E.pure (S.assign rfl) rfl ?_
  refine E.keep [1, 2, 3, 5, 7] (env1 := [(1, _), (2, _), (3, _), (5, _), (7, _)]) rfl ?_
  refine C.cut (M := fun ee ll => ∃ (sbf : Frag), keeps ee [1, 3, 5, 7] = some [(1, .pointer (some ⟨b1, 0, none⟩)), (3, .slice a1 nb.length c1), (5, .slice a2 cb.length c2), (7, .int .u8 ((flagsN m nb cb : Nat) : Int))] ∧ ll = [sbf, g2, g1, ⟨b1, 0, [.string m.name, .string m.comment, .slice ea m.extra.length ec, .int .i64 ((mo : Nat) : Int), u8 m.os, .bool m.text, .bool m.checked, .bool m.ex, .bool m.nm, .bool m.cm, u8 m.flags, .slice va vn vc]⟩]) ?_ ?_
  ·
    refine C.cut (M := fun ee ll => ∃ (b3 : Bool), ∃ (b4 : Bool), ∃ (b5 : Bool), ∃ (sb : Nat), keeps ee [1, 3, 5, 7, 52, 53, 54] = some [(1, .pointer (some ⟨b1, 0, none⟩)), (3, .slice a1 nb.length c1), (5, .slice a2 cb.length c2), (7, .int .u8 ((0 : Nat) : Int)), (52, .slice (some ⟨sb, 0, none⟩) (5) (5)), (53, .int .i64 ((5 : Nat) : Int)), (54, .int .i64 ((0 : Nat) : Int))] ∧ ll = [⟨sb, 0, [.bool m.text, .bool m.checked, .bool b3, .bool b4, .bool b5]⟩, g2, g1, ⟨b1, 0, [.string m.name, .string m.comment, .slice ea m.extra.length ec, .int .i64 ((mo : Nat) : Int), u8 m.os, .bool m.text, .bool m.checked, .bool m.ex, .bool m.nm, .bool m.cm, u8 m.flags, .slice va vn vc]⟩] ∧ (b3 = (m.ex || decide (0 < m.extra.length))) ∧ (b4 = (m.nm || decide (0 < nb.length))) ∧ (b5 = (m.cm || decide (0 < cb.length)))) ?_ ?_
    ·
      refine C.region ?_
      refine E.pure (S.field rfl fa34_1) rfl ?_
      refine E.still (S.load 2 (k := 5) rfl rfl rfl Tryd.isAgg4) rfl ?_
      refine E.pure (S.field rfl fa34_2) rfl ?_
      refine E.still (S.load 2 (k := 6) rfl rfl rfl Tryd.isAgg4) rfl ?_
      refine E.pure (S.field rfl fa34_3) rfl ?_
      refine E.still (S.load 2 (k := 7) rfl rfl rfl Tryd.isAgg4) rfl ?_
      refine E.pure (S.move rfl) rfl ?_
      first | refine E.fork (fun g31 => ?_) (fun g31 => ?_) | refine E.forkB (fun g31 => ?_) (fun g31 => ?_)
      ·
        refine E.guardNo 31 true rfl rfl rfl rfl ?_
        refine E.guardNo 31 true rfl rfl rfl rfl ?_
        refine E.guardNo 31 true rfl rfl rfl rfl ?_
        refine E.guardNo 31 true rfl rfl rfl rfl ?_
        refine E.guardNo 31 true rfl rfl rfl rfl ?_
        refine E.pure (S.pickT rfl rfl) rfl ?_
        refine E.pure (S.field rfl fa34_4) rfl ?_
        refine E.still (S.load 2 (k := 8) rfl rfl rfl Tryd.isAgg4) rfl ?_
        refine E.pure (S.move rfl) rfl ?_
        first | refine E.fork (fun g40 => ?_) (fun g40 => ?_) | refine E.forkB (fun g40 => ?_) (fun g40 => ?_)
        ·
          refine E.guardNo 40 true rfl rfl rfl rfl ?_
          refine E.guardNo 40 true rfl rfl rfl rfl ?_
          refine E.guardNo 40 true rfl rfl rfl rfl ?_
          refine E.pure (S.pickT rfl rfl) rfl ?_
          refine E.pure (S.field rfl fa34_5) rfl ?_
          refine E.still (S.load 2 (k := 9) rfl rfl rfl Tryd.isAgg4) rfl ?_
          refine E.pure (S.move rfl) rfl ?_
          first | refine E.fork (fun g47 => ?_) (fun g47 => ?_) | refine E.forkB (fun g47 => ?_) (fun g47 => ?_)
          ·
            refine E.guardNo 47 true rfl rfl rfl rfl ?_
            refine E.guardNo 47 true rfl rfl rfl rfl ?_
            refine E.guardNo 47 true rfl rfl rfl rfl ?_
            refine E.pure (S.pickT rfl rfl) rfl ?_
            refine E.loud1 (X.buildSliceV (vs := [.bool m.text, .bool m.checked, .bool true, .bool true, .bool true]) (e := 4) [(0, .bool m.text), (1, .bool m.checked), (2, .bool true), (3, .bool true), (4, .bool true)] rfl (fun w => by simp [Instr.buildSlice, Instr.fill, Value.cells, newRow, Tryd.runUnderlying81, Tryd.typeInfo4]; rw [arr5])) rfl ?_; rintro _ _ ⟨sb, rfl, rfl⟩; refine E.relist (L2 := [_, _, _, _]) rfl ?_
            refine E.pure (S.lenSl rfl Tryd.underlying81) rfl ?_
            refine E.pure (S.move rfl) rfl ?_
            refine E.keep [1, 2, 3, 5, 7, 52, 53, 54] (env1 := [(1, _), (2, _), (3, _), (5, _), (7, _), (52, _), (53, _), (54, _)]) rfl ?_
            exact ⟨_, _, _, _, rfl, rfl, by first | (rw [g31]; rfl) | (rw [g31]; exact decide_eq_decide.2 (by omega)), by first | (rw [g40]; rfl) | (rw [g40]; exact decide_eq_decide.2 (by omega)), by first | (rw [g47]; rfl) | (rw [g47]; exact decide_eq_decide.2 (by omega))⟩
          ·
            refine E.wanted 47 rfl rfl ?_
            refine E.pure (S.move rfl) rfl ?_
            refine E.wanted 47 rfl rfl ?_
            refine E.pure (S.lenSl rfl Tryd.underlying22) rfl ?_
            refine E.wanted 47 rfl rfl ?_
            refine E.pure (S.gt (b := ((0 : Nat) : Int)) rfl rfl) rfl ?_
            refine E.pure (S.pickF rfl rfl) rfl ?_
            refine E.loud1 (X.buildSliceV (vs := [.bool m.text, .bool m.checked, .bool true, .bool true, _]) (e := 4) [(0, .bool m.text), (1, .bool m.checked), (2, .bool true), (3, .bool true), (4, _)] rfl (fun w => by simp [Instr.buildSlice, Instr.fill, Value.cells, newRow, Tryd.runUnderlying81, Tryd.typeInfo4]; rw [arr5])) rfl ?_; rintro _ _ ⟨sb, rfl, rfl⟩; refine E.relist (L2 := [_, _, _, _]) rfl ?_
            refine E.pure (S.lenSl rfl Tryd.underlying81) rfl ?_
            refine E.pure (S.move rfl) rfl ?_
            refine E.keep [1, 2, 3, 5, 7, 52, 53, 54] (env1 := [(1, _), (2, _), (3, _), (5, _), (7, _), (52, _), (53, _), (54, _)]) rfl ?_
            exact ⟨_, _, _, _, rfl, rfl, by first | (rw [g31]; rfl) | (rw [g31]; exact decide_eq_decide.2 (by omega)), by first | (rw [g40]; rfl) | (rw [g40]; exact decide_eq_decide.2 (by omega)), by first | (rw [g47]; rfl) | (rw [g47]; exact decide_eq_decide.2 (by omega))⟩
        ·
          refine E.wanted 40 rfl rfl ?_
          refine E.pure (S.move rfl) rfl ?_
          refine E.wanted 40 rfl rfl ?_
          refine E.pure (S.lenSl rfl Tryd.underlying22) rfl ?_
          refine E.wanted 40 rfl rfl ?_
          refine E.pure (S.gt (b := ((0 : Nat) : Int)) rfl rfl) rfl ?_
          refine E.pure (S.pickF rfl rfl) rfl ?_
          refine E.pure (S.field rfl fa34_5) rfl ?_
          refine E.still (S.load 2 (k := 9) rfl rfl rfl Tryd.isAgg4) rfl ?_
          refine E.pure (S.move rfl) rfl ?_
          first | refine E.fork (fun g47 => ?_) (fun g47 => ?_) | refine E.forkB (fun g47 => ?_) (fun g47 => ?_)
          ·
            refine E.guardNo 47 true rfl rfl rfl rfl ?_
            refine E.guardNo 47 true rfl rfl rfl rfl ?_
            refine E.guardNo 47 true rfl rfl rfl rfl ?_
            refine E.pure (S.pickT rfl rfl) rfl ?_
            refine E.loud1 (X.buildSliceV (vs := [.bool m.text, .bool m.checked, .bool true, _, .bool true]) (e := 4) [(0, .bool m.text), (1, .bool m.checked), (2, .bool true), (3, _), (4, .bool true)] rfl (fun w => by simp [Instr.buildSlice, Instr.fill, Value.cells, newRow, Tryd.runUnderlying81, Tryd.typeInfo4]; rw [arr5])) rfl ?_; rintro _ _ ⟨sb, rfl, rfl⟩; refine E.relist (L2 := [_, _, _, _]) rfl ?_
            refine E.pure (S.lenSl rfl Tryd.underlying81) rfl ?_
            refine E.pure (S.move rfl) rfl ?_
            refine E.keep [1, 2, 3, 5, 7, 52, 53, 54] (env1 := [(1, _), (2, _), (3, _), (5, _), (7, _), (52, _), (53, _), (54, _)]) rfl ?_
            exact ⟨_, _, _, _, rfl, rfl, by first | (rw [g31]; rfl) | (rw [g31]; exact decide_eq_decide.2 (by omega)), by first | (rw [g40]; rfl) | (rw [g40]; exact decide_eq_decide.2 (by omega)), by first | (rw [g47]; rfl) | (rw [g47]; exact decide_eq_decide.2 (by omega))⟩
          ·
            refine E.wanted 47 rfl rfl ?_
            refine E.pure (S.move rfl) rfl ?_
            refine E.wanted 47 rfl rfl ?_
            refine E.pure (S.lenSl rfl Tryd.underlying22) rfl ?_
            refine E.wanted 47 rfl rfl ?_
            refine E.pure (S.gt (b := ((0 : Nat) : Int)) rfl rfl) rfl ?_
            refine E.pure (S.pickF rfl rfl) rfl ?_
            refine E.loud1 (X.buildSliceV (vs := [.bool m.text, .bool m.checked, .bool true, _, _]) (e := 4) [(0, .bool m.text), (1, .bool m.checked), (2, .bool true), (3, _), (4, _)] rfl (fun w => by simp [Instr.buildSlice, Instr.fill, Value.cells, newRow, Tryd.runUnderlying81, Tryd.typeInfo4]; rw [arr5])) rfl ?_; rintro _ _ ⟨sb, rfl, rfl⟩; refine E.relist (L2 := [_, _, _, _]) rfl ?_
            refine E.pure (S.lenSl rfl Tryd.underlying81) rfl ?_
            refine E.pure (S.move rfl) rfl ?_
            refine E.keep [1, 2, 3, 5, 7, 52, 53, 54] (env1 := [(1, _), (2, _), (3, _), (5, _), (7, _), (52, _), (53, _), (54, _)]) rfl ?_
            exact ⟨_, _, _, _, rfl, rfl, by first | (rw [g31]; rfl) | (rw [g31]; exact decide_eq_decide.2 (by omega)), by first | (rw [g40]; rfl) | (rw [g40]; exact decide_eq_decide.2 (by omega)), by first | (rw [g47]; rfl) | (rw [g47]; exact decide_eq_decide.2 (by omega))⟩
      ·
        refine E.wanted 31 rfl rfl ?_
        refine E.pure (S.field rfl fa34_0) rfl ?_
        refine E.wanted 31 rfl rfl ?_
        refine E.pure (S.field rfl fa24_2) rfl ?_
        refine E.wanted 31 rfl rfl ?_
        refine E.still (S.load 2 (k := 2) rfl rfl rfl Tryd.isAgg22) rfl ?_
        refine E.wanted 31 rfl rfl ?_
        refine E.pure (S.lenSl rfl Tryd.underlying22) rfl ?_
        refine E.wanted 31 rfl rfl ?_
        refine E.pure (S.gt (b := ((0 : Nat) : Int)) rfl rfl) rfl ?_
        refine E.pure (S.pickF rfl rfl) rfl ?_
        refine E.pure (S.field rfl fa34_4) rfl ?_
        refine E.still (S.load 2 (k := 8) rfl rfl rfl Tryd.isAgg4) rfl ?_
        refine E.pure (S.move rfl) rfl ?_
        first | refine E.fork (fun g40 => ?_) (fun g40 => ?_) | refine E.forkB (fun g40 => ?_) (fun g40 => ?_)
        ·
          refine E.guardNo 40 true rfl rfl rfl rfl ?_
          refine E.guardNo 40 true rfl rfl rfl rfl ?_
          refine E.guardNo 40 true rfl rfl rfl rfl ?_
          refine E.pure (S.pickT rfl rfl) rfl ?_
          refine E.pure (S.field rfl fa34_5) rfl ?_
          refine E.still (S.load 2 (k := 9) rfl rfl rfl Tryd.isAgg4) rfl ?_
          refine E.pure (S.move rfl) rfl ?_
          first | refine E.fork (fun g47 => ?_) (fun g47 => ?_) | refine E.forkB (fun g47 => ?_) (fun g47 => ?_)
          ·
            refine E.guardNo 47 true rfl rfl rfl rfl ?_
            refine E.guardNo 47 true rfl rfl rfl rfl ?_
            refine E.guardNo 47 true rfl rfl rfl rfl ?_
            refine E.pure (S.pickT rfl rfl) rfl ?_
            refine E.loud1 (X.buildSliceV (vs := [.bool m.text, .bool m.checked, _, .bool true, .bool true]) (e := 4) [(0, .bool m.text), (1, .bool m.checked), (2, _), (3, .bool true), (4, .bool true)] rfl (fun w => by simp [Instr.buildSlice, Instr.fill, Value.cells, newRow, Tryd.runUnderlying81, Tryd.typeInfo4]; rw [arr5])) rfl ?_; rintro _ _ ⟨sb, rfl, rfl⟩; refine E.relist (L2 := [_, _, _, _]) rfl ?_
            refine E.pure (S.lenSl rfl Tryd.underlying81) rfl ?_
            refine E.pure (S.move rfl) rfl ?_
            refine E.keep [1, 2, 3, 5, 7, 52, 53, 54] (env1 := [(1, _), (2, _), (3, _), (5, _), (7, _), (52, _), (53, _), (54, _)]) rfl ?_
            exact ⟨_, _, _, _, rfl, rfl, by first | (rw [g31]; rfl) | (rw [g31]; exact decide_eq_decide.2 (by omega)), by first | (rw [g40]; rfl) | (rw [g40]; exact decide_eq_decide.2 (by omega)), by first | (rw [g47]; rfl) | (rw [g47]; exact decide_eq_decide.2 (by omega))⟩
          ·
            refine E.wanted 47 rfl rfl ?_
            refine E.pure (S.move rfl) rfl ?_
            refine E.wanted 47 rfl rfl ?_
            refine E.pure (S.lenSl rfl Tryd.underlying22) rfl ?_
            refine E.wanted 47 rfl rfl ?_
            refine E.pure (S.gt (b := ((0 : Nat) : Int)) rfl rfl) rfl ?_
            refine E.pure (S.pickF rfl rfl) rfl ?_
            refine E.loud1 (X.buildSliceV (vs := [.bool m.text, .bool m.checked, _, .bool true, _]) (e := 4) [(0, .bool m.text), (1, .bool m.checked), (2, _), (3, .bool true), (4, _)] rfl (fun w => by simp [Instr.buildSlice, Instr.fill, Value.cells, newRow, Tryd.runUnderlying81, Tryd.typeInfo4]; rw [arr5])) rfl ?_; rintro _ _ ⟨sb, rfl, rfl⟩; refine E.relist (L2 := [_, _, _, _]) rfl ?_
            refine E.pure (S.lenSl rfl Tryd.underlying81) rfl ?_
            refine E.pure (S.move rfl) rfl ?_
            refine E.keep [1, 2, 3, 5, 7, 52, 53, 54] (env1 := [(1, _), (2, _), (3, _), (5, _), (7, _), (52, _), (53, _), (54, _)]) rfl ?_
            exact ⟨_, _, _, _, rfl, rfl, by first | (rw [g31]; rfl) | (rw [g31]; exact decide_eq_decide.2 (by omega)), by first | (rw [g40]; rfl) | (rw [g40]; exact decide_eq_decide.2 (by omega)), by first | (rw [g47]; rfl) | (rw [g47]; exact decide_eq_decide.2 (by omega))⟩
        ·
          refine E.wanted 40 rfl rfl ?_
          refine E.pure (S.move rfl) rfl ?_
          refine E.wanted 40 rfl rfl ?_
          refine E.pure (S.lenSl rfl Tryd.underlying22) rfl ?_
          refine E.wanted 40 rfl rfl ?_
          refine E.pure (S.gt (b := ((0 : Nat) : Int)) rfl rfl) rfl ?_
          refine E.pure (S.pickF rfl rfl) rfl ?_
          refine E.pure (S.field rfl fa34_5) rfl ?_
          refine E.still (S.load 2 (k := 9) rfl rfl rfl Tryd.isAgg4) rfl ?_
          refine E.pure (S.move rfl) rfl ?_
          first | refine E.fork (fun g47 => ?_) (fun g47 => ?_) | refine E.forkB (fun g47 => ?_) (fun g47 => ?_)
          ·
            refine E.guardNo 47 true rfl rfl rfl rfl ?_
            refine E.guardNo 47 true rfl rfl rfl rfl ?_
            refine E.guardNo 47 true rfl rfl rfl rfl ?_
            refine E.pure (S.pickT rfl rfl) rfl ?_
            refine E.loud1 (X.buildSliceV (vs := [.bool m.text, .bool m.checked, _, _, .bool true]) (e := 4) [(0, .bool m.text), (1, .bool m.checked), (2, _), (3, _), (4, .bool true)] rfl (fun w => by simp [Instr.buildSlice, Instr.fill, Value.cells, newRow, Tryd.runUnderlying81, Tryd.typeInfo4]; rw [arr5])) rfl ?_; rintro _ _ ⟨sb, rfl, rfl⟩; refine E.relist (L2 := [_, _, _, _]) rfl ?_
            refine E.pure (S.lenSl rfl Tryd.underlying81) rfl ?_
            refine E.pure (S.move rfl) rfl ?_
            refine E.keep [1, 2, 3, 5, 7, 52, 53, 54] (env1 := [(1, _), (2, _), (3, _), (5, _), (7, _), (52, _), (53, _), (54, _)]) rfl ?_
            exact ⟨_, _, _, _, rfl, rfl, by first | (rw [g31]; rfl) | (rw [g31]; exact decide_eq_decide.2 (by omega)), by first | (rw [g40]; rfl) | (rw [g40]; exact decide_eq_decide.2 (by omega)), by first | (rw [g47]; rfl) | (rw [g47]; exact decide_eq_decide.2 (by omega))⟩
          ·
            refine E.wanted 47 rfl rfl ?_
            refine E.pure (S.move rfl) rfl ?_
            refine E.wanted 47 rfl rfl ?_
            refine E.pure (S.lenSl rfl Tryd.underlying22) rfl ?_
            refine E.wanted 47 rfl rfl ?_
            refine E.pure (S.gt (b := ((0 : Nat) : Int)) rfl rfl) rfl ?_
            refine E.pure (S.pickF rfl rfl) rfl ?_
            refine E.loud1 (X.buildSliceV (vs := [.bool m.text, .bool m.checked, _, _, _]) (e := 4) [(0, .bool m.text), (1, .bool m.checked), (2, _), (3, _), (4, _)] rfl (fun w => by simp [Instr.buildSlice, Instr.fill, Value.cells, newRow, Tryd.runUnderlying81, Tryd.typeInfo4]; rw [arr5])) rfl ?_; rintro _ _ ⟨sb, rfl, rfl⟩; refine E.relist (L2 := [_, _, _, _]) rfl ?_
            refine E.pure (S.lenSl rfl Tryd.underlying81) rfl ?_
            refine E.pure (S.move rfl) rfl ?_
            refine E.keep [1, 2, 3, 5, 7, 52, 53, 54] (env1 := [(1, _), (2, _), (3, _), (5, _), (7, _), (52, _), (53, _), (54, _)]) rfl ?_
            exact ⟨_, _, _, _, rfl, rfl, by first | (rw [g31]; rfl) | (rw [g31]; exact decide_eq_decide.2 (by omega)), by first | (rw [g40]; rfl) | (rw [g40]; exact decide_eq_decide.2 (by omega)), by first | (rw [g47]; rfl) | (rw [g47]; exact decide_eq_decide.2 (by omega))⟩
    ·
      rintro _ _ ⟨b3, b4, b5, sb, hq5, rfl, hb3, hb4, hb5⟩
      refine C.weaken _ hq5 ?_
      refine C.block ?_
      refine C.loop (fun mm ee ll => ∃ (i : Nat), ∃ (fl : Nat), keeps ee [1, 3, 5, 7, 52, 53, 54] = some [(1, .pointer (some ⟨b1, 0, none⟩)), (3, .slice a1 nb.length c1), (5, .slice a2 cb.length c2), (7, .int .u8 ((fl : Nat) : Int)), (52, .slice (some ⟨sb, 0, none⟩) (5) (5)), (53, .int .i64 ((5 : Nat) : Int)), (54, .int .i64 ((i : Nat) : Int))] ∧ ll = [⟨sb, 0, [.bool m.text, .bool m.checked, .bool b3, .bool b4, .bool b5]⟩, g2, g1, ⟨b1, 0, [.string m.name, .string m.comment, .slice ea m.extra.length ec, .int .i64 ((mo : Nat) : Int), u8 m.os, .bool m.text, .bool m.checked, .bool m.ex, .bool m.nm, .bool m.cm, u8 m.flags, .slice va vn vc]⟩] ∧ (i ≤ 5) ∧ (fl = flN [m.text, m.checked, b3, b4, b5] i) ∧ mm = 5 - i) (_) ⟨0, 0, rfl, rfl, by omega, rfl, rfl⟩ ?_
      rintro m0 _ _ ⟨i, fl, hk0, rfl, hi, hf2, hm0⟩
      refine C.weaken _ hk0 ?_
      refine C.seq ?_
      refine C.region ?_
      refine E.pure (S.lt rfl rfl) rfl ?_
      refine E.keep [1, 3, 5, 7, 52, 53, 54, 55] (env1 := [(1, _), (3, _), (5, _), (7, _), (52, _), (53, _), (54, _), (55, _)]) rfl ?_
      refine C.seq ?_
      first | refine C.ifp rfl (fun h55 => ?_) (fun h55 => ?_) | refine C.cond rfl (fun h55 => ?_) (fun h55 => ?_)
      ·
        have hi2 : i < 5 := by omega
        have hflt := flN_lt [m.text, m.checked, b3, b4, b5] i
        have hf256 : 2 ^ i ≤ 2 ^ 5 := Nat.pow_le_pow_right (by omega) (by omega)
        have hget := bools_get (a := m.text) (b := m.checked) (c := b3) (d := b4) (e := b5) hi2
        refine C.skip ?_
        refine C.seq ?_
        refine C.block ?_
        refine C.seq ?_
        refine C.region ?_
        refine E.pure (S.move rfl) rfl ?_
        refine E.pure (S.ixSl rfl rfl (by omega) Tryd.underlying81 Tryd.sizeOf4) rfl ?_
        refine E.still (S.load 0 (k := i * 1) rfl rfl hget Tryd.isAgg4) rfl ?_
        refine E.pure (S.assign rfl) rfl ?_
        refine E.pure (S.assign rfl) rfl ?_
        refine E.keep [1, 3, 5, 7, 8, 9, 52, 53, 54, 55] (env1 := [(1, _), (3, _), (5, _), (7, _), (8, _), (9, _), (52, _), (53, _), (54, _), (55, _)]) rfl ?_
        refine C.seq ?_
        refine C.region ?_
        refine E.pure (S.move rfl) rfl ?_
        refine E.keep [1, 3, 5, 7, 8, 9, 52, 53, 54, 55, 59] (env1 := [(1, _), (3, _), (5, _), (7, _), (8, _), (9, _), (52, _), (53, _), (54, _), (55, _), (59, _)]) rfl ?_
        first | refine C.ifp rfl (fun h59 => ?_) (fun h59 => ?_) | refine C.cond rfl (fun h59 => ?_) (fun h59 => ?_)
        ·
          refine C.region ?_
          refine E.pure (S.move rfl) rfl ?_
          refine E.pure (S.move rfl) rfl ?_
          refine E.pure (S.shl (a := ((1 : Nat) : Int)) rfl rfl (by omega) (N.shl_u8 _ _)) rfl ?_
          refine E.pure (S.or rfl rfl (N.or_u8 (by omega) (Nat.mod_lt _ (by decide)))) rfl ?_
          refine E.pure (S.assign rfl) rfl ?_
          refine E.keep [1, 3, 5, 7, 8, 9, 52, 53, 54, 55, 59] (env1 := [(1, _), (3, _), (5, _), (7, _), (8, _), (9, _), (52, _), (53, _), (54, _), (55, _), (59, _)]) rfl ?_
          refine C.region ?_
          first | refine E.pure (S.add (b := ((1 : Nat) : Int)) rfl rfl (N.add64 (by omega))) rfl ?_ | refine E.pure (S.add (b := ((1 : Nat) : Int)) rfl rfl (N.addZ (by omega))) rfl ?_
          refine E.pure (S.move rfl) rfl ?_
          refine E.keep [1, 3, 5, 7, 8, 9, 52, 53, 54, 55, 59] (env1 := [(1, _), (3, _), (5, _), (7, _), (8, _), (9, _), (52, _), (53, _), (54, _), (55, _), (59, _)]) rfl ?_
          refine ⟨_, ?_, i + 1, _, rfl, rfl, by omega, by first | (rw [hf2]; exact flN_yes hi2 h59) | (rw [hf2]; exact (flN_no h59).symm), rfl⟩; omega
        ·
          refine C.skip ?_
          refine C.region ?_
          first | refine E.pure (S.add (b := ((1 : Nat) : Int)) rfl rfl (N.add64 (by omega))) rfl ?_ | refine E.pure (S.add (b := ((1 : Nat) : Int)) rfl rfl (N.addZ (by omega))) rfl ?_
          refine E.pure (S.move rfl) rfl ?_
          refine E.keep [1, 3, 5, 7, 8, 9, 52, 53, 54, 55, 59] (env1 := [(1, _), (3, _), (5, _), (7, _), (8, _), (9, _), (52, _), (53, _), (54, _), (55, _), (59, _)]) rfl ?_
          refine ⟨_, ?_, i + 1, _, rfl, rfl, by omega, by first | (rw [hf2]; exact flN_yes hi2 h59) | (rw [hf2]; exact (flN_no h59).symm), rfl⟩; omega
      ·
        have hi2 : i = 5 := by omega
        subst hi2
        subst hb3 hb4 hb5
        rw [flN_flags] at hf2
        subst hf2
        refine C.exit rfl ?_
        exact ⟨_, rfl, rfl⟩
  ·
    rintro _ _ ⟨sbf, hq10, rfl⟩
    refine C.weaken _ hq10 ?_
    refine C.seq ?_
    refine C.region ?_
    refine E.pure (S.move rfl) rfl ?_
    refine E.loud1 (X.buildSliceV (vs := [.int .u8 31, .int .u8 139, .int .u8 8, .int .u8 ((flagsN m nb cb : Nat) : Int)]) (e := 5) [(0, .int .u8 31), (1, .int .u8 139), (2, .int .u8 8), (3, .int .u8 ((flagsN m nb cb : Nat) : Int))] rfl (fun w => by simp [Instr.buildSlice, Instr.fill, Value.cells, newRow, Tryd.runUnderlying22, Tryd.typeInfo5]; rw [arr4])) rfl ?_; rintro _ _ ⟨hb, rfl, rfl⟩; refine E.relist (L2 := [_, _, _, _, _]) rfl ?_
    have hS0 := head_sl hb (flagsN m nb cb) (by omega)
    refine E.pure (S.field rfl fa34_0) rfl ?_
    refine E.pure (S.field rfl fa24_3) rfl ?_
    refine E.still (S.load 4 (k := 3) rfl rfl rfl Tryd.isAgg2) rfl ?_
    refine E.loud1 (OpX.pick [] (F := [_, _, _, _, _]) rfl (X.call rfl Tryd.call33 (number_rd (mo) 4 (by omega) (by decide)))) rfl ?_; rintro _ _ ⟨_, ⟨na, nc, gq, hQ, rfl, rfl⟩, rfl⟩; refine E.relist (L2 := [_, _, _, _, _, _]) rfl ?_
    refine E.loud1 (OpX.pick [1, 0] (F := [_, _, _, _]) rfl (X.appendO (xs := [31, 139, 8, UInt8.ofNat (flagsN m nb cb)]) (ys := numL mo 4) rfl rfl hS0 rfl (hQ _ _ (.tail _ (.head _))) (by first | omega | (simp only [List.length_append, numL_length, List.length_cons, List.length_nil]; omega)) (by first | omega | (simp only [List.length_append, numL_length, List.length_cons, List.length_nil]; omega)))) rfl ?_; rintro _ _ ⟨_, ⟨gh, hSgh, rfl⟩, rfl⟩; refine E.relist (L2 := [_, _, _, _, _, _]) rfl ?_
    refine E.pure (S.assign rfl) rfl ?_
    refine E.forget [0, 2, 2, 2] (A := [_, _, _, _]) rfl ?_
    refine E.relist (L2 := [_, _, _, _]) rfl ?_
    refine E.keep [1, 3, 5, 7, 10] (env1 := [(1, _), (3, _), (5, _), (7, _), (10, _)]) rfl ?_
    refine C.cut (M := fun ee ll => ∃ (v : Value), ∃ (gh : Frag), keeps ee [1, 3, 5, 7, 10] = some [(1, .pointer (some ⟨b1, 0, none⟩)), (3, .slice a1 nb.length c1), (5, .slice a2 cb.length c2), (7, .int .u8 ((flagsN m nb cb : Nat) : Int)), (10, v)] ∧ ll = [gh, g2, g1, ⟨b1, 0, [.string m.name, .string m.comment, .slice ea m.extra.length ec, .int .i64 ((mo : Nat) : Int), u8 m.os, .bool m.text, .bool m.checked, .bool m.ex, .bool m.nm, .bool m.cm, u8 m.flags, .slice va vn vc]⟩] ∧ (Sl 1 v (first0 m nb cb).length (bytesV (first0 m nb cb)) [gh])) ?_ ?_
    ·
      refine C.region ?_
      refine E.pure (S.move rfl) rfl ?_
      refine E.pure (S.field rfl fa34_6) rfl ?_
      refine E.still (S.load 3 (k := 10) rfl rfl rfl Tryd.isAgg5) rfl ?_
      refine E.pure (S.field rfl fa34_0) rfl ?_
      refine E.pure (S.field rfl fa24_4) rfl ?_
      refine E.still (S.load 3 (k := 4) rfl rfl rfl Tryd.isAgg5) rfl ?_
      refine E.loud1 (X.buildSliceV (vs := [u8 m.flags, u8 m.os]) (e := 5) [(0, u8 m.flags), (1, u8 m.os)] rfl (fun w => by simp [Instr.buildSlice, Instr.fill, Value.cells, newRow, Tryd.runUnderlying22, Tryd.typeInfo5]; rw [arr2])) rfl ?_; rintro _ _ ⟨yb, rfl, rfl⟩; refine E.relist (L2 := [_, _, _, _, _]) rfl ?_
      refine E.loud1 (OpX.pick [1, 0] (F := [_, _, _]) rfl (X.appendO (xs := ([31, 139, 8, UInt8.ofNat (flagsN m nb cb)] ++ numL mo 4)) (ys := [m.flags, m.os]) rfl rfl hSgh rfl (.inr ⟨yb, 0, rfl, Reads.mem (k := 0) (.tail _ (.head _)) rfl⟩) (by first | omega | (simp only [List.length_append, numL_length, List.length_cons, List.length_nil]; omega)) (by first | omega | (simp only [List.length_append, numL_length, List.length_cons, List.length_nil]; omega)))) rfl ?_; rintro _ _ ⟨_, ⟨gi, hSgi, rfl⟩, rfl⟩; refine E.relist (L2 := [_, _, _, _, _]) rfl ?_
      refine E.pure (S.assign rfl) rfl ?_
      refine E.forget [0, 1, 1, 1] (A := [_, _, _, _]) rfl ?_
      refine E.relist (L2 := [_, _, _, _]) rfl ?_
      refine E.keep [1, 3, 5, 7, 10] (env1 := [(1, _), (3, _), (5, _), (7, _), (10, _)]) rfl ?_
      exact ⟨_, _, rfl, rfl, by rw [first0, hmo]; exact hSgi⟩
    ·
      rintro _ _ ⟨v, gh, hq12, rfl, hS⟩
      refine C.weaken _ hq12 ?_
      refine C.cut (M := fun ee ll => ∃ (v : Value), ∃ (gh : Frag), keeps ee [1, 3, 5, 7, 10] = some [(1, .pointer (some ⟨b1, 0, none⟩)), (3, .slice a1 nb.length c1), (5, .slice a2 cb.length c2), (7, .int .u8 ((flagsN m nb cb : Nat) : Int)), (10, v)] ∧ ll = [gh, g2, g1, ⟨b1, 0, [.string m.name, .string m.comment, .slice ea m.extra.length ec, .int .i64 ((mo : Nat) : Int), u8 m.os, .bool m.text, .bool m.checked, .bool m.ex, .bool m.nm, .bool m.cm, u8 m.flags, .slice va vn vc]⟩] ∧ (Sl 1 v (first1 m nb cb).length (bytesV (first1 m nb cb)) [gh])) ?_ ?_
      ·
        refine C.seq ?_
        refine C.region ?_
        refine E.pure (S.move rfl) rfl ?_
        refine E.pure (S.and (b := ((4 : Nat) : Int)) rfl rfl (N.and_u8 (by omega) (by omega))) rfl ?_
        refine E.pure (S.ne (b := ((0 : Nat) : Int)) rfl rfl) rfl ?_
        refine E.keep [1, 3, 5, 7, 10, 82] (env1 := [(1, _), (3, _), (5, _), (7, _), (10, _), (82, _)]) rfl ?_
        first | refine C.ifp rfl (fun h82 => ?_) (fun h82 => ?_) | refine C.cond rfl (fun h82 => ?_) (fun h82 => ?_)
        ·
          refine C.draw [0, 0, 2, 4, 8, 16, 33, 0, 128, 256, 576, 2047] (.pure 0 958 (.pure 1 897 (.pure 2 899 (.pure 7 127 (.pure 8 255 (.alt 3 (.pure 4 911 (.alt 5 (.alt 6 (.seg [(9, 511)] (.alt 10 (.pure 11 2047 .done) .stop)) (.alt 9 (.alt 6 (.alt 10 (.pure 11 2047 .done) .stop) .stop) .stop)) (.alt 9 (.alt 5 (.alt 6 (.alt 10 (.pure 11 2047 .done) .stop) .stop) .stop) .stop))) (.alt 9 (.seg [(3, 903), (4, 911)] (.alt 5 (.alt 6 (.alt 10 (.pure 11 2047 .done) .stop) .stop) .stop)) .stop))))))) mixed (by decide +kernel) ?_
          refine D.pure rfl (S.move rfl) rfl ?_
          refine D.pure rfl (S.field rfl fa34_0) rfl ?_
          refine D.pure rfl (S.field rfl fa24_2) rfl ?_
          refine D.pure rfl (S.field rfl fa34_0) rfl ?_
          refine D.pure rfl (S.field rfl fa24_2) rfl ?_
          refine D.alt ?_ ⟨?_, trivial⟩
          ·
            refine O.still rfl (S.load 3 (k := 2) rfl rfl rfl Tryd.isAgg22) rfl ?_
            refine D.pure rfl (S.lenSl rfl Tryd.underlying22) rfl ?_
            refine D.alt ?_ ⟨?_, trivial⟩
            ·
              refine O.loud1 rfl (OpX.pick [] (F := [_, _, _, _]) rfl (X.call rfl Tryd.call33 (number_rd (m.extra.length) 2 (by omega) (by decide)))) rfl ?_; rintro _ _ ⟨_, ⟨na, nc, gq, hQ, rfl, rfl⟩, rfl⟩; refine D.relist (L2 := [_, _, _, _, _]) rfl ?_
              refine D.alt ?_ ⟨?_, trivial⟩
              ·
                refine O.loud1 rfl (OpX.pick [1, 0] (F := [_, _, _]) rfl (X.appendO (xs := (first0 m nb cb)) (ys := numL m.extra.length 2) rfl rfl hS rfl (hQ _ _ (.tail _ (.head _))) (by first | omega | (simp only [List.length_append, numL_length, List.length_cons, List.length_nil]; omega)) (by first | omega | (simp only [List.length_append, numL_length, List.length_cons, List.length_nil]; omega)))) rfl ?_; rintro _ _ ⟨_, ⟨gi, hSgi, rfl⟩, rfl⟩; refine D.relist (L2 := [_, _, _, _, _]) rfl ?_
                refine D.seg (by decide) ?_
                refine W.still rfl (S.load 4 (k := 2) rfl rfl rfl Tryd.isAgg22) rfl ?_
                refine W.nil ?_
                refine D.one ?_
                refine O.loud1 rfl (OpX.pick [0] (F := [_, _, _, _]) rfl (X.appendO (xs := (first0 m nb cb ++ numL m.extra.length 2)) (ys := m.extra) rfl rfl hSgi rfl (hE.imp id (fun ⟨b, o, h1, h2⟩ => ⟨b, o, h1, h2.reads⟩)) (by first | omega | (simp only [List.length_append, numL_length, List.length_cons, List.length_nil]; omega)) (by first | omega | (simp only [List.length_append, numL_length, List.length_cons, List.length_nil]; omega)))) rfl ?_; rintro _ _ ⟨_, ⟨gj, hSgj, rfl⟩, rfl⟩; refine D.relist (L2 := [_, _, _, _, _]) rfl ?_
                refine D.pure rfl (S.assign rfl) rfl ?_
                refine D.forget [0, 1, 1, 1] (A := [_, _, _, _]) rfl ?_
                refine D.relist (L2 := [_, _, _, _]) rfl ?_
                refine D.keep [1, 3, 5, 7, 10, 82] (env1 := [(1, _), (3, _), (5, _), (7, _), (10, _), (82, _)]) rfl ?_
                first | exact ⟨_, _, rfl, rfl, by rw [first1, if_neg (by omega)]; exact hSgj⟩ | exact ⟨_, _, rfl, rfl, by rw [first1, if_pos (by omega)]; exact hS⟩
              ·
                refine O.still rfl (S.load 4 (k := 2) rfl rfl rfl Tryd.isAgg22) rfl ?_
                refine D.one ?_
                refine O.loud1 rfl (OpX.pick [1, 0] (F := [_, _, _]) rfl (X.appendO (xs := (first0 m nb cb)) (ys := numL m.extra.length 2) rfl rfl hS rfl (hQ _ _ (.tail _ (.head _))) (by first | omega | (simp only [List.length_append, numL_length, List.length_cons, List.length_nil]; omega)) (by first | omega | (simp only [List.length_append, numL_length, List.length_cons, List.length_nil]; omega)))) rfl ?_; rintro _ _ ⟨_, ⟨gi, hSgi, rfl⟩, rfl⟩; refine D.relist (L2 := [_, _, _, _, _]) rfl ?_
                refine D.one ?_
                refine O.loud1 rfl (OpX.pick [0] (F := [_, _, _, _]) rfl (X.appendO (xs := (first0 m nb cb ++ numL m.extra.length 2)) (ys := m.extra) rfl rfl hSgi rfl (hE.imp id (fun ⟨b, o, h1, h2⟩ => ⟨b, o, h1, h2.reads⟩)) (by first | omega | (simp only [List.length_append, numL_length, List.length_cons, List.length_nil]; omega)) (by first | omega | (simp only [List.length_append, numL_length, List.length_cons, List.length_nil]; omega)))) rfl ?_; rintro _ _ ⟨_, ⟨gj, hSgj, rfl⟩, rfl⟩; refine D.relist (L2 := [_, _, _, _, _]) rfl ?_
                refine D.pure rfl (S.assign rfl) rfl ?_
                refine D.forget [0, 1, 1, 1] (A := [_, _, _, _]) rfl ?_
                refine D.relist (L2 := [_, _, _, _]) rfl ?_
                refine D.keep [1, 3, 5, 7, 10, 82] (env1 := [(1, _), (3, _), (5, _), (7, _), (10, _), (82, _)]) rfl ?_
                first | exact ⟨_, _, rfl, rfl, by rw [first1, if_neg (by omega)]; exact hSgj⟩ | exact ⟨_, _, rfl, rfl, by rw [first1, if_pos (by omega)]; exact hS⟩
            ·
              refine O.still rfl (S.load 3 (k := 2) rfl rfl rfl Tryd.isAgg22) rfl ?_
              refine D.one ?_
              refine O.loud1 rfl (OpX.pick [] (F := [_, _, _, _]) rfl (X.call rfl Tryd.call33 (number_rd (m.extra.length) 2 (by omega) (by decide)))) rfl ?_; rintro _ _ ⟨_, ⟨na, nc, gq, hQ, rfl, rfl⟩, rfl⟩; refine D.relist (L2 := [_, _, _, _, _]) rfl ?_
              refine D.one ?_
              refine O.loud1 rfl (OpX.pick [1, 0] (F := [_, _, _]) rfl (X.appendO (xs := (first0 m nb cb)) (ys := numL m.extra.length 2) rfl rfl hS rfl (hQ _ _ (.tail _ (.head _))) (by first | omega | (simp only [List.length_append, numL_length, List.length_cons, List.length_nil]; omega)) (by first | omega | (simp only [List.length_append, numL_length, List.length_cons, List.length_nil]; omega)))) rfl ?_; rintro _ _ ⟨_, ⟨gi, hSgi, rfl⟩, rfl⟩; refine D.relist (L2 := [_, _, _, _, _]) rfl ?_
              refine D.one ?_
              refine O.loud1 rfl (OpX.pick [0] (F := [_, _, _, _]) rfl (X.appendO (xs := (first0 m nb cb ++ numL m.extra.length 2)) (ys := m.extra) rfl rfl hSgi rfl (hE.imp id (fun ⟨b, o, h1, h2⟩ => ⟨b, o, h1, h2.reads⟩)) (by first | omega | (simp only [List.length_append, numL_length, List.length_cons, List.length_nil]; omega)) (by first | omega | (simp only [List.length_append, numL_length, List.length_cons, List.length_nil]; omega)))) rfl ?_; rintro _ _ ⟨_, ⟨gj, hSgj, rfl⟩, rfl⟩; refine D.relist (L2 := [_, _, _, _, _]) rfl ?_
              refine D.pure rfl (S.assign rfl) rfl ?_
              refine D.forget [0, 1, 1, 1] (A := [_, _, _, _]) rfl ?_
              refine D.relist (L2 := [_, _, _, _]) rfl ?_
              refine D.keep [1, 3, 5, 7, 10, 82] (env1 := [(1, _), (3, _), (5, _), (7, _), (10, _), (82, _)]) rfl ?_
              first | exact ⟨_, _, rfl, rfl, by rw [first1, if_neg (by omega)]; exact hSgj⟩ | exact ⟨_, _, rfl, rfl, by rw [first1, if_pos (by omega)]; exact hS⟩
          ·
            refine O.still rfl (S.load 3 (k := 2) rfl rfl rfl Tryd.isAgg22) rfl ?_
            refine D.seg (by decide) ?_
            refine W.still rfl (S.load 3 (k := 2) rfl rfl rfl Tryd.isAgg22) rfl ?_
            refine W.pure rfl (S.lenSl rfl Tryd.underlying22) rfl ?_
            refine W.nil ?_
            refine D.one ?_
            refine O.loud1 rfl (OpX.pick [] (F := [_, _, _, _]) rfl (X.call rfl Tryd.call33 (number_rd (m.extra.length) 2 (by omega) (by decide)))) rfl ?_; rintro _ _ ⟨_, ⟨na, nc, gq, hQ, rfl, rfl⟩, rfl⟩; refine D.relist (L2 := [_, _, _, _, _]) rfl ?_
            refine D.one ?_
            refine O.loud1 rfl (OpX.pick [1, 0] (F := [_, _, _]) rfl (X.appendO (xs := (first0 m nb cb)) (ys := numL m.extra.length 2) rfl rfl hS rfl (hQ _ _ (.tail _ (.head _))) (by first | omega | (simp only [List.length_append, numL_length, List.length_cons, List.length_nil]; omega)) (by first | omega | (simp only [List.length_append, numL_length, List.length_cons, List.length_nil]; omega)))) rfl ?_; rintro _ _ ⟨_, ⟨gi, hSgi, rfl⟩, rfl⟩; refine D.relist (L2 := [_, _, _, _, _]) rfl ?_
            refine D.one ?_
            refine O.loud1 rfl (OpX.pick [0] (F := [_, _, _, _]) rfl (X.appendO (xs := (first0 m nb cb ++ numL m.extra.length 2)) (ys := m.extra) rfl rfl hSgi rfl (hE.imp id (fun ⟨b, o, h1, h2⟩ => ⟨b, o, h1, h2.reads⟩)) (by first | omega | (simp only [List.length_append, numL_length, List.length_cons, List.length_nil]; omega)) (by first | omega | (simp only [List.length_append, numL_length, List.length_cons, List.length_nil]; omega)))) rfl ?_; rintro _ _ ⟨_, ⟨gj, hSgj, rfl⟩, rfl⟩; refine D.relist (L2 := [_, _, _, _, _]) rfl ?_
            refine D.pure rfl (S.assign rfl) rfl ?_
            refine D.forget [0, 1, 1, 1] (A := [_, _, _, _]) rfl ?_
            refine D.relist (L2 := [_, _, _, _]) rfl ?_
            refine D.keep [1, 3, 5, 7, 10, 82] (env1 := [(1, _), (3, _), (5, _), (7, _), (10, _), (82, _)]) rfl ?_
            first | exact ⟨_, _, rfl, rfl, by rw [first1, if_neg (by omega)]; exact hSgj⟩ | exact ⟨_, _, rfl, rfl, by rw [first1, if_pos (by omega)]; exact hS⟩
        ·
          refine C.skip ?_
          first | exact ⟨_, _, rfl, rfl, by rw [first1, if_neg (by omega)]; exact hSgj⟩ | exact ⟨_, _, rfl, rfl, by rw [first1, if_pos (by omega)]; exact hS⟩
      ·
        rintro _ _ ⟨v, gh, hq14, rfl, hS⟩
        refine C.weaken _ hq14 ?_
        refine C.cut (M := fun ee ll => ∃ (v : Value), ∃ (gh : Frag), keeps ee [1, 3, 5, 7, 10] = some [(1, .pointer (some ⟨b1, 0, none⟩)), (3, .slice a1 nb.length c1), (5, .slice a2 cb.length c2), (7, .int .u8 ((flagsN m nb cb : Nat) : Int)), (10, v)] ∧ ll = [gh, g2, g1, ⟨b1, 0, [.string m.name, .string m.comment, .slice ea m.extra.length ec, .int .i64 ((mo : Nat) : Int), u8 m.os, .bool m.text, .bool m.checked, .bool m.ex, .bool m.nm, .bool m.cm, u8 m.flags, .slice va vn vc]⟩] ∧ (Sl 1 v (first2 m nb cb).length (bytesV (first2 m nb cb)) [gh])) ?_ ?_
        ·
          refine C.seq ?_
          refine C.region ?_
          refine E.pure (S.move rfl) rfl ?_
          refine E.pure (S.and (b := ((8 : Nat) : Int)) rfl rfl (N.and_u8 (by omega) (by omega))) rfl ?_
          refine E.pure (S.ne (b := ((0 : Nat) : Int)) rfl rfl) rfl ?_
          refine E.keep [1, 3, 5, 7, 10, 96] (env1 := [(1, _), (3, _), (5, _), (7, _), (10, _), (96, _)]) rfl ?_
          first | refine C.ifp rfl (fun h96 => ?_) (fun h96 => ?_) | refine C.cond rfl (fun h96 => ?_) (fun h96 => ?_)
          ·
            refine C.region ?_
            refine E.pure (S.move rfl) rfl ?_
            refine E.pure (S.move rfl) rfl ?_
            refine E.loud1 (OpX.pick [0, 1] (F := [_, _]) rfl (X.appendO (xs := (first1 m nb cb)) (ys := nb) rfl rfl hS rfl (hR1 _ _ (.tail _ (.head _))) (by first | omega | (simp only [List.length_append, numL_length, List.length_cons, List.length_nil]; omega)) (by first | omega | (simp only [List.length_append, numL_length, List.length_cons, List.length_nil]; omega)))) rfl ?_; rintro _ _ ⟨_, ⟨gi, hSgi, rfl⟩, rfl⟩; refine E.relist (L2 := [_, _, _, _]) rfl ?_
            refine E.loud1 (X.buildSliceV (vs := [.int .u8 0]) (e := 5) [(0, .int .u8 0)] rfl (fun w => by simp [Instr.buildSlice, Instr.fill, Value.cells, newRow, Tryd.runUnderlying22, Tryd.typeInfo5]; rw [arr1])) rfl ?_; rintro _ _ ⟨yb, rfl, rfl⟩; refine E.relist (L2 := [_, _, _, _, _]) rfl ?_
            refine E.loud1 (OpX.pick [1, 0] (F := [_, _, _]) rfl (X.appendO (xs := (first1 m nb cb ++ nb)) (ys := [0]) rfl rfl hSgi rfl (.inr ⟨yb, 0, rfl, Reads.mem (k := 0) (.tail _ (.head _)) rfl⟩) (by first | omega | (simp only [List.length_append, numL_length, List.length_cons, List.length_nil]; omega)) (by first | omega | (simp only [List.length_append, numL_length, List.length_cons, List.length_nil]; omega)))) rfl ?_; rintro _ _ ⟨_, ⟨gj, hSgj, rfl⟩, rfl⟩; refine E.relist (L2 := [_, _, _, _, _]) rfl ?_
            refine E.pure (S.assign rfl) rfl ?_
            refine E.forget [0, 2, 1, 1] (A := [_, _, _, _]) rfl ?_
            refine E.relist (L2 := [_, _, _, _]) rfl ?_
            refine E.keep [1, 3, 5, 7, 10, 96] (env1 := [(1, _), (3, _), (5, _), (7, _), (10, _), (96, _)]) rfl ?_
            first | exact ⟨_, _, rfl, rfl, by rw [first2, if_neg (by omega)]; exact hSgj⟩ | exact ⟨_, _, rfl, rfl, by rw [first2, if_pos (by omega)]; exact hS⟩
          ·
            refine C.skip ?_
            first | exact ⟨_, _, rfl, rfl, by rw [first2, if_neg (by omega)]; exact hSgj⟩ | exact ⟨_, _, rfl, rfl, by rw [first2, if_pos (by omega)]; exact hS⟩
        ·
          rintro _ _ ⟨v, gh, hq16, rfl, hS⟩
          refine C.weaken _ hq16 ?_
          refine C.cut (M := fun ee ll => ∃ (v : Value), ∃ (gh : Frag), keeps ee [1, 3, 5, 7, 10] = some [(1, .pointer (some ⟨b1, 0, none⟩)), (3, .slice a1 nb.length c1), (5, .slice a2 cb.length c2), (7, .int .u8 ((flagsN m nb cb : Nat) : Int)), (10, v)] ∧ ll = [gh, g2, g1, ⟨b1, 0, [.string m.name, .string m.comment, .slice ea m.extra.length ec, .int .i64 ((mo : Nat) : Int), u8 m.os, .bool m.text, .bool m.checked, .bool m.ex, .bool m.nm, .bool m.cm, u8 m.flags, .slice va vn vc]⟩] ∧ (Sl 1 v (first3 m nb cb).length (bytesV (first3 m nb cb)) [gh])) ?_ ?_
          ·
            refine C.seq ?_
            refine C.region ?_
            refine E.pure (S.move rfl) rfl ?_
            refine E.pure (S.and (b := ((16 : Nat) : Int)) rfl rfl (N.and_u8 (by omega) (by omega))) rfl ?_
            refine E.pure (S.ne (b := ((0 : Nat) : Int)) rfl rfl) rfl ?_
            refine E.keep [1, 3, 5, 7, 10, 104] (env1 := [(1, _), (3, _), (5, _), (7, _), (10, _), (104, _)]) rfl ?_
            first | refine C.ifp rfl (fun h104 => ?_) (fun h104 => ?_) | refine C.cond rfl (fun h104 => ?_) (fun h104 => ?_)
            ·
              refine C.region ?_
              refine E.pure (S.move rfl) rfl ?_
              refine E.pure (S.move rfl) rfl ?_
              refine E.loud1 (OpX.pick [0, 0] (F := [_, _]) rfl (X.appendO (xs := (first2 m nb cb)) (ys := cb) rfl rfl hS rfl (hR2 _ _ (.tail _ (.head _))) (by first | omega | (simp only [List.length_append, numL_length, List.length_cons, List.length_nil]; omega)) (by first | omega | (simp only [List.length_append, numL_length, List.length_cons, List.length_nil]; omega)))) rfl ?_; rintro _ _ ⟨_, ⟨gi, hSgi, rfl⟩, rfl⟩; refine E.relist (L2 := [_, _, _, _]) rfl ?_
              refine E.loud1 (X.buildSliceV (vs := [.int .u8 0]) (e := 5) [(0, .int .u8 0)] rfl (fun w => by simp [Instr.buildSlice, Instr.fill, Value.cells, newRow, Tryd.runUnderlying22, Tryd.typeInfo5]; rw [arr1])) rfl ?_; rintro _ _ ⟨yb, rfl, rfl⟩; refine E.relist (L2 := [_, _, _, _, _]) rfl ?_
              refine E.loud1 (OpX.pick [1, 0] (F := [_, _, _]) rfl (X.appendO (xs := (first2 m nb cb ++ cb)) (ys := [0]) rfl rfl hSgi rfl (.inr ⟨yb, 0, rfl, Reads.mem (k := 0) (.tail _ (.head _)) rfl⟩) (by first | omega | (simp only [List.length_append, numL_length, List.length_cons, List.length_nil]; omega)) (by first | omega | (simp only [List.length_append, numL_length, List.length_cons, List.length_nil]; omega)))) rfl ?_; rintro _ _ ⟨_, ⟨gj, hSgj, rfl⟩, rfl⟩; refine E.relist (L2 := [_, _, _, _, _]) rfl ?_
              refine E.pure (S.assign rfl) rfl ?_
              refine E.forget [0, 1, 1, 1] (A := [_, _, _, _]) rfl ?_
              refine E.relist (L2 := [_, _, _, _]) rfl ?_
              refine E.keep [1, 3, 5, 7, 10, 104] (env1 := [(1, _), (3, _), (5, _), (7, _), (10, _), (104, _)]) rfl ?_
              first | exact ⟨_, _, rfl, rfl, by rw [first3, if_neg (by omega)]; exact hSgj⟩ | exact ⟨_, _, rfl, rfl, by rw [first3, if_pos (by omega)]; exact hS⟩
            ·
              refine C.skip ?_
              first | exact ⟨_, _, rfl, rfl, by rw [first3, if_neg (by omega)]; exact hSgj⟩ | exact ⟨_, _, rfl, rfl, by rw [first3, if_pos (by omega)]; exact hS⟩
          ·
            rintro _ _ ⟨v, gh, hq18, rfl, hS⟩
            refine C.weaken _ hq18 ?_
            refine C.cut (M := fun ee ll => ∃ (v : Value), ∃ (gh : Frag), keeps ee [1, 3, 5, 7, 10] = some [(1, .pointer (some ⟨b1, 0, none⟩)), (3, .slice a1 nb.length c1), (5, .slice a2 cb.length c2), (7, .int .u8 ((flagsN m nb cb : Nat) : Int)), (10, v)] ∧ ll = [gh, g2, g1, ⟨b1, 0, [.string m.name, .string m.comment, .slice ea m.extra.length ec, .int .i64 ((mo : Nat) : Int), u8 m.os, .bool m.text, .bool m.checked, .bool m.ex, .bool m.nm, .bool m.cm, u8 m.flags, .slice va vn vc]⟩] ∧ (Sl 1 v (firstL m nb cb).length (bytesV (firstL m nb cb)) [gh])) ?_ ?_
            ·
              refine C.seq ?_
              refine C.region ?_
              refine E.pure (S.move rfl) rfl ?_
              refine E.pure (S.and (b := ((2 : Nat) : Int)) rfl rfl (N.and_u8 (by omega) (by omega))) rfl ?_
              refine E.pure (S.ne (b := ((0 : Nat) : Int)) rfl rfl) rfl ?_
              refine E.keep [1, 3, 5, 7, 10, 112] (env1 := [(1, _), (3, _), (5, _), (7, _), (10, _), (112, _)]) rfl ?_
              first | refine C.ifp rfl (fun h112 => ?_) (fun h112 => ?_) | refine C.cond rfl (fun h112 => ?_) (fun h112 => ?_)
              ·
                refine C.region ?_
                refine E.pure (S.move rfl) rfl ?_
                refine E.pure (S.move rfl) rfl ?_
                refine E.loud1 (X.call rfl Tryd.call22 (check_own hS (by omega) (by omega) _)) rfl ?_; rintro _ _ ⟨rfl, rfl⟩; refine E.relist (L2 := [_, _, _, _]) rfl ?_
                refine E.pure (S.and (b := ((65535 : Nat) : Int)) rfl rfl (N.and_u32 (by omega) (by omega))) rfl ?_
                refine E.reslot (v := .int .u32 ((crcOn IEEE 0 (first3 m nb cb) % 65536 : Nat) : Int)) (congrArg (fun q : Nat => Value.int .u32 (q : Int)) (Nat.and_two_pow_sub_one_eq_mod _ 16)) ?_
                refine E.pure (S.conv rfl Tryd.underlying52 Tryd.underlying2 (N.i64n (by omega))) rfl ?_
                refine E.loud1 (OpX.pick [] (F := [_, _, _, _]) rfl (X.call rfl Tryd.call33 (number_rd (crcOn IEEE 0 (first3 m nb cb) % 65536) 2 (by omega) (by decide)))) rfl ?_; rintro _ _ ⟨_, ⟨na, nc, gq, hQ, rfl, rfl⟩, rfl⟩; refine E.relist (L2 := [_, _, _, _, _]) rfl ?_
                refine E.loud1 (OpX.pick [1, 0] (F := [_, _, _]) rfl (X.appendO (xs := (first3 m nb cb)) (ys := numL (crcOn IEEE 0 (first3 m nb cb) % 65536) 2) rfl rfl hS rfl (hQ _ _ (.tail _ (.head _))) (by first | omega | (simp only [List.length_append, numL_length, List.length_cons, List.length_nil]; omega)) (by first | omega | (simp only [List.length_append, numL_length, List.length_cons, List.length_nil]; omega)))) rfl ?_; rintro _ _ ⟨_, ⟨gi, hSgi, rfl⟩, rfl⟩; refine E.relist (L2 := [_, _, _, _, _]) rfl ?_
                refine E.pure (S.assign rfl) rfl ?_
                refine E.forget [0, 1, 1, 1] (A := [_, _, _, _]) rfl ?_
                refine E.relist (L2 := [_, _, _, _]) rfl ?_
                refine E.keep [1, 3, 5, 7, 10, 112] (env1 := [(1, _), (3, _), (5, _), (7, _), (10, _), (112, _)]) rfl ?_
                first | exact ⟨_, _, rfl, rfl, by rw [firstL, if_neg (by omega)]; exact hSgi⟩ | exact ⟨_, _, rfl, rfl, by rw [firstL, if_pos (by omega)]; exact hS⟩
              ·
                refine C.skip ?_
                first | exact ⟨_, _, rfl, rfl, by rw [firstL, if_neg (by omega)]; exact hSgi⟩ | exact ⟨_, _, rfl, rfl, by rw [firstL, if_pos (by omega)]; exact hS⟩
            ·
              rintro _ _ ⟨v, gh, hq20, rfl, hS⟩
              refine C.weaken _ hq20 ?_
              refine C.seq ?_
              refine C.region ?_
              refine E.pure (S.move rfl) rfl ?_
              refine E.pure (S.assign rfl) rfl ?_
              refine E.keep [1, 2, 3, 5, 7, 10] (env1 := [(1, _), (2, _), (3, _), (5, _), (7, _), (10, _)]) rfl ?_
              refine C.ret ?_
              exact ⟨_, rfl, gh, _, hS, rfl⟩
end Go.Eng
