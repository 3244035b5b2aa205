/-
  Bytes: append and copy of bytes, what a bytes.Reader holds.
-/
import Derived.Test.YtbjbmpcgiokdaaaDoorErr
import Derived.Test.YtbjbmpcgiokdaaaDoorEng6
import Derived.Test.YtbjbmpcgiokdaaaDoorCrc
set_option linter.unusedVariables false
set_option linter.unusedSimpArgs false
namespace Go.Eng
open Go Go.Proofs

theorem Sl.one {s m : Nat} {v : Value} {xs : List Value} {Lf : Frags} (h : Sl s v m xs Lf) (hm : 0 < m) : ∃ b o c cs, v = .slice (some ⟨b, o, none⟩) m c ∧ Lf = [⟨b, o, cs⟩] ∧ cs.length = c * s ∧ m ≤ c ∧ c ≤ 9223372036854775807 ∧ cs.take (m * s) = xs := by
  rcases h.2 with ⟨_, h1, _⟩ | h1
  · omega
  · exact h1

theorem infoB : Tryd.prog.info? 5 = some Tryd.t5 := by kernel_rfl

theorem one_bytesV (l : List UInt8) : (bytesV l).all one = true := by
  rw [List.all_eq_true]
  intro v hv
  obtain ⟨b, _, rfl⟩ := List.mem_map.1 hv
  rfl

theorem bytesV_length (l : List UInt8) : (bytesV l).length = l.length := by simp [bytesV]
theorem bytesV_append (a b : List UInt8) : bytesV (a ++ b) = bytesV a ++ bytesV b := by simp [bytesV]
theorem bytesV_drop (a : List UInt8) (k : Nat) : bytesV (a.drop k) = (bytesV a).drop k := by simp [bytesV, List.map_drop]
theorem bytesV_take (a : List UInt8) (k : Nat) : bytesV (a.take k) = (bytesV a).take k := by simp [bytesV, List.map_take]

section
variable {K : Known} {n : Nat} {env : Env} {L : Frags} {ty : TypeId}

/-- append of bytes. -/
theorem X.appendB {x y : Operand} {v : Value} {k yc : Nat} {ya : Option Addr} {xs ys : List UInt8} {Lf : Frags}
    (hx : ev? env x = some v) (hy : ev? env y = some (.slice ya k yc)) (hsl : Sl 1 v xs.length (bytesV xs) Lf) (hk : k = ys.length)
    (hread : ys = [] ∨ ∃ yb yo, ya = some ⟨yb, yo, none⟩ ∧ Reads K (Lf ++ L) yb yo (bytesV ys)) (hb : xs.length + ys.length ≤ 140737488355328) :
    OpX Tryd.prog K n (.call { callee := .builtin .append, args := #[x, y], argTypes := #[22, 22] }) ty env (Lf ++ L) fun v' L' =>
      ∃ Lf', Sl 1 v' (xs ++ ys).length (bytesV (xs ++ ys)) Lf' ∧ L' = Lf' ++ L := by
  subst hk
  have h := X.append (P := Tryd.prog) (n := n) (ty := ty) (L := L) (s := 1) (bytes := 1) (t := 22) Tryd.underlying22 infoB (z := .int .u8 0) rfl rfl rfl rfl (by decide) hx hy hsl (by rw [bytesV_length, Nat.mul_one])
    (hread.imp (fun e => by rw [e]; rfl) id) (one_bytesV ys) (by omega) hb
  refine OpX.mono h fun v' L' => ?_
  rintro ⟨Lf', h1, h2⟩
  exact ⟨Lf', by rw [List.length_append, bytesV_append]; exact h1, h2⟩

/-- append of nothing. -/
theorem X.appendNone {x y : Operand} {b o m c yc : Nat} {ya : Option Addr} (hx : ev? env x = some (.slice (some ⟨b, o, none⟩) m c)) (hy : ev? env y = some (.slice ya 0 yc)) (hmc : m ≤ c) :
    OpX Tryd.prog K n (.call { callee := .builtin .append, args := #[x, y], argTypes := #[22, 22] }) ty env L fun v' L' => v' = .slice (some ⟨b, o, none⟩) m c ∧ L' = L := by
  intro ac w hf hw
  have hrun : (Builtin.append_ #[22, 22] ty #[.slice (some ⟨b, o, none⟩) m c, .slice ya 0 yc]).run Tryd.prog w = .ok (.slice (some ⟨b, o, none⟩) m c) w := by
    cases ya <;> simp [Builtin.append_, run_underlying Tryd.underlying22, sizeOf, typeInfo, infoB, Tryd.t5, Builtin.lenOf, Builtin.firstCells, loadCells, loadCellsFrom, storeCells, hmc]
  have : (exop ac.eval (.call { callee := .builtin .append, args := #[x, y], argTypes := #[22, 22] }) ty).run Tryd.prog w = .ok (.value (.slice (some ⟨b, o, none⟩) m c)) w := by
    simp only [exop, execOp, resolve]
    simp [hf.eval hx, hf.eval hy, invoke_builtin, builtin_eq .append _ _ _ _ _ rfl hrun]
  rw [this]
  exact ⟨_, ⟨rfl, rfl⟩, To.refl hw⟩

/-- copy of bytes into all of a fragment or its beginning. -/
theorem X.copyB (i : Nat) {x y : Operand} {b o dl dc sl sc : Nat} {sa : Option Addr} {cs : List Value} {l : List UInt8}
    (hL : L[i]? = some ⟨b, o, cs⟩) (hx : ev? env x = some (.slice (some ⟨b, o, none⟩) dl dc)) (hy : ev? env y = some (.slice sa sl sc)) (hlen : sl = l.length)
    (hread : l = [] ∨ ∃ yb yo, sa = some ⟨yb, yo, none⟩ ∧ Reads K L yb yo (bytesV l)) (hdl : dl ≤ cs.length) :
    OpX Tryd.prog K n (.call { callee := .builtin .copy, args := #[x, y], argTypes := #[22, 22] }) ty env L fun v L' =>
      v = .int .i64 ((Nat.min l.length dl : Nat) : Int) ∧ L' = L.set i ⟨b, o, bytesV (l.take dl) ++ cs.drop (Nat.min l.length dl)⟩ := by
  subst hlen
  have hvl : (bytesV (l.take dl)).length = Nat.min l.length dl := by rw [bytesV_length, List.length_take]; exact Nat.min_comm _ _
  have h := X.copy (P := Tryd.prog) (H0 := K) (n := n) (ty := ty) (xT := Tryd.t5) i (s := 1) (k := 0) (t := 22) (t2 := 22) (vs := bytesV (l.take dl)) Tryd.underlying22 Tryd.sizeOf5 hL hx hy (by rw [hvl, Nat.mul_one])
    (by
      rcases hread with h | ⟨yb, yo, h1, h2⟩
      · left; rw [h]; simp [bytesV]
      · exact .inr ⟨yb, yo, h1, by rw [bytesV_take]; exact h2.take _⟩)
    (fun h => by
      rcases hread with h1 | ⟨yb, yo, h1, _⟩
      · rw [h1]; rfl
      · rw [h1] at h; cases h) (one_bytesV _) (by rw [hvl, Nat.zero_add]; exact Nat.le_trans (Nat.min_le_right _ _) hdl)
  refine OpX.mono h fun v L' => ?_
  rintro ⟨rfl, rfl⟩
  refine ⟨rfl, ?_⟩
  rw [hvl, Nat.zero_add, List.take_zero, List.nil_append]
end
end Go.Eng
