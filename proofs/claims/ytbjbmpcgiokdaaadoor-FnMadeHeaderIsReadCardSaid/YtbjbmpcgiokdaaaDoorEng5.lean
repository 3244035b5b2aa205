/-
  Engine, part 5: append, copy, make, slices written out, conversions of bytes and text, comparisons of interface values.
-/
import Derived.Test.YtbjbmpcgiokdaaaDoorEng4
import Derived.Laws.AppendOwn
import Derived.Laws.MakeOwn
import Derived.Laws.IdiomStrings
import Derived.Laws.Cover4
import Derived.LaidEql
import Derived.LaidEqlPtr
set_option linter.unusedVariables false
set_option linter.unusedSimpArgs false
namespace Go.Eng
open Go

section
variable {P : Program} {H0 : Known} {n : Nat} {env : Env} {L : Frags} {ty : TypeId}

/-- The last slot's value in other words. -/
theorem E.reslot {ops : Array Oper} {l : List Oper} {d : Nat} {u v : Value} {N : Post} (h : u = v) (k : wpE P H0 n ops l ((d, v) :: env) L N) : wpE P H0 n ops l ((d, u) :: env) L N := h ▸ k
theorem D.reslot {ops : Array Oper} {ds : List Nat} {p : Plan} {d : Nat} {u v : Value} {N : Post} (h : u = v) (k : wpD P H0 n ops ds p ((d, v) :: env) L N) : wpD P H0 n ops ds p ((d, u) :: env) L N := h ▸ k
theorem W.reslot {ops : Array Oper} {ds : List Nat} {s : List (Nat × Nat)} {d : Nat} {u v : Value} {M : Env → Prop} (h : u = v) (k : wpS P H0 n ops ds s ((d, v) :: env) L M) : wpS P H0 n ops ds s ((d, u) :: env) L M := h ▸ k

/-- From block b on, place o, memory holds the values vs. -/
def Reads (H0 : Known) (L : Frags) (b o : Nat) (vs : List Value) : Prop := ∀ w : World, Agree H0 L w.heap → ∀ (j : Nat) (u : Value), vs[j]? = some u → w.cell? ⟨b, o + j, none⟩ = some u

theorem Reads.frag {i : Nat} {b o k : Nat} {cs vs : List Value} (hL : L[i]? = some ⟨b, o, cs⟩) (h : (cs.drop k).take vs.length = vs) : Reads H0 L b (o + k) vs := by
  intro w hw j u hj
  rw [← h, List.getElem?_take] at hj
  split at hj
  · rw [List.getElem?_drop] at hj
    have := cell_of_ok (hw.at hL) hj
    rw [Nat.add_assoc]; exact this
  · cases hj

theorem Reads.known {b o : Nat} {vs : List Value} (h : ∀ j u, vs[j]? = some u → cellAt H0 b (o + j) = some u) : Reads H0 L b o vs :=
  fun _ hw j u hj => cell_of_base hw (h j u hj)

theorem Reads.nil {b o : Nat} : Reads H0 L b o [] := fun _ _ j u hj => by simp at hj

theorem Reads.sub {b o : Nat} {vs : List Value} (h : Reads H0 L b o vs) (k m : Nat) : Reads H0 L b (o + k) ((vs.drop k).take m) := by
  intro w hw j u hj
  rw [List.getElem?_take] at hj
  split at hj
  · rw [List.getElem?_drop] at hj
    have := h w hw (k + j) u hj
    rw [Nat.add_assoc]; exact this
  · cases hj

theorem Reads.drop {b o : Nat} {vs : List Value} (h : Reads H0 L b o vs) (k : Nat) : Reads H0 L b (o + k) (vs.drop k) := by
  intro w hw j u hj
  rw [List.getElem?_drop] at hj
  have := h w hw (k + j) u hj
  rw [Nat.add_assoc]; exact this

theorem Reads.take {b o : Nat} {vs : List Value} (h : Reads H0 L b o vs) (m : Nat) : Reads H0 L b o (vs.take m) := by
  have := h.sub 0 m
  simpa using this

/-- A slice value (elements of s cells) of m elements reads as vs. -/
def RdSl (H0 : Known) (L : Frags) (s : Nat) (v : Value) (m : Nat) (vs : List Value) : Prop :=
  vs.length = m * s ∧ ∃ a c, v = .slice a m c ∧ m ≤ c ∧ (m = 0 ∨ ∃ b o, a = some ⟨b, o, none⟩ ∧ Reads H0 L b o vs)

/-- A slice of the call's own, with its fragment. -/
def Sl (s : Nat) (v : Value) (m : Nat) (xs : List Value) (Lf : Frags) : Prop :=
  xs.length = m * s ∧ ((v = .slice none 0 0 ∧ m = 0 ∧ Lf = []) ∨
    ∃ b o c cs, v = .slice (some ⟨b, o, none⟩) m c ∧ Lf = [⟨b, o, cs⟩] ∧ cs.length = c * s ∧ m ≤ c ∧ c ≤ 9223372036854775807 ∧ cs.take (m * s) = xs)

theorem Sl.nil (s : Nat) : Sl s (.slice none 0 0) 0 [] [] := ⟨by simp, .inl ⟨rfl, rfl, rfl⟩⟩

theorem firstCells_of {w : World} (size m : Nat) {yb yo c : Nat} {ys : List Value} (hl : ys.length = m * size) (h : ∀ (j : Nat) (u : Value), ys[j]? = some u → w.cell? ⟨yb, yo + j, none⟩ = some u) (len : Nat) :
    (Builtin.firstCells size m (.slice (some ⟨yb, yo, none⟩) len c)).run P w = .ok ys.toArray w :=
  run_firstCells_some (P := P) w size m ⟨yb, yo, none⟩ len c ys hl (fun j u hj => by rw [addr_add]; exact h j u hj)

theorem invoke_builtin (b : Builtin) (ats : Array TypeId) (ty : TypeId) (cs : Array Bool) (args : Array Value) : Go.invoke (.builtin b ats ty cs) args = builtin b ats ty cs args := rfl

theorem X.append {t e s bytes : Nat} {i : TypeInfo} {z : Value} {x y : Operand} {v : Value} {m k yc : Nat} {ya : Option Addr} {xs ys : List Value} {Lf L : Frags}
    (ht : P.underlying t = some (.slice e)) (hi : P.info? e = some i) (hz : i.zero = some z) (hzs : z.cells.size = i.size) (hs : i.size = s) (hby : i.bytes = bytes) (hs0 : 0 < s)
    (hx : ev? env x = some v) (hy : ev? env y = some (.slice ya k yc)) (hsl : Sl s v m xs Lf) (hys : ys.length = k * s)
    (hread : k = 0 ∨ ∃ yb yo, ya = some ⟨yb, yo, none⟩ ∧ Reads H0 (Lf ++ L) yb yo ys) (hone : ys.all one = true) (hb : (m + k) * bytes ≤ 140737488355328) (hbm : m + k ≤ 140737488355328) :
    OpX P H0 n (.call { callee := .builtin .append, args := #[x, y], argTypes := #[t, t] }) ty env (Lf ++ L) fun v' L' => ∃ Lf', Sl s v' (m + k) (xs ++ ys) Lf' ∧ L' = Lf' ++ L := by
  intro ac w hf hw
  subst hs hby
  have hexop : ∀ {u w'}, (Builtin.append_ #[t, t] ty #[v, .slice ya k yc]).run P w = .ok u w' →
      (exop ac.eval (.call { callee := .builtin .append, args := #[x, y], argTypes := #[t, t] }) ty).run P w = .ok (.value u) w' := by
    intro u w' h
    simp only [exop, execOp, resolve]
    simp [hf.eval hx, hf.eval hy, invoke_builtin, builtin_eq .append _ _ _ _ _ rfl h]
  -- nothing to append
  by_cases hk : k = 0
  · subst hk
    have hys0 : ys = [] := List.eq_nil_of_length_eq_zero (by simpa using hys)
    subst hys0
    have hrun : (Builtin.append_ #[t, t] ty #[v, .slice ya 0 yc]).run P w = .ok v w := by
      rcases hsl.2 with ⟨rfl, rfl, rfl⟩ | ⟨b, o, c, cs, rfl, rfl, hcs, hmc, hcm, htk⟩
      · cases ya <;> simp [Builtin.append_, run_underlying ht, sizeOf, typeInfo, hi, Builtin.lenOf, Builtin.firstCells, loadCells, loadCellsFrom]
      · cases ya <;> simp [Builtin.append_, run_underlying ht, sizeOf, typeInfo, hi, Builtin.lenOf, Builtin.firstCells, loadCells, loadCellsFrom, storeCells, hmc]
    rw [hexop hrun]
    exact ⟨_, ⟨Lf, by simpa using hsl, rfl⟩, To.refl hw⟩
  · obtain ⟨yb, yo, rfl, hr⟩ := hread.resolve_left hk
    have hr' := hr w hw
    have hr2 : ∀ (j : Nat) (u : Value), ys[j]? = some u → w.cell? ((⟨yb, yo, none⟩ : Addr).add j) = some u := fun j u hj => by rw [addr_add]; exact hr' j u hj
    have newSt : ∀ (old : Nat), old < m + k → ∃ cs : List Value, cs = xs ++ ys ++ (Builtin.zeroCells z.cells (grownCap w (m + k) old e - (m + k))).toList ∧ cs.length = grownCap w (m + k) old e * i.size ∧ cs.take ((m + k) * i.size) = xs ++ ys ∧
        m + k ≤ grownCap w (m + k) old e ∧ grownCap w (m + k) old e ≤ 9223372036854775807 := by
      intro old ho
      have hge := grownCap_ge w (m + k) old e
      have hle := grownCap_le_maxLen w (m + k) old e (by simp only [maxLen]; omega)
      have hlen : (xs ++ ys).length = (m + k) * i.size := by rw [List.length_append, hsl.1, hys, Nat.add_mul]
      refine ⟨_, rfl, ?_, ?_, hge, by simpa [maxLen] using hle⟩
      · rw [List.length_append, hlen, Array.length_toList, size_zeroCells, hzs, ← Nat.add_mul]
        congr 1; omega
      · rw [← hlen]; exact List.take_left
    have hw2 : Agree H0 L w.heap := ⟨hw.base, fun f hf => hw.up f (List.mem_append_right _ hf), fun f hf => hw.ok f (List.mem_append_right _ hf), (List.pairwise_append.1 hw.dis).2.1⟩
    have wd : ∀ cs : List Value, To H0 w (Lf ++ L) (w.drew.alloc (.cells cs.toArray e)) ([⟨w.heap.size, 0, cs⟩] ++ L) := by
      intro cs
      have t := To.new (w := w.drew) (L := Lf ++ L) (H0 := H0) hw cs e
      have t2 : To H0 w (Lf ++ L) (w.drew.alloc (.cells cs.toArray e)) (⟨w.heap.size, 0, cs⟩ :: (Lf ++ L)) := ⟨t.st, t.size, t.old, t.cells, t.foot, t.os, t.tape, t.output⟩
      have p : (⟨w.heap.size, 0, cs⟩ :: (Lf ++ L) : Frags).Perm (([⟨w.heap.size, 0, cs⟩] ++ L) ++ Lf) := by
        simp only [List.cons_append, List.nil_append]
        exact (List.perm_append_comm).cons _
      exact (t2.permR p).drop
    rcases hsl.2 with ⟨rfl, rfl, rfl⟩ | ⟨b, o, c, cs, rfl, rfl, hcs, hmc, hcm, htk⟩
    · have hx0 : xs = [] := List.eq_nil_of_length_eq_zero (by simpa using hsl.1)
      subst hx0
      have hrun := run_append_nil (P := P) w t ty e i z ht hi hz ⟨yb, yo, none⟩ k yc ys hys hr2 (by omega) (by omega) (by have := hb; simp only [Nat.zero_add] at this; omega)
      obtain ⟨cs, hcs, hl, htake, hge, hle⟩ := newSt 0 (by omega)
      simp only [Nat.zero_add, List.nil_append] at hcs hl htake hge hle ⊢
      rw [hexop hrun]
      refine ⟨_, ⟨[⟨w.heap.size, 0, cs⟩], ⟨hys, .inr ⟨_, _, _, _, rfl, rfl, hl, hge, hle, htake⟩⟩, rfl⟩, ?_⟩
      have := wd cs
      have e1 : cs.toArray = ys.toArray ++ Builtin.zeroCells z.cells (grownCap w k 0 e - k) := by rw [hcs]; simp
      rw [e1] at this
      simpa using this
    · by_cases hroom : m + k ≤ c
      · -- room
        have hfc := firstCells_of (P := P) (w := w) i.size k (c := yc) hys hr' k
        have hmem : (⟨b, o, cs⟩ : Frag) ∈ ([⟨b, o, cs⟩] ++ L : Frags) := by simp
        have hok := hw.ok _ hmem
        have hfit : m * i.size + ys.length ≤ cs.length := by rw [hys, hcs, ← Nat.add_mul]; exact Nat.mul_le_mul_right _ hroom
        have hst := run_storeCells_cells (P := P) b (o + m * i.size) ys 0 w (fun j hj => by
            have := cell_of_ok hok (j := m * i.size + j) (List.getElem?_eq_getElem (by simp only; omega))
            simp only at this
            rw [Nat.add_zero, Nat.add_assoc, this]; rfl)
          (fun j hj => by
            have := frozen_of_ok hok (j := m * i.size + j) (by simp only; omega)
            simp only at this
            rw [Nat.add_zero, Nat.add_assoc, this]) (fun v hv => one_oneCell (List.all_eq_true.1 hone v hv))
        simp only [Nat.add_zero] at hst
        have hrun : (Builtin.append_ #[t, t] ty #[.slice (some ⟨b, o, none⟩) m c, .slice (some ⟨yb, yo, none⟩) k yc]).run P w = .ok (.slice (some ⟨b, o, none⟩) (m + k) c) (w.setCells b (o + m * i.size) ys) := by
          simp [Builtin.append_, run_underlying ht, sizeOf, typeInfo, hi, Builtin.lenOf, hroom, hfc, addr_add, hst]
        rw [hexop hrun]
        have hto := To.write hw (i := 0) (k := m * i.size) (vs := ys) (cs' := cs.take (m * i.size) ++ ys ++ cs.drop (m * i.size + ys.length)) rfl (wrote_cells b ys (o + m * i.size) w) hfit rfl
        have hput : putF ([⟨b, o, cs⟩] ++ L) 0 (cs.take (m * i.size) ++ ys ++ cs.drop (m * i.size + ys.length)) = [⟨b, o, cs.take (m * i.size) ++ ys ++ cs.drop (m * i.size + ys.length)⟩] ++ L := rfl
        rw [hput] at hto
        refine ⟨_, ⟨_, ⟨by rw [List.length_append, hsl.1, hys, Nat.add_mul], .inr ⟨_, _, _, _, rfl, rfl, ?_, hroom, hcm, ?_⟩⟩, rfl⟩, hto⟩
        · simp only [List.length_append, List.length_take, List.length_drop]; omega
        · rw [htk]
          have : (xs ++ ys).length = (m + k) * i.size := by rw [List.length_append, hsl.1, hys, Nat.add_mul]
          rw [← this]; exact List.take_left
      · -- a new row
        have hmem : (⟨b, o, cs⟩ : Frag) ∈ ([⟨b, o, cs⟩] ++ L : Frags) := by simp
        have hok := hw.ok _ hmem
        have holds : ∀ (j : Nat) (u : Value), xs[j]? = some u → w.cell? ((⟨b, o, none⟩ : Addr).add j) = some u := fun j u hj => by
          rw [addr_add]
          rw [← htk, List.getElem?_take] at hj
          split at hj
          · exact cell_of_ok hok hj
          · cases hj
        have hrun := run_append_grow (P := P) w t ty e i z ht hi hz ⟨b, o, none⟩ m c xs hsl.1 holds ⟨yb, yo, none⟩ k yc ys hys hr2 (by omega) (by omega) (growslice_fits (by omega) hb)
        obtain ⟨cs', hcs', hl, htake, hge, hle⟩ := newSt c (by omega)
        rw [hexop hrun]
        refine ⟨_, ⟨[⟨w.heap.size, 0, cs'⟩], ⟨by rw [List.length_append, hsl.1, hys, Nat.add_mul], .inr ⟨_, _, _, _, rfl, rfl, hl, hge, hle, htake⟩⟩, rfl⟩, ?_⟩
        have := wd cs'
        have e1 : cs'.toArray = xs.toArray ++ ys.toArray ++ Builtin.zeroCells z.cells (grownCap w (m + k) c e - (m + k)) := by rw [hcs']; simp
        rw [e1] at this
        exact this

/-- copy into fragment i at place k, from memory that reads as vs. -/
theorem X.copy (i : Nat) {t t2 e s : Nat} {x y : Operand} {b o k dl dc sl sc : Nat} {sa : Option Addr} {cs vs : List Value} {xT : TypeInfo}
    (ht : P.underlying t = some (.slice e)) (hs : ∀ w, (sizeOf e).run P w = .ok s w)
    (hL : L[i]? = some ⟨b, o, cs⟩) (hx : ev? env x = some (.slice (some ⟨b, o + k, none⟩) dl dc)) (hy : ev? env y = some (.slice sa sl sc)) (hlen : vs.length = Nat.min sl dl * s)
    (hread : vs = [] ∨ ∃ yb yo, sa = some ⟨yb, yo, none⟩ ∧ Reads H0 L yb yo vs) (hsa : sa = none → sl = 0) (hone : vs.all one = true) (hk : k + vs.length ≤ cs.length) :
    OpX P H0 n (.call { callee := .builtin .copy, args := #[x, y], argTypes := #[t, t2] }) ty env L fun v L' => v = .int .i64 ((Nat.min sl dl : Nat) : Int) ∧ L' = L.set i ⟨b, o, cs.take k ++ vs ++ cs.drop (k + vs.length)⟩ := by
  intro ac w hf hw
  have hexop : ∀ {u w'}, (Builtin.copy_ #[t, t2] ty #[.slice (some ⟨b, o + k, none⟩) dl dc, .slice sa sl sc]).run P w = .ok u w' →
      (exop ac.eval (.call { callee := .builtin .copy, args := #[x, y], argTypes := #[t, t2] }) ty).run P w = .ok (.value u) w' := by
    intro u w' h
    simp only [exop, execOp, resolve]
    simp [hf.eval hx, hf.eval hy, invoke_builtin, builtin_eq .copy _ _ _ _ _ rfl h]
  have hok := hw.at hL
  have hfc : (Builtin.firstCells s (Nat.min sl dl) (.slice sa sl sc)).run P w = .ok vs.toArray w := by
    cases sa with
    | none =>
      have : sl = 0 := hsa rfl
      subst this
      have : vs = [] := List.eq_nil_of_length_eq_zero (by simpa using hlen)
      subst this
      simp [Builtin.firstCells]
    | some a =>
      rcases hread with rfl | ⟨yb, yo, h, hr⟩
      · have h0 : Nat.min sl dl * s = 0 := by simpa using hlen.symm
        simp [Builtin.firstCells, loadCells, h0, loadCellsFrom]
      · cases h
        exact firstCells_of s _ hlen (hr w hw) sl
  have hst := run_storeCells_cells (P := P) b (o + k) vs 0 w (fun j hj => by
      have := cell_of_ok hok (j := k + j) (List.getElem?_eq_getElem (by simp only; omega))
      simp only at this
      rw [Nat.add_zero, Nat.add_assoc, this]; rfl)
    (fun j hj => by
      have := frozen_of_ok hok (j := k + j) (by simp only; omega)
      simp only at this
      rw [Nat.add_zero, Nat.add_assoc, this]) (fun v hv => one_oneCell (List.all_eq_true.1 hone v hv))
  simp only [Nat.add_zero] at hst
  have hrun : (Builtin.copy_ #[t, t2] ty #[.slice (some ⟨b, o + k, none⟩) dl dc, .slice sa sl sc]).run P w = .ok (.int .i64 ((Nat.min sl dl : Nat) : Int)) (w.setCells b (o + k) vs) := by
    simp [Builtin.copy_, run_underlying ht, Builtin.lenOf, hs, hfc, hst, goInt]
  rw [hexop hrun]
  refine ⟨_, ⟨rfl, rfl⟩, ?_⟩
  rw [← putF_eq hL]
  exact To.write hw hL (wrote_cells b vs (o + k) w) hk rfl

/-- make([]T, l, c), T of one cell. -/
theorem X.make {t e bytes : Nat} {i : TypeInfo} {z : Value} {x y : Operand} {l c : Nat} {kx ky : IntKind}
    (ht : P.underlying t = some (.slice e)) (hi : P.info? e = some i) (hz : i.zero = some z) (hs : i.size = 1) (hby : i.bytes = bytes) (h1 : one z = true)
    (hx : ev? env x = some (.int kx (l : Int))) (hy : ev? env y = some (.int ky (c : Int))) (hlc : l ≤ c) (hm : c ≤ 9223372036854775807) (hb : bytes * c ≤ 281474976710656) :
    OpX P H0 n (.makeSlice t x y) ty env L fun v L' => ∃ b, v = .slice (some ⟨b, 0, none⟩) l c ∧ L' = ⟨b, 0, List.replicate c z⟩ :: L := by
  intro ac w hf hw
  subst hby
  have hzc := one_cells h1
  have hb' : (i.bytes : Int) * (c : Int) ≤ 281474976710656 := by
    have h : ((i.bytes * c : Nat) : Int) ≤ 281474976710656 := by omega
    rwa [Int.natCast_mul] at h
  have hr := run_make (P := P) w t e i z ht hi hz kx ky (l : Int) (c : Int) (by omega) (by omega) hb' (by omega)
  have hcells : madeCells z.cells ((c : Int).toNat * i.size) = (List.replicate c z).toArray := by
    apply Array.ext'
    simp only [madeCells, hs, hzc, Int.toNat_natCast, Nat.mul_one, Array.toList_map, Array.toList_range]
    rw [List.eq_replicate_iff]
    refine ⟨by simp, fun b hb => ?_⟩
    obtain ⟨j, _, rfl⟩ := List.mem_map.1 hb
    simp [Nat.mod_one]
  rw [hcells] at hr
  have hrun : (exop ac.eval (.makeSlice t x y) ty).run P w = .ok (.value (.slice (some ⟨w.heap.size, 0, none⟩) l c)) (w.alloc (.cells (List.replicate c z).toArray e)) := by
    simp only [exop, execOp, hf.eval hx, hf.eval hy, Sem.run_bind, hr, Result.andThen_ok, Sem.run_pure, Int.toNat_natCast]
  rw [hrun]
  exact ⟨_, ⟨_, rfl, rfl⟩, To.new hw _ _⟩

/-- []T{x1, ..}, T of one cell, all places told. -/
theorem X.buildSlice {t e : Nat} {i : TypeInfo} {z : Value} {parts : Array (Nat × Operand)} {m : Nat} {vs : List Value}
    (hrun : ∀ w, (Instr.buildSlice t m (parts.map fun p => (p.1, (ev? env p.2).getD undef))).run P w = .ok (.slice (some ⟨w.heap.size, 0, none⟩) m m) (w.alloc (.cells vs.toArray e)))
    (hev : parts.toList.all (fun p => (ev? env p.2).isSome) = true) :
    OpX P H0 n (.buildSlice t m parts) ty env L fun v L' => ∃ b, v = .slice (some ⟨b, 0, none⟩) m m ∧ L' = ⟨b, 0, vs⟩ :: L := by
  intro ac w hf hw
  have hp : (parts.map fun (p : Nat × Operand) => (p.1, ac.eval p.2)) = parts.map fun p => (p.1, (ev? env p.2).getD undef) := by
    apply Array.map_congr_left
    intro p hp
    have := List.all_eq_true.1 hev p (by simpa using hp)
    obtain ⟨v, hv⟩ := Option.isSome_iff_exists.1 this
    rw [hf.eval hv, hv]; rfl
  have hr : (exop ac.eval (.buildSlice t m parts) ty).run P w = .ok (.value (.slice (some ⟨w.heap.size, 0, none⟩) m m)) (w.alloc (.cells vs.toArray e)) := by
    simp only [exop, execOp]
    have : (Array.map (fun (x : Nat × Operand) => match x with | (i, x) => (i, ac.eval x)) parts) = parts.map fun p => (p.1, (ev? env p.2).getD undef) := hp
    rw [this]
    simp [hrun]
  rw [hr]
  exact ⟨_, ⟨_, rfl, rfl⟩, To.new hw _ _⟩

/-- A struct or an array of values. -/
theorem S.build {t : Nat} {parts : Array (Nat × Operand)} {v : Value}
    (hev : parts.toList.all (fun p => (ev? env p.2).isSome) = true)
    (hrun : ∀ w, (Instr.build t (parts.map fun p => (p.1, (ev? env p.2).getD undef))).run P w = .ok v w) : OpP P n (.build t parts) ty env v := by
  intro ac w hf
  have hp : (Array.map (fun (x : Nat × Operand) => match x with | (i, x) => (i, ac.eval x)) parts) = parts.map fun p => (p.1, (ev? env p.2).getD undef) := by
    apply Array.map_congr_left
    intro p hp
    have := List.all_eq_true.1 hev p (by simpa using hp)
    obtain ⟨v, hv⟩ := Option.isSome_iff_exists.1 this
    show (p.1, ac.eval p.2) = _
    rw [hf.eval hv, hv]; rfl
  simp only [exop, execOp]
  rw [hp]
  simp [hrun]

/-! ### Text -/

def bytesV (l : List UInt8) : List Value := l.map fun b => .int .u8 (b.toNat : Int)

theorem bytesV_get {l : List UInt8} {j : Nat} (h : j < l.length) : (bytesV l)[j]? = some (.int .u8 (l[j].toNat : Int)) := by simp [bytesV, h]

/-- string(b). -/
theorem S.bytesStr {src dst e : Nat} {x : Operand} {a : Option Addr} {c : Nat} {l : List UInt8} (hs : P.underlying src = some (.slice e)) (he : P.underlying e = some (.int .u8)) (hd : P.underlying dst = some .string)
    (hx : ev? env x = some (.slice a l.length c)) (hr : l = [] ∨ ∃ b o, a = some ⟨b, o, none⟩ ∧ Reads H0 L b o (bytesV l)) : OpS P H0 n (.convert src dst x) ty env L (.string ⟨l.toArray⟩) := by
  intro ac w hf hw
  simp only [exop, execOp, hf.eval hx]
  have key : (convert src dst (.slice a l.length c)).run P w = .ok (.string ⟨l.toArray⟩) w := by
    cases a with
    | none =>
      have : l = [] := by
        rcases hr with h | ⟨b, o, h, _⟩
        · exact h
        · cases h
      subst this
      rw [run_convert_bytes_string w src dst e none _ c hs he hd]
      simp [Conv.bytesToString]; rfl
    | some ad =>
      refine run_convert_bytes_back w src dst e ad c l hs he hd fun j hj => ?_
      rcases hr with rfl | ⟨b, o, h, h2⟩
      · simp at hj
      · cases h
        rw [addr_add]
        exact h2 w hw j _ (bytesV_get hj)
  simp [key]

/-! ### Comparisons of interface values -/

theorem eq_run {op : BinOp} (hop : op = .eql ∨ op = .neq) {xT yT : TypeId} {x y : Operand} {u v r : Value} (hx : ev? env x = some u) (hy : ev? env y = some v)
    (hg : ∀ w, (eqGuard op xT x y u v).run P w = .ok () w) (h : ∀ w, (∃ L, Agree H0 L w.heap) → (binOp op xT u v).run P w = .ok r w) : OpS P H0 n (.binOp op xT x y yT) ty env L r := by
  intro ac w hf hw
  simp only [exop, execOp, hf.eval hx, hf.eval hy]
  simp [hg, h w ⟨L, hw⟩]

theorem guard_iface {op : BinOp} {xT : TypeId} {x y : Operand} {t : TypeId} {u v : Value} (w : World) : (eqGuard op xT x y (.iface t u) v).run P w = .ok () w := by
  rw [eqGuard_at_iface]; rfl
theorem guard_nilR {op : BinOp} {xT : TypeId} {x : Operand} {c u : Value} (w : World) : (eqGuard op xT x (.const c) .nilIface u).run P w = .ok () w := by
  cases u <;> first
    | (rw [eqGuard_nil_constR]; rfl)
    | (cases op <;> rfl)
theorem guard_nilOther {op : BinOp} {xT : TypeId} {x y : Operand} {t : TypeId} {v : Value} (w : World) : (eqGuard op xT x y .nilIface (.iface t v)).run P w = .ok () w := by
  rw [eqGuard_nil_iface]; rfl

/-- 'x == nil', 'x != nil'. -/
theorem S.eqNilN {xT yT : TypeId} {x : Operand} {ms : Array (String × TypeId)} (hx : ev? env x = some .nilIface) (ht : P.underlying xT = some (.interface ms)) :
    OpS P H0 n (.binOp .eql xT x (.const .nilIface) yT) ty env L (.bool true) :=
  eq_run (.inl rfl) hx rfl guard_nilR fun w _ => run_eql_nil_nil (P := P) w xT (by simp [Program.methodsAt, ht])
theorem S.eqNilI {xT yT : TypeId} {x : Operand} {ms : Array (String × TypeId)} {t : TypeId} {v : Value} (hx : ev? env x = some (.iface t v)) (ht : P.underlying xT = some (.interface ms)) :
    OpS P H0 n (.binOp .eql xT x (.const .nilIface) yT) ty env L (.bool false) :=
  eq_run (.inl rfl) hx rfl guard_iface fun w _ => run_eql_held_nil (P := P) w xT t v (by simp [Program.methodsAt, ht])
theorem S.neNilN {xT yT : TypeId} {x : Operand} {ms : Array (String × TypeId)} (hx : ev? env x = some .nilIface) (ht : P.underlying xT = some (.interface ms)) :
    OpS P H0 n (.binOp .neq xT x (.const .nilIface) yT) ty env L (.bool false) :=
  eq_run (.inr rfl) hx rfl guard_nilR fun w _ => run_neq_nil_nil (P := P) w xT (by simp [Program.methodsAt, ht])
theorem S.neNilI {xT yT : TypeId} {x : Operand} {ms : Array (String × TypeId)} {t : TypeId} {v : Value} (hx : ev? env x = some (.iface t v)) (ht : P.underlying xT = some (.interface ms)) :
    OpS P H0 n (.binOp .neq xT x (.const .nilIface) yT) ty env L (.bool true) :=
  eq_run (.inr rfl) hx rfl guard_iface fun w _ => run_neq_held_nil (P := P) w xT t v (by simp [Program.methodsAt, ht])

/-- A pointer that is known: its block is a row of cells, none of them frozen. -/
def KnownPtr (H0 : Known) (a : Addr) : Prop := ∃ c t, H0 a.block = some (.cells c t (0, 0))

theorem run_neq_of_eql {xT : TypeId} {w : World} {t t' : TypeId} {u v : Value} {b : Bool} (h : (binOp .eql xT (.iface t u) (.iface t' v)).run P w = .ok (.bool b) w) :
    (binOp .neq xT (.iface t u) (.iface t' v)).run P w = .ok (.bool (!b)) w := by
  simp only [binOp] at h ⊢
  rw [Sem.run_bind] at h ⊢
  cases hq : (Op.equal xT (.iface t u) (.iface t' v)).run P w with
  | ok c w1 =>
    rw [hq] at h
    simp only [Result.andThen_ok, Sem.run_pure, Result.ok.injEq, Value.bool.injEq] at h ⊢
    exact ⟨by rw [h.1], h.2⟩
  | halt c w1 => rw [hq] at h; simp at h

theorem run_eql_iface_types {ti : TypeId} {ms : Array (String × TypeId)} {w : World} {t t' : TypeId} {u v : Value} (hi : P.underlying ti = some (.interface ms)) (hne : t ≠ t') :
    (binOp .eql ti (.iface t u) (.iface t' v)).run P w = .ok (.bool false) w := by
  have key : ∀ d, (Op.equalIn (d + 1) ti (.iface t u) (.iface t' v)).run P w = .ok false w := fun d => by simp [Op.equalIn, run_underlying hi, hne]
  simp only [binOp]
  simp [Op.equal, Op.maxDepth, key 9999]

/-- Two errors of different dynamic types. -/
theorem S.eqTypes {xT yT : TypeId} {x y : Operand} {ms : Array (String × TypeId)} {t t' : TypeId} {u v : Value} (hx : ev? env x = some (.iface t u)) (hy : ev? env y = some (.iface t' v))
    (ht : P.underlying xT = some (.interface ms)) (hne : Nat.beq t t' = false) : OpS P H0 n (.binOp .eql xT x y yT) ty env L (.bool false) :=
  eq_run (.inl rfl) hx hy guard_iface fun _ _ => run_eql_iface_types ht (Nat.ne_of_beq_eq_false hne)
theorem S.neTypes {xT yT : TypeId} {x y : Operand} {ms : Array (String × TypeId)} {t t' : TypeId} {u v : Value} (hx : ev? env x = some (.iface t u)) (hy : ev? env y = some (.iface t' v))
    (ht : P.underlying xT = some (.interface ms)) (hne : Nat.beq t t' = false) : OpS P H0 n (.binOp .neq xT x y yT) ty env L (.bool true) :=
  eq_run (.inr rfl) hx hy guard_iface fun _ _ => run_neq_of_eql (run_eql_iface_types ht (Nat.ne_of_beq_eq_false hne))

/-- nil against an error. -/
theorem run_eql_nil_iface {ti : TypeId} {ms : Array (String × TypeId)} {w : World} {t : TypeId} {v : Value} (hi : P.underlying ti = some (.interface ms)) :
    (binOp .eql ti .nilIface (.iface t v)).run P w = .ok (.bool false) w := by
  have key : ∀ d, (Op.equalIn (d + 1) ti .nilIface (.iface t v)).run P w = .ok false w := fun d => by simp [Op.equalIn, run_underlying hi]
  simp only [binOp]
  simp [Op.equal, Op.maxDepth, key 9999]
theorem S.eqNil2 {xT yT : TypeId} {x y : Operand} {ms : Array (String × TypeId)} {t : TypeId} {v : Value} (hx : ev? env x = some .nilIface) (hy : ev? env y = some (.iface t v))
    (ht : P.underlying xT = some (.interface ms)) : OpS P H0 n (.binOp .eql xT x y yT) ty env L (.bool false) :=
  eq_run (.inl rfl) hx hy guard_nilOther fun _ _ => run_eql_nil_iface ht
theorem S.neNil2 {xT yT : TypeId} {x y : Operand} {ms : Array (String × TypeId)} {t : TypeId} {v : Value} (hx : ev? env x = some .nilIface) (hy : ev? env y = some (.iface t v))
    (ht : P.underlying xT = some (.interface ms)) : OpS P H0 n (.binOp .neq xT x y yT) ty env L (.bool true) :=
  eq_run (.inr rfl) hx hy guard_nilOther fun w _ => by
    have := run_eql_nil_iface (P := P) (w := w) (t := t) (v := v) ht
    simp only [binOp] at this ⊢
    rw [Sem.run_bind] at this ⊢
    cases hq : (Op.equal xT .nilIface (.iface t v)).run P w with
    | ok c w1 =>
      rw [hq] at this
      simp only [Result.andThen_ok, Sem.run_pure, Result.ok.injEq, Value.bool.injEq] at this ⊢
      exact ⟨by rw [this.1]; rfl, this.2⟩
    | halt c w1 => rw [hq] at this; simp at this

/-- Two errors that are pointers of one type. -/
theorem run_eql_ptrs {ti tp te : TypeId} {ms : Array (String × TypeId)} {i j : TypeInfo} {w : World} {a b : Addr} (hi : P.underlying ti = some (.interface ms)) (hp : P.underlying tp = some (.pointer te))
    (hinfo : P.info? tp = some i) (hcomp : i.comparable = true) (hte : P.info? te = some j) (hsz : j.size ≠ 0) (ha : KnownPtr H0 a) (hb : KnownPtr H0 b) (hw : ∃ L, Agree H0 L w.heap) :
    (binOp .eql ti (.iface tp (.pointer (some a))) (.iface tp (.pointer (some b)))).run P w = .ok (.bool (decide (a = b))) w := by
  obtain ⟨L, hw⟩ := hw
  by_cases hab : a = b
  · subst hab
    rw [decide_eq_true rfl]
    exact run_eql_iface_ptr_same (P := P) w a hi hp hinfo hcomp hte
  · rw [decide_eq_false hab]
    obtain ⟨ca, ta, ha⟩ := ha
    obtain ⟨cb, tb, hb⟩ := hb
    exact run_eql_iface_ptr_other (P := P) w hi hp hinfo hcomp hte hsz hab (hw.base _ _ ha) (hw.base _ _ hb)
end
end Go.Eng
