/-
  What the reading of an argument tells of memory: bytes; a member to be made.
-/
import Derived.Test.YtbjbmpcgiokdaaaDoorFrame
import Derived.Deep.Slices
set_option linter.unusedVariables false
set_option linter.unusedSimpArgs false
namespace Go.Eng
open Go Go.Proofs Go.ChangeShapes Go.WideShapes Go.RowKit
set_option maxRecDepth 100000

/-- A slice of bytes that came in. -/
def BytesA (K : Known) (v : Value) (l : List UInt8) : Prop := (v = .slice none 0 0 ∧ l = []) ∨ (∃ a c, v = .slice (some a) 0 c ∧ l = []) ∨ ∃ pb po cap, v = .slice (some ⟨pb, po, none⟩) l.length cap ∧ l.length ≤ cap ∧ KB K pb po l

section
variable {H : Type} {enc : TypeId × Value → H} {W : World} {fuel : Nat} {cs : List Value} {x : DataW H × List MemPlace}

theorem trod_bytes (h : DataW.trod enc Tryd.prog W 0 (fun _ => true) true fuel 22 cs = some x) : ∃ v l, cs = [v] ∧ BytesA (fun b => W.heap[b]?) v l := by
  rcases open_ints Tryd.underlying22 Tryd.underlying5 cellsU8 h with ⟨hcs, hx⟩ | ⟨a, len, cap, zs, hcs, _, hl, hm, hz, hx, hcell, hwz⟩
  · exact ⟨_, [], hcs, .inl ⟨rfl, rfl⟩⟩
  · subst hcs
    simp only [if_true] at hz
    by_cases h0 : len = 0
    · subst h0; exact ⟨_, [], rfl, .inr (.inl ⟨_, _, rfl, rfl⟩)⟩
    · obtain ⟨ab, ao, spot⟩ := a
      have hspot : spot = none := by simpa [Addr.add] using World.cell?_spot (hcell 0 (by omega))
      subst hspot
      have hlen : ((zs.take len).map fun n => UInt8.ofNat n.toNat).length = len := by simp; omega
      refine ⟨_, (zs.take len).map fun n => UInt8.ofNat n.toNat, rfl, .inr (.inr ⟨ab, ao, cap, by rw [hlen], by rw [hlen]; exact hl, fun j hj => ?_⟩)⟩
      rw [hlen] at hj
      have hcj := hcell j (by omega)
      rw [Addr.add_lit] at hcj
      have hb := range_u8 hwz j
      have e : zs.getD j 0 = zs[j]'(by omega) := by simp [List.getD, List.getElem?_eq_getElem (show j < zs.length by omega)]
      rw [e] at hcj
      rw [← List.getD_eq_getElem?_getD, e] at hb
      have hv : (u8 (((zs.take len).map fun n => UInt8.ofNat n.toNat)[j]'(by rw [hlen]; exact hj))) = .int .u8 zs[j] := by
        have e3 : ((zs.take len).map fun n => UInt8.ofNat n.toNat)[j]'(by rw [hlen]; exact hj) = UInt8.ofNat (zs[j]'(by omega)).toNat := by simp
        have e4 : ((UInt8.ofNat (zs[j]'(by omega)).toNat).toNat : Int) = zs[j]'(by omega) := by rw [UInt8.toNat_ofNat']; omega
        show Value.int .u8 _ = _
        rw [e3, e4]
      rw [hv]
      exact cell_heap hcj

variable {P : Program} {base : Nat} {sp : Nat → Bool} {hd : Bool} {t : TypeId}
theorem trod_str (ht : P.underlying t = some .string) (h : DataW.trod enc P W base sp hd fuel t cs = some x) : ∃ s, cs = [.string s] ∧ s.size ≤ maxLen := by
  cases fuel with
  | zero => simp [DataW.trod] at h
  | succ n =>
    unfold DataW.trod at h
    rw [ht] at h
    split at h <;> simp_all
theorem trod_bool (ht : P.underlying t = some .bool) (h : DataW.trod enc P W base sp hd fuel t cs = some x) : ∃ b, cs = [.bool b] := by
  cases fuel with
  | zero => simp [DataW.trod] at h
  | succ n =>
    unfold DataW.trod at h
    rw [ht] at h
    split at h <;> simp_all
theorem trod_int {k : IntKind} (ht : P.underlying t = some (.int k)) (h : DataW.trod enc P W base sp hd fuel t cs = some x) : ∃ n, cs = [.int k n] ∧ (Lit.int k n).wf = true := by
  cases fuel with
  | zero => simp [DataW.trod] at h
  | succ n =>
    unfold DataW.trod at h
    rw [ht] at h
    split at h <;> simp_all
theorem trod_slice_shape {e : TypeId} (ht : P.underlying t = some (.slice e)) (h : DataW.trod enc P W base sp hd fuel t cs = some x) : ∃ a n c, cs = [.slice a n c] := by
  rcases Go.Deep.open_slice ht h with ⟨rfl, _⟩ | ⟨a, len, cap, m, n, D, Pl, rfl, _⟩
  · exact ⟨_, _, _, rfl⟩
  · exact ⟨_, _, _, rfl⟩
theorem u8_of_wf {n : Int} (h : (Lit.int .u8 n).wf = true) : ∃ c : UInt8, n = (c.toNat : Int) := by
  have : 0 ≤ n ∧ n ≤ 255 := by simpa [Lit.wf, IntKind.min, IntKind.max, IntKind.signed, IntKind.bits] using h
  exact ⟨UInt8.ofNat n.toNat, by rw [UInt8.toNat_ofNat']; omega⟩

/-- A member to be made, but for its blocks. -/
structure Md where
  name : ByteArray
  comment : ByteArray
  extra : List UInt8
  mod : Int
  os : UInt8
  text : Bool
  checked : Bool
  ex : Bool
  nm : Bool
  cm : Bool
  flags : UInt8

/-- The cells of a slice of blocks can be read. -/
def BlocksA (K : Known) (v : Value) : Prop := ∃ a n c, v = .slice a n c ∧ ∀ i, i < n → ∃ b o, a = some ⟨b, o, none⟩ ∧ ∃ wh a1 n1 c1 a2 n2 c2 a3 n3 c3, ∀ j u, ([.int .i64 wh, .slice a1 n1 c1, .slice a2 n2 c2, .slice a3 n3 c3] : List Value)[j]? = some u → cellAt K b (o + i * 4 + j) = some u

def headCells (m : Md) (ve : Value) : List Value := [.string m.name, .string m.comment, ve, .int .i64 m.mod, u8 m.os]
def madeCells (m : Md) (ve vb : Value) : List Value := headCells m ve ++ [.bool m.text, .bool m.checked, .bool m.ex, .bool m.nm, .bool m.cm, u8 m.flags, vb]

theorem cellsHead : Tryd.prog.cellsOf 24 = 5 := by kernel_rfl
theorem cellsBlock : Tryd.prog.cellsOf 103 = 4 := by kernel_rfl
theorem cellsMade : Tryd.prog.cellsOf 34 = 12 := by kernel_rfl
theorem cellsSl (t : TypeId) (h : Tryd.prog.cellsOf t = 1 := by kernel_rfl) : Tryd.prog.cellsOf t = 1 := h

theorem struct_fields {P : Program} {base : Nat} {sp : Nat → Bool} {hd : Bool} {t : TypeId} {fs : Array Field} (ht : P.underlying t = some (.struct fs)) (h : DataW.trod enc P W base sp hd fuel t cs = some x) :
    cs.length = P.cellsOf t ∧ ∃ n, ∀ (i : Nat) (f : Field), fs[i]? = some f → ∃ y, DataW.trod enc P W base sp hd n f.type ((cs.drop f.offset).take (P.cellsOf f.type)) = some y := by
  obtain ⟨xs, n, _, rfl, hl, hlen, hf⟩ := DataW.trod_struct ht h
  refine ⟨hl, n, fun i f hi => ?_⟩
  have : i < xs.length := by rw [hlen]; exact (Array.getElem?_eq_some_iff.1 hi).1
  exact ⟨xs[i], by rw [hf i f hi, List.getElem?_eq_getElem this]⟩

theorem trod_head (h : DataW.trod enc Tryd.prog W 0 (fun _ => true) true fuel 24 cs = some x) :
    ∃ (n c : ByteArray) (ve : Value) (e : List UInt8) (mod : Int) (os : UInt8), cs = [.string n, .string c, ve, .int .i64 mod, u8 os] ∧ BytesA (fun b => W.heap[b]?) ve e ∧ n.size ≤ maxLen ∧ c.size ≤ maxLen ∧ (Lit.int .i64 mod).wf = true := by
  obtain ⟨hl, n, hf⟩ := struct_fields Tryd.underlying24 h
  rw [cellsHead] at hl
  match cs, hl with
  | [c0, c1, c2, c3, c4], _ =>
    obtain ⟨y0, f0⟩ := hf 0 _ rfl
    obtain ⟨y1, f1⟩ := hf 1 _ rfl
    obtain ⟨y2, f2⟩ := hf 2 _ rfl
    obtain ⟨y3, f3⟩ := hf 3 _ rfl
    obtain ⟨y4, f4⟩ := hf 4 _ rfl
    simp only [List.getElem_toArray, List.getElem_cons_zero, List.getElem_cons_succ, cellsSl 9, cellsSl 22, cellsSl 2, cellsSl 5, List.drop_zero, List.drop_succ_cons, List.take_succ_cons, List.take_zero] at f0 f1 f2 f3 f4
    obtain ⟨s0, e0, z0⟩ := trod_str Tryd.underlying9 f0
    obtain ⟨s1, e1, z1⟩ := trod_str Tryd.underlying9 f1
    obtain ⟨v2, l2, e2, b2⟩ := trod_bytes f2
    obtain ⟨m3, e3, w3⟩ := trod_int Tryd.underlying2 f3
    obtain ⟨m4, e4, w4⟩ := trod_int Tryd.underlying5 f4
    obtain ⟨o4, rfl⟩ := u8_of_wf w4
    simp only [List.cons.injEq, and_true] at e0 e1 e2 e3 e4
    subst e0 e1 e2 e3 e4
    exact ⟨s0, s1, _, l2, m3, o4, rfl, b2, z0, z1, w3⟩

theorem trod_block (h : DataW.trod enc Tryd.prog W 0 (fun _ => true) true fuel 103 cs = some x) :
    ∃ wh a1 n1 c1 a2 n2 c2 a3 n3 c3, cs = [.int .i64 wh, .slice a1 n1 c1, .slice a2 n2 c2, .slice a3 n3 c3] := by
  obtain ⟨hl, n, hf⟩ := struct_fields Tryd.underlying103 h
  rw [cellsBlock] at hl
  match cs, hl with
  | [c0, c1, c2, c3], _ =>
    obtain ⟨y0, f0⟩ := hf 0 _ rfl
    obtain ⟨y1, f1⟩ := hf 1 _ rfl
    obtain ⟨y2, f2⟩ := hf 2 _ rfl
    obtain ⟨y3, f3⟩ := hf 3 _ rfl
    simp only [List.getElem_toArray, List.getElem_cons_zero, List.getElem_cons_succ, cellsSl 3, cellsSl 22, cellsSl 101, cellsSl 39, List.drop_zero, List.drop_succ_cons, List.take_succ_cons, List.take_zero] at f0 f1 f2 f3
    obtain ⟨m0, e0, _⟩ := trod_int Tryd.underlying3 f0
    obtain ⟨a1, n1, k1, e1⟩ := trod_slice_shape Tryd.underlying22 f1
    obtain ⟨a2, n2, k2, e2⟩ := trod_slice_shape Tryd.underlying101 f2
    obtain ⟨a3, n3, k3, e3⟩ := trod_slice_shape Tryd.underlying39 f3
    simp only [List.cons.injEq, and_true] at e0 e1 e2 e3
    subst e0 e1 e2 e3
    exact ⟨m0, a1, n1, k1, a2, n2, k2, a3, n3, k3, rfl⟩

theorem cells?_cell {w : World} {base : Nat} {a : Addr} {n : Nat} {cs : List Value} (h : w.cells? base a n = some cs) : cs.length = n ∧ ∀ j u, cs[j]? = some u → w.cell? (a.add j) = some u := by
  unfold World.cells? at h
  split at h
  · have hl := mapM_some_length h
    rw [List.length_range] at hl
    refine ⟨hl, fun j u hj => ?_⟩
    have hjl : j < n := by rw [← hl]; exact (List.getElem?_eq_some_iff.1 hj).1
    have := mapM_some_get h (i := j) (x := j) (by simp [hjl])
    rw [this]; exact hj
  · cases h

theorem trod_blocks (h : DataW.trod enc Tryd.prog W 0 (fun _ => true) true fuel 32 cs = some x) : ∃ v, cs = [v] ∧ BlocksA (fun b => W.heap[b]?) v := by
  rcases Go.Deep.open_slice Tryd.underlying32 h with ⟨rfl, _⟩ | ⟨a, len, cap, m, n, D, Pl, rfl, _, hl, hm, hmm, hx, hc⟩
  · exact ⟨_, rfl, none, 0, 0, rfl, fun i hi => by omega⟩
  · refine ⟨_, rfl, some a, len, cap, rfl, fun i hi => ?_⟩
    simp only [if_true] at hmm
    obtain ⟨cs', h1, h2⟩ := hc i (by omega)
    rw [cellsBlock] at h1
    obtain ⟨wh, a1, n1, c1, a2, n2, c2, a3, n3, c3, rfl⟩ := trod_block h2
    obtain ⟨_, h3⟩ := cells?_cell h1
    obtain ⟨ab, ao, spot⟩ := a
    obtain ⟨cs0, g1, g2⟩ := hc 0 (by omega)
    rw [cellsBlock] at g1
    obtain ⟨gl, g3⟩ := cells?_cell g1
    have hspot : spot = none := by
      have g4 := g3 0 (cs0[0]'(by omega)) (List.getElem?_eq_getElem (by omega))
      simpa [Addr.add] using World.cell?_spot g4
    subst hspot
    refine ⟨ab, ao, rfl, wh, a1, n1, c1, a2, n2, c2, a3, n3, c3, fun j u hj => ?_⟩
    have := h3 j u hj
    rw [addr_add, addr_add] at this
    exact cell_heap this

theorem arg_made {v : Value} {d : DataW H} {p : List MemPlace} (h : DataW.Trod enc Tryd.prog W 0 (fun _ => true) true 34 v d p) :
    ∃ m ve vb, v = .agg (madeCells m ve vb).toArray ∧ BytesA (fun b => W.heap[b]?) ve m.extra ∧ BlocksA (fun b => W.heap[b]?) vb ∧ m.name.size ≤ maxLen ∧ m.comment.size ≤ maxLen ∧ (Lit.int .i64 m.mod).wf = true := by
  obtain ⟨fuel, h⟩ := h
  obtain ⟨hl, n, hf⟩ := struct_fields Tryd.underlying34 h
  rw [cellsMade] at hl
  have hv : v = .agg v.cells := by
    cases v with
    | agg vs => rfl
    | _ => simp [Value.cells] at hl
  generalize hcs : v.cells.toList = cs at hl hf
  match cs, hl with
  | [c0, c1, c2, c3, c4, c5, c6, c7, c8, c9, c10, c11], _ =>
    obtain ⟨y0, f0⟩ := hf 0 _ rfl
    obtain ⟨y1, f1⟩ := hf 1 _ rfl
    obtain ⟨y2, f2⟩ := hf 2 _ rfl
    obtain ⟨y3, f3⟩ := hf 3 _ rfl
    obtain ⟨y4, f4⟩ := hf 4 _ rfl
    obtain ⟨y5, f5⟩ := hf 5 _ rfl
    obtain ⟨y6, f6⟩ := hf 6 _ rfl
    obtain ⟨y7, f7⟩ := hf 7 _ rfl
    simp only [List.getElem_toArray, List.getElem_cons_zero, List.getElem_cons_succ, cellsHead, cellsSl 4, cellsSl 5, cellsSl 32, List.drop_zero, List.drop_succ_cons, List.take_succ_cons, List.take_zero] at f0 f1 f2 f3 f4 f5 f6 f7
    obtain ⟨nm, cm, ve, ex, mod, os, e0, hb, z0, z1, w0⟩ := trod_head f0
    obtain ⟨b1, e1⟩ := trod_bool Tryd.underlying4 f1
    obtain ⟨b2, e2⟩ := trod_bool Tryd.underlying4 f2
    obtain ⟨b3, e3⟩ := trod_bool Tryd.underlying4 f3
    obtain ⟨b4, e4⟩ := trod_bool Tryd.underlying4 f4
    obtain ⟨b5, e5⟩ := trod_bool Tryd.underlying4 f5
    obtain ⟨m6, e6, w6⟩ := trod_int Tryd.underlying5 f6
    obtain ⟨o6, rfl⟩ := u8_of_wf w6
    obtain ⟨vb, e7, hbl⟩ := trod_blocks f7
    simp only [List.cons.injEq, and_true] at e0 e1 e2 e3 e4 e5 e6 e7
    obtain ⟨rfl, rfl, rfl, rfl, rfl⟩ := e0
    subst e1 e2 e3 e4 e5 e6 e7
    refine ⟨⟨nm, cm, ex, mod, os, b1, b2, b3, b4, b5, o6⟩, _, _, ?_, hb, hbl, z0, z1, w0⟩
    rw [hv]
    congr 1
    apply Array.ext'
    rw [hcs]
    rfl
end
end Go.Eng
