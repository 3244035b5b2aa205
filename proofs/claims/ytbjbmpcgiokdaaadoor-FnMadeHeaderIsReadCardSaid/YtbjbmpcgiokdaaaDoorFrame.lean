/-
  The laws' frame: what a row's list of laid variables gives; what an argument of bytes gives.
-/
import Derived.Test.YtbjbmpcgiokdaaaDoorWLaw1
import Derived.Test.YtbjbmpcgiokdaaaDoorRows
import Derived.WalkKit
import Derived.ProofKit
import Derived.LaidLaws
import Derived.ChangeSlices
import Derived.Deep.DeepHandedRow
import Derived.OpenShut
set_option linter.unusedVariables false
set_option linter.unusedSimpArgs false
namespace Go.Eng
open Go Go.Proofs Go.ChangeShapes Go.WideShapes Go.RowKit
set_option maxRecDepth 100000

theorem errName : Tryd.prog.typeName? 3 179 = some "*errors.errorString" := by kernel_rfl
theorem starName : "*" ++ "errors.errorString" = "*errors.errorString" := by decide
theorem errRow (u : TypeId) (h : Tryd.prog.typeName? 3 u = some "*errors.errorString") : u = 179 :=
  typeName_ptr_named (nm := "errors.errorString") (by rw [starName]; kernel_rfl) (by kernel_rfl) (by decide) u (by rw [starName]; exact h)
theorem cellsErr : Tryd.prog.cellsOf 200 = 1 := by kernel_rfl
theorem cellsStr : Tryd.prog.cellsOf 9 = 1 := by kernel_rfl
theorem cellsU8 : Tryd.prog.cellsOf 5 = 1 := by kernel_rfl

abbrev laidErr (text : List UInt8) : DataW Unit := .iface "*errors.errorString" (.ptr (.agg [.lit (.string text)]))

theorem cell_heap {W : World} {b o : Nat} {v : Value} (h : W.cell? ⟨b, o, none⟩ = some v) : cellAt (fun b => W.heap[b]?) b o = some v := by
  unfold World.cell? at h
  unfold cellAt
  dsimp only at h ⊢
  split at h
  · rename_i c t fr hb
    rw [hb]; simpa using h
  · cases h

/-- One laid error. -/
theorem laid_err {W : World} {n : String} {text : List UInt8} {r : List (String × DataW Unit)} {ps : List MemPlace} {g : Nat} (hg : Tryd.prog.globalNamed n = some g) (ht : (Tryd.prog.globals[g]?).map (·.type) = some 59)
    (h : DataW.LaidVars Tryd.prog W ((n, laidErr text) :: r) ps)
    (hrows : ∀ b off, MemPlace.cell b off ∈ ps → (∃ c t, W.heap[b]? = some (.cells c t (0, 0))) ∧ ∀ u v, W.cell? ⟨b, off, none⟩ = some (.iface u v) → Value.okWide Tryd.prog W .any 0 u v) :
    ∃ a q, cellAt (fun b => W.heap[b]?) g 0 = some (.iface 179 (.pointer (some a))) ∧ DataW.LaidVars Tryd.prog W r q ∧ ps = MemPlace.cell g 0 :: (MemPlace.row a 1 ++ q) := by
  obtain ⟨g', t, cs, fuel, p, q, hg', ht', hv, hd, hr, rfl⟩ := h
  obtain rfl := Option.some.inj (hg.symm.trans hg')
  obtain rfl := Option.some.inj (ht.symm.trans ht')
  obtain ⟨l⟩ := cs
  obtain ⟨a, s, rfl, hc, hs, hz, rfl⟩ := errorString_of_trod Tryd.underlying59 errRow Tryd.underlying179 Tryd.underlying200 rfl rfl Tryd.underlying9 cellsErr cellsStr hd (fun u v e => by
    subst e
    exact (hrows g 0 (by simp [MemPlace.row])).2 u v (by simpa using World.var?_cell hg hv 0))
  refine ⟨a, q, ?_, hr, by simp [MemPlace.row]⟩
  exact cell_heap (by simpa using World.var?_cell hg hv 0)

/-- An argument of bytes. -/
theorem arg_bytes {H : Type} {enc : TypeId × Value → H} {W : World} {base : Nat} {v1 : Value} {d1 : DataW H} {p1 : List MemPlace} (hval : Value.okWide Tryd.prog W .any base 22 v1)
    (h1 : DataW.Trod enc Tryd.prog W 0 (fun _ => true) true 22 v1 d1 p1) :
    v1 = .slice none 0 0 ∨ (∃ a c, v1 = .slice (some a) 0 c) ∨ ∃ pb po cap, ∃ l : List UInt8, v1 = .slice (some ⟨pb, po, none⟩) l.length cap ∧ l.length ≤ cap ∧ KB (fun b => W.heap[b]?) pb po l := by
  obtain ⟨a1, len, cap, rfl⟩ := okWide_slice Tryd.underlying22 hval
  obtain ⟨fuel, hf⟩ := h1
  rcases open_ints Tryd.underlying22 Tryd.underlying5 cellsU8 hf with ⟨hcs, hx⟩ | ⟨a, len', cap', zs, hcs, _, hl, hm, hz, hx, hcell, hwz⟩
  · simp [Value.cells] at hcs
    obtain ⟨rfl, rfl, rfl⟩ := hcs
    exact .inl rfl
  · simp [Value.cells] at hcs
    obtain ⟨rfl, rfl, rfl⟩ := hcs
    simp only [if_true] at hz
    by_cases h0 : len = 0
    · subst h0; exact .inr (.inl ⟨_, _, rfl⟩)
    · right; right
      obtain ⟨ab, ao, spot⟩ := a
      have hspot : spot = none := by simpa [Addr.add] using World.cell?_spot (hcell 0 (by omega))
      subst hspot
      have hlen : ((zs.take len).map fun n => UInt8.ofNat n.toNat).length = len := by simp; omega
      refine ⟨ab, ao, cap, (zs.take len).map fun n => UInt8.ofNat n.toNat, by rw [hlen], by rw [hlen]; exact hl, fun j hj => ?_⟩
      rw [hlen] at hj
      have hcj := hcell j (by omega)
      rw [Addr.add_lit] at hcj
      have hb := range_u8 hwz j
      have e : zs.getD j 0 = zs[j]'(by omega) := by simp [List.getD, List.getElem?_eq_getElem (show j < zs.length by omega)]
      rw [e] at hcj
      rw [← List.getD_eq_getElem?_getD, e] at hb
      have hv : (u8 (((zs.take len).map fun n => UInt8.ofNat n.toNat)[j]'(by rw [hlen]; exact hj))) = .int .u8 zs[j] := by
        have e3 : ((zs.take len).map fun n => UInt8.ofNat n.toNat)[j]'(by rw [hlen]; exact hj) = UInt8.ofNat (zs[j]'(by omega)).toNat := by simp
        have e4 : ((UInt8.ofNat (zs[j]'(by omega)).toNat).toNat : Int) = zs[j]'(by omega) := by rw [UInt8.toNat_ofNat']; omega
        show Value.int .u8 _ = _
        rw [e3, e4]
      rw [hv]
      exact cell_heap hcj
end Go.Eng
