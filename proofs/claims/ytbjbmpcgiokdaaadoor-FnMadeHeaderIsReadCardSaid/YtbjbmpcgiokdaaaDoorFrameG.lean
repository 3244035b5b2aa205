/-
  The laws' frame: what a call that touches no old block leaves is what a row asks behind it, whatever the arguments.
-/
import Derived.Test.YtbjbmpcgiokdaaaDoorFrame
import Derived.Carry
set_option linter.unusedVariables false
set_option linter.unusedSimpArgs false
namespace Go.Eng
open Go Go.Proofs Go.ChangeShapes Go.WideShapes Go.RowKit
set_option maxRecDepth 100000

theorem To.below {K : Known} {w w' : World} {L' : Frags} (h : To K w [] w' L') : Below w.heap.size w w' :=
  ⟨h.os, h.tape, h.output, h.size, fun k hk => h.old k hk fun f hf => by cases hf⟩

theorem agree_all (w : World) : Agree (fun b => w.heap[b]?) [] w.heap :=
  ⟨fun _ _ h => h, (fun f hf => by cases hf), (fun f hf => by cases hf), List.Pairwise.nil⟩

section
variable {H : Type} {enc : TypeId × Value → H} {P : Program} {W W' : World}

theorem trodAll_stays (hl : laidOutB P = true) {sp : Nat → Bool} : ∀ {ts : List TypeId} {vs : List Value} {ds : List (DataW H)} {ps : List MemPlace}, (∀ t ∈ ts, P.readableRec t = true ∧ t < P.types.size) →
    DataW.TrodAll enc P W 0 (fun _ => true) true ts vs ds ps → (∀ p ∈ ps, W.sameAt W' p) → (∀ p ∈ ps, sp p.block = true) → DataW.TrodAll enc P W' 0 sp true ts vs ds ps
  | [], [], [], _, _, h, _, _ => h
  | t :: ts, v :: vs, d :: ds, _, ht, ⟨p, q, h1, h2, e⟩, hs, hp => by
    subst e
    exact ⟨p, q, WideElems.Trod_stays hl (ht t (by simp)).1 (ht t (by simp)).2 h1 (fun x hx => hs x (by simp [hx])) (fun x hx => hp x (by simp [hx])),
      trodAll_stays hl (fun t h => ht t (by simp [h])) h2 (fun x hx => hs x (by simp [hx])) (fun x hx => hp x (by simp [hx])), rfl⟩

theorem post_true {f : Func} {s : ChangeSpec} {args : Array Value} {ds gs : List (DataW H)} {before : List MemPlace} {bt : TypeId} (hl : laidOutB P = true)
    (hts : ∀ t ∈ f.params.toList, P.readableRec t = true ∧ t < P.types.size) (hbool : P.underlying bt = some .bool) (hres : f.resultTypes = #[bt]) (hsv : s.vars = [])
    (hfn : s.fn H (ds ++ gs) = { results := [.lit (.bool true)], args := ds, vars := [] }) (hW : DataW.Whole enc P f.params.toList s.vars false W args.toList ds gs before) (hb : Below W.heap.size W W') :
    s.post enc P f false true false false W args (.bool true) W' := by
  have hW' := hW
  obtain ⟨p, q, hA, hV, rfl, hfz, hnd⟩ := hW
  rw [hsv] at hV
  obtain ⟨rfl, rfl⟩ := trodVars_none hV
  have hlt : ∀ x ∈ p, x.block < W.heap.size := fun x hx => by simpa using hW'.lt x (by simp [hx])
  refine ⟨ds, [], p ++ [], [], p, [], hW', ?_, ?_, ?_, hb.frame _, fun h => by cases h⟩
  · rw [hres, hfn]
    exact trodAll_cons_mk (shut_bool hbool _) trodAll_mk0
  · rw [hfn]
    exact trodAll_stays hl hts hA (fun x hx => hb.same (hlt x hx)) (fun x hx => by simpa using hlt x hx)
  · rw [hfn, hsv]
    exact rfl
end
end Go.Eng
