/-
  Any bytes are read alike into buffers of any sizes: what a gzip.Reader gives (whether it opens, its header, all its bytes, and how it ends) is the same for all sizes of the buffers. It is the whole statement: no condition but those that the given row and card bear (the listed package-level variables hold what the program lays).
-/
import Derived.Test.YtbjbmpcgiokdaaaDoorMs7
set_option linter.unusedVariables false
set_option linter.unusedSimpArgs false
namespace Go.Proofs.YtbjbmpcgiokdaaaDoor.fnSizesDontMatter
open Go Go.Eng Go.ChangeShapes Go.WideShapes Go.ChangeAt Go.RowKit
set_option maxRecDepth 100000

theorem contract (H : Type) (enc : TypeId × Value → H) (W : World) (base : Nat) (args : Array Value) (ds gs : List (DataW H)) (before : List MemPlace)
    (hval : ∀ (j : Nat) t v, Tryd.f6.params[j]? = some t → args[j]? = some v → Value.okWide Tryd.prog W .any base t v)
    (hW : DataW.Whole enc Tryd.prog Tryd.f6.params.toList Rows.fnSizesDontMatterSpec.vars false W args.toList ds gs before) (hL : laidMetH Tryd.prog Rows.fnSizesDontMatterRow.laid W) :
    Calls Tryd.prog 6 args W fun e W' => ∃ v, e = .returned v ∧ Rows.fnSizesDontMatterSpec.post enc Tryd.prog Tryd.f6 false true false false W args v W' := by
  have hW' := hW
  obtain ⟨p, q, hA0, hV, rfl, hfz, hnd⟩ := hW
  have hA : DataW.TrodAll enc Tryd.prog W 0 (fun _ => true) true Tryd.f6.params.toList args.toList ds p := hA0
  rw [Tryd.params6] at hA hval
  obtain ⟨v0, vs0, d0, ds0, p0, q0, hargs0, rfl, rfl, h0, r0⟩ := trodAll_cons hA
  obtain ⟨v1, vs1, d1, ds1, p1, q1, hargs1, rfl, rfl, h1, r1⟩ := trodAll_cons r0
  obtain ⟨rfl, rfl, rfl⟩ := trodAll_nil r1
  obtain rfl : args = #[v0, v1] := by cases args; simp_all
  obtain ⟨rfl, rfl⟩ := trodVars_none hV
  have hL1 : laidMetH Tryd.prog Rows.fnHeaderTakesItsBytesRow.laid W := hL
  obtain ⟨ea, hs⟩ := laid_sents hL1
  have hfn : Go.Eng.Fn Tryd.prog (fun b => W.heap[b]?) 6 #[v0, v1] [] (fun r L => r = .bool true) := by
    obtain ⟨l, a, c, rfl, hB⟩ := arg_ba (hval 0 _ v0 rfl rfl) h0
    obtain ⟨a2, n2, c2, rfl, hZ⟩ := arg_ints (hval 1 _ v1 rfl rfl) h1
    exact law5 hs (laid_codes hL1) l a c hB a2 n2 c2 hZ
  refine (hfn W (agree_all W)).mono ?_
  rintro e W' ⟨v, L', rfl, rfl, ht⟩
  exact ⟨_, rfl, post_true laidOutD (by rw [Tryd.params6]; decide +kernel) Tryd.underlying4 (show Tryd.f6.resultTypes = #[4] by kernel_rfl) rfl rfl hW' ht.below⟩

theorem reads (os : Os) {H : Type} (enc : TypeId × Value → H) : DataW.whole enc Tryd.prog ((laidWorldD os).forCall (fun _ _ => 0) ⟨#[], #[.slice none 0 0, .slice none 0 0], []⟩).memory Tryd.f6.params.toList Rows.fnSizesDontMatterSpec.vars false #[.slice none 0 0, .slice none 0 0].toList 8 = some ([.nil, .nil], [], []) := by kernel_rfl

theorem lifted (os : Os) (started : os.Started) (H : Type) (enc : TypeId × Value → H) (F : Stop.Interp) :
    ReturnsInHanded {} Tryd.checked os 6 .any ((OpenSpec.ofChange Rows.fnSizesDontMatterSpec).preRow enc Tryd.prog Tryd.f6 Rows.fnSizesDontMatterRow.domain false Rows.fnSizesDontMatterRow.laid) (((OpenSpec.ofChange Rows.fnSizesDontMatterSpec).at F).post enc Tryd.prog Tryd.f6 false true false false) := by
  have hx := reads os enc
  refine returnsInHanded_of_row (C := Tryd.checked) (s := OpenSpec.ofChange Rows.fnSizesDontMatterSpec) ownD started (by kernel_rfl) Tryd.func6
    (witness_row_at (enc := enc) (C := Tryd.checked) false (laidWorldD os) #[.slice none 0 0, .slice none 0 0] rfl (by kernel_rfl) (by kernel_rfl) (by kernel_rfl)
      (OpenSpec.preRow_of_cond 8 hx (by kernel_rfl) (fun k hk => by cases hk) (by kernel_rfl) (laid_metD os _))) ?_
  intro W base args ds gs before hval hW _ _ _ hL _ _
  exact contract H enc W base args ds gs before hval hW hL

theorem said : Rows.FnSizesDontMatterSaid :=
  OpenClaim.holds_of_cond 6 Tryd.f6 rfl rfl rfl rfl rfl rfl rfl ⟨rfl, rfl, rfl, rfl, rfl⟩ rfl rfl rfl rfl rfl (by kernel_rfl) Tryd.func6 (by kernel_rfl)
    (of_decide_eq_true (by kernel_rfl)) (by unfold Func.isWrapper; first | (rw [if_pos (by decide +kernel)]; kernel_rfl) | (rw [if_neg (by decide +kernel)]; exact ⟨rfl, rfl⟩))
    (fun os started H enc _ F => by rw [OpenClaim.pre_eq_preRow]; exact lifted os started H enc F)

theorem plain (f : FuncId) (fn : Func) (hf : Tryd.pinned.checked.prog.funcNamed "gzipfiles/laws.FnSizesDontMatter" = some f) (hfn : Tryd.pinned.checked.prog.funcs[f]? = some fn) :
    true = Tryd.pinned.checked.prog.looks [] ∧ ∀ (j : Nat) t, fn.params[j]? = some t → Tryd.pinned.checked.prog.wantsStandIn t = false := by
  obtain rfl : f = 6 := Option.some.inj ((show Tryd.prog.funcNamed "gzipfiles/laws.FnSizesDontMatter" = some 6 by kernel_rfl).symm.trans hf) |>.symm
  obtain rfl : fn = Tryd.f6 := (Option.some.inj (Tryd.func6.symm.trans hfn)).symm
  refine ⟨by kernel_rfl, fun j t ht => ?_⟩
  rw [Tryd.params6] at ht
  have hm : t ∈ #[22, 39] := Array.mem_of_getElem? ht
  have key : ∀ t ∈ #[22, 39], Tryd.prog.wantsStandIn t = false := by decide +kernel
  exact key t hm

theorem card : Rows.FnSizesDontMatterCardSaid :=
  Claim7.holds_tied_plain_at .later [] _ _ _ _ said (fun _ h => by cases h) (by kernel_rfl) (fun _ h => by cases h) fnSizesDontMatter_row_tie rfl ⟨rfl, rfl⟩ (by kernel_rfl) rfl plain (by kernel_rfl)
end Go.Proofs.YtbjbmpcgiokdaaaDoor.fnSizesDontMatter
