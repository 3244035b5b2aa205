/-
  Any bytes are read alike from a source that gives them in pieces of any sizes and has no ReadByte: whether the reader opens, its header, all its bytes, and how it ends. It is the whole statement: no condition but those that the given row and card bear (the listed package-level variables hold what the program lays).
-/
import Derived.Test.YtbjbmpcgiokdaaaDoorMp7
set_option linter.unusedVariables false
set_option linter.unusedSimpArgs false
namespace Go.Proofs.YtbjbmpcgiokdaaaDoor.fnPiecesDontMatter
open Go Go.Eng Go.ChangeShapes Go.WideShapes Go.ChangeAt Go.RowKit
set_option maxRecDepth 100000

theorem contract (H : Type) (enc : TypeId × Value → H) (W : World) (base : Nat) (args : Array Value) (ds gs : List (DataW H)) (before : List MemPlace)
    (hval : ∀ (j : Nat) t v, Tryd.f7.params[j]? = some t → args[j]? = some v → Value.okWide Tryd.prog W .any base t v)
    (hW : DataW.Whole enc Tryd.prog Tryd.f7.params.toList Rows.fnPiecesDontMatterSpec.vars false W args.toList ds gs before) (hL : laidMetH Tryd.prog Rows.fnPiecesDontMatterRow.laid W) :
    Calls Tryd.prog 7 args W fun e W' => ∃ v, e = .returned v ∧ Rows.fnPiecesDontMatterSpec.post enc Tryd.prog Tryd.f7 false true false false W args v W' := by
  have hW' := hW
  obtain ⟨p, q, hA0, hV, rfl, hfz, hnd⟩ := hW
  have hA : DataW.TrodAll enc Tryd.prog W 0 (fun _ => true) true Tryd.f7.params.toList args.toList ds p := hA0
  rw [Tryd.params7] at hA hval
  obtain ⟨v0, vs0, d0, ds0, p0, q0, hargs0, rfl, rfl, h0, r0⟩ := trodAll_cons hA
  obtain ⟨v1, vs1, d1, ds1, p1, q1, hargs1, rfl, rfl, h1, r1⟩ := trodAll_cons r0
  obtain ⟨v2, vs2, d2, ds2, p2, q2, hargs2, rfl, rfl, h2, r2⟩ := trodAll_cons r1
  obtain ⟨rfl, rfl, rfl⟩ := trodAll_nil r2
  obtain rfl : args = #[v0, v1, v2] := by cases args; simp_all
  obtain ⟨rfl, rfl⟩ := trodVars_none hV
  have hL1 : laidMetH Tryd.prog Rows.fnHeaderTakesItsBytesRow.laid W := hL
  obtain ⟨ea, hs⟩ := laid_sents hL1
  have hfn : Go.Eng.Fn Tryd.prog (fun b => W.heap[b]?) 7 #[v0, v1, v2] [] (fun r L => r = .bool true) := by
    obtain ⟨l1, a1, c1, rfl, hB1⟩ := arg_ba (hval 0 _ v0 rfl rfl) h0
    obtain ⟨a2, n2, c2, rfl, hZ2⟩ := arg_ints (hval 1 _ v1 rfl rfl) h1
    obtain ⟨a3, n3, c3, rfl, hZ3⟩ := arg_ints (hval 2 _ v2 rfl rfl) h2
    exact law7 hs (laid_codes hL1) l1 a1 c1 hB1 a2 n2 c2 hZ2 a3 n3 c3 hZ3
  refine (hfn W (agree_all W)).mono ?_
  rintro e W' ⟨v, L', rfl, rfl, ht⟩
  exact ⟨_, rfl, post_true laidOutD (by rw [Tryd.params7]; decide +kernel) Tryd.underlying4 (show Tryd.f7.resultTypes = #[4] by kernel_rfl) rfl rfl hW' ht.below⟩

theorem reads (os : Os) {H : Type} (enc : TypeId × Value → H) : DataW.whole enc Tryd.prog ((laidWorldD os).forCall (fun _ _ => 0) ⟨#[], #[.slice none 0 0, .slice none 0 0, .slice none 0 0], []⟩).memory Tryd.f7.params.toList Rows.fnPiecesDontMatterSpec.vars false #[.slice none 0 0, .slice none 0 0, .slice none 0 0].toList 8 = some ([.nil, .nil, .nil], [], []) := by kernel_rfl

theorem lifted (os : Os) (started : os.Started) (H : Type) (enc : TypeId × Value → H) (F : Stop.Interp) :
    ReturnsInHanded {} Tryd.checked os 7 .any ((OpenSpec.ofChange Rows.fnPiecesDontMatterSpec).preRow enc Tryd.prog Tryd.f7 Rows.fnPiecesDontMatterRow.domain false Rows.fnPiecesDontMatterRow.laid) (((OpenSpec.ofChange Rows.fnPiecesDontMatterSpec).at F).post enc Tryd.prog Tryd.f7 false true false false) := by
  have hx := reads os enc
  refine returnsInHanded_of_row (C := Tryd.checked) (s := OpenSpec.ofChange Rows.fnPiecesDontMatterSpec) ownD started (by kernel_rfl) Tryd.func7
    (witness_row_at (enc := enc) (C := Tryd.checked) false (laidWorldD os) #[.slice none 0 0, .slice none 0 0, .slice none 0 0] rfl (by kernel_rfl) (by kernel_rfl) (by kernel_rfl)
      (OpenSpec.preRow_of_cond 8 hx (by kernel_rfl) (fun k hk => by cases hk) (by kernel_rfl) (laid_metD os _))) ?_
  intro W base args ds gs before hval hW _ _ _ hL _ _
  exact contract H enc W base args ds gs before hval hW hL

theorem said : Rows.FnPiecesDontMatterSaid :=
  OpenClaim.holds_of_cond 7 Tryd.f7 rfl rfl rfl rfl rfl rfl rfl ⟨rfl, rfl, rfl, rfl, rfl⟩ rfl rfl rfl rfl rfl (by kernel_rfl) Tryd.func7 (by kernel_rfl)
    (of_decide_eq_true (by kernel_rfl)) (by unfold Func.isWrapper; first | (rw [if_pos (by decide +kernel)]; kernel_rfl) | (rw [if_neg (by decide +kernel)]; exact ⟨rfl, rfl⟩))
    (fun os started H enc _ F => by rw [OpenClaim.pre_eq_preRow]; exact lifted os started H enc F)

theorem plain (f : FuncId) (fn : Func) (hf : Tryd.pinned.checked.prog.funcNamed "gzipfiles/laws.FnPiecesDontMatter" = some f) (hfn : Tryd.pinned.checked.prog.funcs[f]? = some fn) :
    true = Tryd.pinned.checked.prog.looks [] ∧ ∀ (j : Nat) t, fn.params[j]? = some t → Tryd.pinned.checked.prog.wantsStandIn t = false := by
  obtain rfl : f = 7 := Option.some.inj ((show Tryd.prog.funcNamed "gzipfiles/laws.FnPiecesDontMatter" = some 7 by kernel_rfl).symm.trans hf) |>.symm
  obtain rfl : fn = Tryd.f7 := (Option.some.inj (Tryd.func7.symm.trans hfn)).symm
  refine ⟨by kernel_rfl, fun j t ht => ?_⟩
  rw [Tryd.params7] at ht
  have hm : t ∈ #[22, 39, 39] := Array.mem_of_getElem? ht
  have key : ∀ t ∈ #[22, 39, 39], Tryd.prog.wantsStandIn t = false := by decide +kernel
  exact key t hm

theorem card : Rows.FnPiecesDontMatterCardSaid :=
  Claim7.holds_tied_plain_at .later [] _ _ _ _ said (fun _ h => by cases h) (by kernel_rfl) (fun _ h => by cases h) fnPiecesDontMatter_row_tie rfl ⟨rfl, rfl⟩ (by kernel_rfl) rfl plain (by kernel_rfl)
end Go.Proofs.YtbjbmpcgiokdaaaDoor.fnPiecesDontMatter
