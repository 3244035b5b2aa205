/-
  The header of every file that is made by RFC 1952 is read: of every header that can be written, made with any marks, and any bytes behind it, NewReader reads that header and leaves the bytes behind it. It is the whole statement: no condition but those that the given row and card bear (the listed package-level variables hold what the program lays).
-/
import Derived.Test.YtbjbmpcgiokdaaaDoorWLaw3
import Derived.Test.YtbjbmpcgiokdaaaDoorFrameW
set_option linter.unusedVariables false
set_option linter.unusedSimpArgs false
namespace Go.Proofs.YtbjbmpcgiokdaaaDoor.fnMadeHeaderIsRead
open Go Go.Eng Go.ChangeShapes Go.WideShapes Go.ChangeAt Go.RowKit
set_option maxRecDepth 100000

theorem contract (H : Type) (enc : TypeId × Value → H) (W : World) (base : Nat) (args : Array Value) (ds gs : List (DataW H)) (before : List MemPlace)
    (hval : ∀ (j : Nat) t v, Tryd.f5.params[j]? = some t → args[j]? = some v → Value.okWide Tryd.prog W .any base t v)
    (hW : DataW.Whole enc Tryd.prog Tryd.f5.params.toList Rows.fnMadeHeaderIsReadSpec.vars false W args.toList ds gs before) (hL : laidMetH Tryd.prog Rows.fnMadeHeaderIsReadRow.laid W) :
    Calls Tryd.prog 5 args W fun e W' => ∃ v, e = .returned v ∧ Rows.fnMadeHeaderIsReadSpec.post enc Tryd.prog Tryd.f5 false true false false W args v W' := by
  have hW' := hW
  obtain ⟨p, q, hA0, hV, rfl, hfz, hnd⟩ := hW
  have hA : DataW.TrodAll enc Tryd.prog W 0 (fun _ => true) true Tryd.f5.params.toList args.toList ds p := hA0
  rw [Tryd.params5] at hA hval
  obtain ⟨v0, vs0, d0, ds0, p0, q0, hargs0, rfl, rfl, h0, r0⟩ := trodAll_cons hA
  obtain ⟨v1, vs1, d1, ds1, p1, q1, hargs1, rfl, rfl, h1, r1⟩ := trodAll_cons r0
  obtain ⟨rfl, rfl, rfl⟩ := trodAll_nil r1
  obtain rfl : args = #[v0, v1] := by cases args; simp_all
  obtain ⟨rfl, rfl⟩ := trodVars_none hV
  have hL1 : laidMetH Tryd.prog Rows.fnHeaderTakesItsBytesRow.laid W := hL
  obtain ⟨ea, hs⟩ := laid_sents hL1
  have hfn : Go.Eng.Fn Tryd.prog (fun b => W.heap[b]?) 5 #[v0, v1] [] (fun r L => r = .bool true) := by
    obtain ⟨m, ve, vb, rfl, hbe, hbl, z0, z1, _⟩ := arg_made h0
    obtain ⟨ea2, ec, rfl, hE⟩ := hbe.sl
    obtain ⟨va, vn, vc, rfl⟩ := hbl.sl
    obtain ⟨ba, bc, l, rfl, hBh⟩ := arg_bytesA (hval 1 _ v1 rfl rfl) h1
    exact law3 hs m ea2 va ba ec vn vc bc l hbl hE hBh
  refine (hfn W (agree_all W)).mono ?_
  rintro e W' ⟨v, L', rfl, rfl, ht⟩
  exact ⟨_, rfl, post_true laidOutD (by rw [Tryd.params5]; decide +kernel) Tryd.underlying4 (show Tryd.f5.resultTypes = #[4] by kernel_rfl) rfl rfl hW' ht.below⟩

theorem reads (os : Os) {H : Type} (enc : TypeId × Value → H) : DataW.whole enc Tryd.prog ((laidWorldD os).forCall (fun _ _ => 0) ⟨#[], #[.agg #[.string ⟨#[]⟩, .string ⟨#[]⟩, .slice none 0 0, .int .i64 0, .int .u8 0, .bool false, .bool false, .bool false, .bool false, .bool false, .int .u8 0, .slice none 0 0], .slice none 0 0], []⟩).memory Tryd.f5.params.toList Rows.fnMadeHeaderIsReadSpec.vars false #[.agg #[.string ⟨#[]⟩, .string ⟨#[]⟩, .slice none 0 0, .int .i64 0, .int .u8 0, .bool false, .bool false, .bool false, .bool false, .bool false, .int .u8 0, .slice none 0 0], .slice none 0 0].toList 8 = some ([.agg [.agg [.lit (.string []), .lit (.string []), .nil, .lit (.int .i64 0), .lit (.int .u8 0)], .lit (.bool false), .lit (.bool false), .lit (.bool false), .lit (.bool false), .lit (.bool false), .lit (.int .u8 0), .nil], .nil], [], []) := by kernel_rfl

theorem lifted (os : Os) (started : os.Started) (H : Type) (enc : TypeId × Value → H) (F : Stop.Interp) :
    ReturnsInHanded {} Tryd.checked os 5 .any ((OpenSpec.ofChange Rows.fnMadeHeaderIsReadSpec).preRow enc Tryd.prog Tryd.f5 Rows.fnMadeHeaderIsReadRow.domain false Rows.fnMadeHeaderIsReadRow.laid) (((OpenSpec.ofChange Rows.fnMadeHeaderIsReadSpec).at F).post enc Tryd.prog Tryd.f5 false true false false) := by
  have hx := reads os enc
  refine returnsInHanded_of_row (C := Tryd.checked) (s := OpenSpec.ofChange Rows.fnMadeHeaderIsReadSpec) ownD started (by kernel_rfl) Tryd.func5
    (witness_row_at (enc := enc) (C := Tryd.checked) false (laidWorldD os) #[.agg #[.string ⟨#[]⟩, .string ⟨#[]⟩, .slice none 0 0, .int .i64 0, .int .u8 0, .bool false, .bool false, .bool false, .bool false, .bool false, .int .u8 0, .slice none 0 0], .slice none 0 0] rfl (by kernel_rfl) (by kernel_rfl) (by kernel_rfl)
      (OpenSpec.preRow_of_cond 8 hx (by kernel_rfl) (fun k hk => by cases hk) (by kernel_rfl) (laid_metD os _))) ?_
  intro W base args ds gs before hval hW _ _ _ hL _ _
  exact contract H enc W base args ds gs before hval hW hL

theorem said : Rows.FnMadeHeaderIsReadSaid :=
  OpenClaim.holds_of_cond 5 Tryd.f5 rfl rfl rfl rfl rfl rfl rfl ⟨rfl, rfl, rfl, rfl, rfl⟩ rfl rfl rfl rfl rfl (by kernel_rfl) Tryd.func5 (by kernel_rfl)
    (of_decide_eq_true (by kernel_rfl)) (by unfold Func.isWrapper; first | (rw [if_pos (by decide +kernel)]; kernel_rfl) | (rw [if_neg (by decide +kernel)]; exact ⟨rfl, rfl⟩))
    (fun os started H enc _ F => by rw [OpenClaim.pre_eq_preRow]; exact lifted os started H enc F)

theorem plain (f : FuncId) (fn : Func) (hf : Tryd.pinned.checked.prog.funcNamed "gzipfiles/laws.FnMadeHeaderIsRead" = some f) (hfn : Tryd.pinned.checked.prog.funcs[f]? = some fn) :
    true = Tryd.pinned.checked.prog.looks [] ∧ ∀ (j : Nat) t, fn.params[j]? = some t → Tryd.pinned.checked.prog.wantsStandIn t = false := by
  obtain rfl : f = 5 := Option.some.inj ((show Tryd.prog.funcNamed "gzipfiles/laws.FnMadeHeaderIsRead" = some 5 by kernel_rfl).symm.trans hf) |>.symm
  obtain rfl : fn = Tryd.f5 := (Option.some.inj (Tryd.func5.symm.trans hfn)).symm
  refine ⟨by kernel_rfl, fun j t ht => ?_⟩
  rw [Tryd.params5] at ht
  have hm : t ∈ #[34, 22] := Array.mem_of_getElem? ht
  have key : ∀ t ∈ #[34, 22], Tryd.prog.wantsStandIn t = false := by decide +kernel
  exact key t hm

theorem card : Rows.FnMadeHeaderIsReadCardSaid :=
  Claim7.holds_tied_plain_at .later [] _ _ _ _ said (fun _ h => by cases h) (by kernel_rfl) (fun _ h => by cases h) fnMadeHeaderIsRead_row_tie rfl ⟨rfl, rfl⟩ (by kernel_rfl) rfl plain (by kernel_rfl)
end Go.Proofs.YtbjbmpcgiokdaaaDoor.fnMadeHeaderIsRead
