/-
  Every file that is made by the RFCs (any headers, any blocks, any codes), with any bytes behind it, is read member by member: of each member its header and its data, then io.EOF, and just the bytes behind that member are left. It is the statement for all arguments of the given bulk, in its second form (Upto): no condition but that and those that the given row and card bear (the listed package-level variables hold what the program lays).
-/
import Derived.Test.YtbjbmpcgiokdaaaGreatDoorGo8
set_option linter.unusedVariables false
set_option linter.unusedSimpArgs false
namespace Go.Proofs.YtbjbmpcgiokdaaaGreatDoor.fnMadeOneByOne
open Go Go.Eng Go.ChangeShapes Go.WideShapes Go.ChangeAt Go.RowKit
set_option maxRecDepth 100000

theorem contract (H : Type) (enc : TypeId × Value → H) (W : World) (base : Nat) (args : Array Value) (ds gs : List (DataW H)) (before : List MemPlace)
    (hval : ∀ (j : Nat) t v, Tryz.f5.params[j]? = some t → args[j]? = some v → Value.okWide Tryz.prog W .any base t v)
    (hW : DataW.Whole enc Tryz.prog Tryz.f5.params.toList Rows.fnMadeOneByOneSpec.vars false W args.toList ds gs before) (hL : laidMetH Tryz.prog Rows.fnMadeOneByOneUptoRow.laid W) (hk : Rows.uptoSmall H (ds ++ gs) = true) :
    Calls Tryz.prog 5 args W fun e W' => ∃ v, e = .returned v ∧ Rows.fnMadeOneByOneSpec.post enc Tryz.prog Tryz.f5 false true false false W args v W' := by
  have hW' := hW
  obtain ⟨p, q, hA0, hV, rfl, hfz, hnd⟩ := hW
  have hA : DataW.TrodAll enc Tryz.prog W 0 (fun _ => true) true Tryz.f5.params.toList args.toList ds p := hA0
  rw [Tryz.params5] at hA hval
  obtain ⟨v0, vs0, d0, ds0, p0, q0, hargs0, rfl, rfl, h0, r0⟩ := trodAll_cons hA
  obtain ⟨v1, vs1, d1, ds1, p1, q1, hargs1, rfl, rfl, h1, r1⟩ := trodAll_cons r0
  obtain ⟨rfl, rfl, rfl⟩ := trodAll_nil r1
  obtain rfl : args = #[v0, v1] := by cases args; simp_all
  obtain ⟨rfl, rfl⟩ := trodVars_none hV
  have hL1 : laidMetH Tryz.prog Rows.fnReadAsToldRow.laid W := hL
  obtain ⟨⟨ea, hs⟩, hcod, hSp⟩ := laid_all hL1
  have hfn : Go.Eng.Fn Tryz.prog (fun b => W.heap[b]?) 5 #[v0, v1] [] (fun r L => r = .bool true) := by
    obtain ⟨a, l, c, rfl, hM, hw, hlc⟩ := arg_mades (hval 0 _ v0 rfl rfl) h0
    obtain ⟨l2, a2, c2, rfl, hB⟩ := arg_ba (hval 1 _ v1 rfl rfl) h1
    have hln := ms_len l
    have hb : bulkOf d0 ≤ 1048576 := by
      have h := of_decide_eq_true hk
      simp only [List.append_nil, Rows.uptoBulkAll] at h
      show Rows.uptoBulk d0 ≤ _
      omega
    exact law8 hs hcod hSp (laid_cap hL1) l a c hM (by omega) (by omega) hlc l2 a2 c2 hB
  refine (hfn W (agree_all W)).mono ?_
  rintro e W' ⟨v, L', rfl, rfl, ht⟩
  exact ⟨_, rfl, post_true laidOutD (by rw [Tryz.params5]; decide +kernel) Tryz.underlying4 (show Tryz.f5.resultTypes = #[4] by kernel_rfl) rfl rfl hW' ht.below⟩

theorem reads (os : Os) {H : Type} (enc : TypeId × Value → H) : DataW.whole enc Tryz.prog ((laidWorldZ os).forCall (fun _ _ => 0) ⟨#[], #[.slice none 0 0, .slice none 0 0], []⟩).memory Tryz.f5.params.toList Rows.fnMadeOneByOneSpec.vars false #[.slice none 0 0, .slice none 0 0].toList 8 = some ([.nil, .nil], [], []) := by kernel_rfl

theorem lifted (os : Os) (started : os.Started) (H : Type) (enc : TypeId × Value → H) (F : Stop.Interp) :
    ReturnsInHanded {} Tryz.checked os 5 .any ((Rows.OpenSpec.upto Rows.fnMadeOneByOneSpec).preRow enc Tryz.prog Tryz.f5 Rows.fnMadeOneByOneUptoRow.domain false Rows.fnMadeOneByOneUptoRow.laid) (((Rows.OpenSpec.upto Rows.fnMadeOneByOneSpec).at F).post enc Tryz.prog Tryz.f5 false true false false) := by
  have hx := reads os enc
  refine returnsInHanded_of_row (C := Tryz.checked) (s := Rows.OpenSpec.upto Rows.fnMadeOneByOneSpec) ownD started (by kernel_rfl) Tryz.func5
    (witness_row_atRef (enc := enc) (C := Tryz.checked) false (laidWorldZ os) #[.slice none 0 0, .slice none 0 0] rfl (by kernel_rfl) (by kernel_rfl) (by kernel_rfl)
      (OpenSpec.preRow_of_cond 8 hx (by kernel_rfl) (fun k hk => by cases hk; kernel_rfl) (by kernel_rfl) (laid_metZ os _))) ?_
  intro W base args ds gs before hval hW _ hcond _ hL _ _
  exact contract H enc W base args ds gs before hval hW hL (hcond _ rfl)

theorem said : Rows.FnMadeOneByOneUptoSaid :=
  OpenClaim.holds_of_cond 5 Tryz.f5 rfl rfl rfl rfl rfl rfl rfl ⟨rfl, rfl, rfl, rfl, rfl⟩ rfl rfl rfl rfl rfl (by kernel_rfl) Tryz.func5 (by kernel_rfl)
    (of_decide_eq_true (by kernel_rfl)) (by unfold Func.isWrapper; first | (rw [if_pos (by decide +kernel)]; kernel_rfl) | (rw [if_neg (by decide +kernel)]; exact ⟨rfl, rfl⟩))
    (fun os started H enc _ F => by rw [OpenClaim.pre_eq_preRow]; exact lifted os started H enc F)

theorem plain (f : FuncId) (fn : Func) (hf : Tryz.pinned.checked.prog.funcNamed "gzipfiles/laws.FnMadeOneByOne" = some f) (hfn : Tryz.pinned.checked.prog.funcs[f]? = some fn) :
    true = Tryz.pinned.checked.prog.looks [] ∧ ∀ (j : Nat) t, fn.params[j]? = some t → Tryz.pinned.checked.prog.wantsStandIn t = false := by
  obtain rfl : f = 5 := Option.some.inj ((show Tryz.prog.funcNamed "gzipfiles/laws.FnMadeOneByOne" = some 5 by kernel_rfl).symm.trans hf) |>.symm
  obtain rfl : fn = Tryz.f5 := (Option.some.inj (Tryz.func5.symm.trans hfn)).symm
  refine ⟨by kernel_rfl, fun j t ht => ?_⟩
  rw [Tryz.params5] at ht
  have hm : t ∈ #[22, 25] := Array.mem_of_getElem? ht
  have key : ∀ t ∈ #[22, 25], Tryz.prog.wantsStandIn t = false := by decide +kernel
  exact key t hm

theorem card : Rows.FnMadeOneByOneUptoCardSaid :=
  Claim7.holds_tied_plain_at .later [] _ _ _ _ said (fun _ h => by cases h) (by kernel_rfl) (fun _ h => by cases h) fnMadeOneByOneUpto_row_tie rfl ⟨rfl, rfl⟩ (by kernel_rfl) rfl plain (by kernel_rfl)
end Go.Proofs.YtbjbmpcgiokdaaaGreatDoor.fnMadeOneByOne
