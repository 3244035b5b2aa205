/-
  A gzip.Reader's memory; kinds of errors.
-/
import Derived.Test.YtbjbmpcgiokdaaaDoorWGz3
set_option linter.unusedVariables false
set_option linter.unusedSimpArgs false
namespace Go.Eng
open Go Go.Proofs
set_option maxRecDepth 100000

def zip10 (rd dec : Value) : List Value := [.string ⟨#[]⟩, .slice none 0 0, .int .u64 0, .int .i64 0, .string ⟨#[]⟩, .int .u8 0, rd, dec, .int .u32 0, .int .u32 0]
def buf0 : List Value := List.replicate 512 (.int .u8 0)
def zipEnd (e : Value) (ms : Bool) : List Value := [e, .bool ms]

theorem buf0_length : buf0.length = 512 := List.length_replicate

theorem zipZero : (Value.agg Tryd.zeroCells76).cells = (zip10 .nilIface .nilIface ++ (buf0 ++ zipEnd .nilIface false)).toArray := by kernel_rfl
theorem zipSize : (Value.agg Tryd.zeroCells76).cells.size = 524 := by kernel_rfl
theorem zipSet (dec : Value) : ((Value.agg Tryd.zeroCells76).cells.setIfInBounds 7 dec).setIfInBounds 523 (.bool true) = (zip10 .nilIface dec ++ (buf0 ++ zipEnd .nilIface true)).toArray := by
  rw [zipZero]
  apply Array.ext'
  simp only [Array.toList_setIfInBounds]
  have h1 : (zip10 .nilIface .nilIface).set 7 dec = zip10 .nilIface dec := rfl
  have h2 : (zip10 .nilIface dec).length = 10 := rfl
  have h3 : (zip10 .nilIface .nilIface).length = 10 := rfl
  rw [List.set_append_left _ _ (by rw [h3]; decide), h1, List.set_append_right _ _ (by rw [h2]; decide), List.set_append_right _ _ (by rw [h2, buf0_length]; decide), h2, buf0_length]
  rfl
theorem zipBuild (dec : Value) (h : one dec = true) (w : World) : (Instr.build 76 [(2, dec), (7, .bool true)].toArray).run Tryd.prog w = .ok (.agg (zip10 .nilIface dec ++ (buf0 ++ zipEnd .nilIface true)).toArray) w := by
  simp [Instr.build, Tryd.zeroValue76]
  rw [fill_one (off := 7) rfl h (by rw [zipSize]; decide), fill_one (off := 523) rfl rfl (by rw [Array.size_setIfInBounds, zipSize]; decide), fill_nil]
  simp [zipSet]

theorem zipSame (b : Nat) (F : Frags) (p0 p1 p2 : List Value) (h0 : p0.length = 10) (h1 : p1.length = 512) : Same (⟨b, 0, p0 ++ (p1 ++ p2)⟩ :: F) ([⟨b, 0, p0⟩, ⟨b, 10, p1⟩, ⟨b, 522, p2⟩] ++ F) := by
  have := Same.chunks b F [(0, p0), (10, p1), (522, p2)] 0 (by simp [chunksOk, h0, h1])
  simpa using this

theorem zip_one (dec : Value) (h : one dec = true) : (zip10 .nilIface dec ++ (buf0 ++ zipEnd .nilIface true)).all one = true := by
  rw [List.all_append, List.all_append]
  have h1 : (zip10 .nilIface dec).all one = true := by simp only [zip10, List.all_cons, List.all_nil, h]; rfl
  have h2 : buf0.all one = true := by rw [List.all_eq_true]; intro v hv; rw [List.eq_of_mem_replicate hv]; rfl
  rw [h1, h2]; rfl

theorem zip_len (dec : Value) : (zip10 .nilIface dec ++ (buf0 ++ zipEnd .nilIface true)).length = 524 := by
  rw [List.length_append, List.length_append, buf0_length]; rfl

theorem zipStore (zb : Nat) (x1 x2 x3 : Frag) : [x1, x2, x3, (⟨zb, 0, zip10 .nilIface .nilIface ++ (buf0 ++ zipEnd .nilIface false)⟩ : Frag)].set 3 ⟨zb, 0, (zip10 .nilIface .nilIface ++ (buf0 ++ zipEnd .nilIface false)).take 0 ++ (zip10 .nilIface .nilIface ++ (buf0 ++ zipEnd .nilIface true)) ++ (zip10 .nilIface .nilIface ++ (buf0 ++ zipEnd .nilIface false)).drop (0 + 524)⟩ =
    [x1, x2, x3, ⟨zb, 0, zip10 .nilIface .nilIface ++ (buf0 ++ zipEnd .nilIface true)⟩] := by
  have h : (zip10 .nilIface .nilIface ++ (buf0 ++ zipEnd .nilIface false)).length = 524 := by rw [List.length_append, List.length_append, buf0_length]; rfl
  rw [List.take_zero, List.nil_append, List.drop_eq_nil_of_le (by rw [h]; decide), List.append_nil]
  rfl

/-- The kind of an error. -/
def kindOf (e : Er) : Nat := match e with
  | .none => 0
  | .se k => if k = 0 then 1 else if k = 1 then 2 else if k = 2 then 3 else 5
  | _ => 5

theorem kindOf_other {e : Er} (h0 : e ≠ .none) (h1 : e ≠ .se 0) (h2 : e ≠ .se 1) (h3 : e ≠ .se 2) : kindOf e = 5 := by
  cases e with
  | none => exact absurd rfl h0
  | se k =>
    have e1 : k ≠ 0 := fun h => h1 (by rw [h])
    have e2 : k ≠ 1 := fun h => h2 (by rw [h])
    have e3 : k ≠ 2 := fun h => h3 (by rw [h])
    simp [kindOf, e1, e2, e3]
  | corrupt off => rfl
  | internal s => rfl

theorem six {hs : List Value} (h : hs.length = 6) : ∃ a0 a1 a2 a3 a4 a5, hs = [a0, a1, a2, a3, a4, a5] := by
  match hs, h with
  | [a0, a1, a2, a3, a4, a5], _ => exact ⟨_, _, _, _, _, _, rfl⟩
end Go.Eng
