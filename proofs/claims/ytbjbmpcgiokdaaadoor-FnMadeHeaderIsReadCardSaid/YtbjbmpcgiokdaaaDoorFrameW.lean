/-
  A world for the witness of this seat's rows: the listed variables hold what they are listed with.
-/
import Derived.Test.YtbjbmpcgiokdaaaDoorFrameD
import Derived.Test.YtbjbmpcgiokdaaaDoorFrameG
import Derived.Test.YtbjbmpcgiokdaaaDoorCards
import Derived.Test.YtbjbmpcgiokdaaaDoorTie
import Derived.ProofKit
import Derived.Deep.DeepWitnessRowRef
set_option linter.unusedVariables false
set_option linter.unusedSimpArgs false
namespace Go.Eng
open Go Go.Proofs Go.Proofs.YtbjbmpcgiokdaaaDoor Go.ChangeShapes Go.WideShapes Go.RowKit
set_option maxRecDepth 100000

theorem ownD : ownKnob Tryd.prog.godebug = none := by kernel_rfl
theorem laidOutD : laidOutB Tryd.prog = true := by kernel_rfl

def errS (l : List UInt8) : Obj := .cells #[.string ⟨l.toArray⟩] 200

noncomputable def lowD : Nat := (World.holding Tryd.prog default ⟨#[], #[], []⟩).heap.size

def layErr (g : Nat) (b : Nat) (H : Array Obj) : Array Obj := H.modify g fun
  | .cells _ t frozen => .cells #[.iface 179 (.pointer (some ⟨b, 0, none⟩))] t frozen
  | o => o
def layInts (g : Nat) (l : List Int) (H : Array Obj) : Array Obj := H.modify g fun
  | .cells _ t frozen => .cells (l.map fun n => Value.int .i64 n).toArray t frozen
  | o => o

noncomputable def laidWorldD (os : Os) : World :=
  let w0 := World.holding Tryd.prog os ⟨#[errS [115, 104, 111, 114, 116, 32, 98, 117, 102, 102, 101, 114], errS [69, 79, 70], errS [117, 110, 101, 120, 112, 101, 99, 116, 101, 100, 32, 69, 79, 70],
    errS [103, 122, 105, 112, 58, 32, 105, 110, 118, 97, 108, 105, 100, 32, 99, 104, 101, 99, 107, 115, 117, 109], errS [103, 122, 105, 112, 58, 32, 105, 110, 118, 97, 108, 105, 100, 32, 104, 101, 97, 100, 101, 114]], #[], []⟩
  { w0 with heap := layErr 4 lowD (layErr 0 (lowD + 1) (layErr 3 (lowD + 2) (layErr 2 (lowD + 3) (layErr 1 (lowD + 4)
    (layInts 5 [16, 17, 18, 0, 8, 7, 9, 6, 10, 5, 11, 4, 12, 3, 13, 2, 14, 1, 15] w0.heap))))) }

theorem laid_metD (os : Os) (args : Array Value) : laidMet Tryd.prog Rows.fnHeaderTakesItsBytesRow.laid ((laidWorldD os).forCall (fun _ _ => 0) ⟨#[], args, []⟩).memory :=
  laidMet_of_run' 8 (by kernel_rfl) (by kernel_rfl)
end Go.Eng
