/-
  Closed facts of the program: the addresses of fields, which types are concrete; that orders may be mixed.
-/
import Derived.Test.YtbjbmpcgiokdaaaDoorProg
import Derived.Test.YtbjbmpcgiokdaaaDoorEng4
set_option linter.unusedVariables false
set_option linter.unusedSimpArgs false
namespace Go.Eng
open Go Go.Proofs
set_option maxRecDepth 100000
theorem mixed : Tryd.prog.follows .mixedOrders = true := by kernel_rfl
theorem fa24_0 (a : Addr) (w : World) : (Instr.fieldAt 24 (.pointer (some a)) 0).run Tryd.prog w = .ok (.pointer (some (a.add 0))) w := by
  simp [Instr.fieldAt, Instr.sureAddr, fieldPlace, Tryd.runUnderlying24, Tryd.sizeOf9]
theorem fa24_1 (a : Addr) (w : World) : (Instr.fieldAt 24 (.pointer (some a)) 1).run Tryd.prog w = .ok (.pointer (some (a.add 1))) w := by
  simp [Instr.fieldAt, Instr.sureAddr, fieldPlace, Tryd.runUnderlying24, Tryd.sizeOf9]
theorem fa24_2 (a : Addr) (w : World) : (Instr.fieldAt 24 (.pointer (some a)) 2).run Tryd.prog w = .ok (.pointer (some (a.add 2))) w := by
  simp [Instr.fieldAt, Instr.sureAddr, fieldPlace, Tryd.runUnderlying24, Tryd.sizeOf22]
theorem fa24_3 (a : Addr) (w : World) : (Instr.fieldAt 24 (.pointer (some a)) 3).run Tryd.prog w = .ok (.pointer (some (a.add 3))) w := by
  simp [Instr.fieldAt, Instr.sureAddr, fieldPlace, Tryd.runUnderlying24, Tryd.sizeOf2]
theorem fa24_4 (a : Addr) (w : World) : (Instr.fieldAt 24 (.pointer (some a)) 4).run Tryd.prog w = .ok (.pointer (some (a.add 4))) w := by
  simp [Instr.fieldAt, Instr.sureAddr, fieldPlace, Tryd.runUnderlying24, Tryd.sizeOf5]
theorem fa27_0 (a : Addr) (w : World) : (Instr.fieldAt 27 (.pointer (some a)) 0).run Tryd.prog w = .ok (.pointer (some (a.add 0))) w := by
  simp [Instr.fieldAt, Instr.sureAddr, fieldPlace, Tryd.runUnderlying27, Tryd.sizeOf9]
theorem fa27_1 (a : Addr) (w : World) : (Instr.fieldAt 27 (.pointer (some a)) 1).run Tryd.prog w = .ok (.pointer (some (a.add 1))) w := by
  simp [Instr.fieldAt, Instr.sureAddr, fieldPlace, Tryd.runUnderlying27, Tryd.sizeOf9]
theorem fa27_2 (a : Addr) (w : World) : (Instr.fieldAt 27 (.pointer (some a)) 2).run Tryd.prog w = .ok (.pointer (some (a.add 2))) w := by
  simp [Instr.fieldAt, Instr.sureAddr, fieldPlace, Tryd.runUnderlying27, Tryd.sizeOf22]
theorem fa27_3 (a : Addr) (w : World) : (Instr.fieldAt 27 (.pointer (some a)) 3).run Tryd.prog w = .ok (.pointer (some (a.add 3))) w := by
  simp [Instr.fieldAt, Instr.sureAddr, fieldPlace, Tryd.runUnderlying27, Tryd.sizeOf2]
theorem fa27_4 (a : Addr) (w : World) : (Instr.fieldAt 27 (.pointer (some a)) 4).run Tryd.prog w = .ok (.pointer (some (a.add 4))) w := by
  simp [Instr.fieldAt, Instr.sureAddr, fieldPlace, Tryd.runUnderlying27, Tryd.sizeOf5]
theorem fa34_0 (a : Addr) (w : World) : (Instr.fieldAt 34 (.pointer (some a)) 0).run Tryd.prog w = .ok (.pointer (some (a.add 0))) w := by
  simp [Instr.fieldAt, Instr.sureAddr, fieldPlace, Tryd.runUnderlying34, Tryd.sizeOf24]
theorem fa34_1 (a : Addr) (w : World) : (Instr.fieldAt 34 (.pointer (some a)) 1).run Tryd.prog w = .ok (.pointer (some (a.add 5))) w := by
  simp [Instr.fieldAt, Instr.sureAddr, fieldPlace, Tryd.runUnderlying34, Tryd.sizeOf4]
theorem fa34_2 (a : Addr) (w : World) : (Instr.fieldAt 34 (.pointer (some a)) 2).run Tryd.prog w = .ok (.pointer (some (a.add 6))) w := by
  simp [Instr.fieldAt, Instr.sureAddr, fieldPlace, Tryd.runUnderlying34, Tryd.sizeOf4]
theorem fa34_3 (a : Addr) (w : World) : (Instr.fieldAt 34 (.pointer (some a)) 3).run Tryd.prog w = .ok (.pointer (some (a.add 7))) w := by
  simp [Instr.fieldAt, Instr.sureAddr, fieldPlace, Tryd.runUnderlying34, Tryd.sizeOf4]
theorem fa34_4 (a : Addr) (w : World) : (Instr.fieldAt 34 (.pointer (some a)) 4).run Tryd.prog w = .ok (.pointer (some (a.add 8))) w := by
  simp [Instr.fieldAt, Instr.sureAddr, fieldPlace, Tryd.runUnderlying34, Tryd.sizeOf4]
theorem fa34_5 (a : Addr) (w : World) : (Instr.fieldAt 34 (.pointer (some a)) 5).run Tryd.prog w = .ok (.pointer (some (a.add 9))) w := by
  simp [Instr.fieldAt, Instr.sureAddr, fieldPlace, Tryd.runUnderlying34, Tryd.sizeOf4]
theorem fa34_6 (a : Addr) (w : World) : (Instr.fieldAt 34 (.pointer (some a)) 6).run Tryd.prog w = .ok (.pointer (some (a.add 10))) w := by
  simp [Instr.fieldAt, Instr.sureAddr, fieldPlace, Tryd.runUnderlying34, Tryd.sizeOf5]
theorem fa34_7 (a : Addr) (w : World) : (Instr.fieldAt 34 (.pointer (some a)) 7).run Tryd.prog w = .ok (.pointer (some (a.add 11))) w := by
  simp [Instr.fieldAt, Instr.sureAddr, fieldPlace, Tryd.runUnderlying34, Tryd.sizeOf32]
theorem fa43_0 (a : Addr) (w : World) : (Instr.fieldAt 43 (.pointer (some a)) 0).run Tryd.prog w = .ok (.pointer (some (a.add 0))) w := by
  simp [Instr.fieldAt, Instr.sureAddr, fieldPlace, Tryd.runUnderlying43, Tryd.sizeOf3]
theorem fa43_1 (a : Addr) (w : World) : (Instr.fieldAt 43 (.pointer (some a)) 1).run Tryd.prog w = .ok (.pointer (some (a.add 1))) w := by
  simp [Instr.fieldAt, Instr.sureAddr, fieldPlace, Tryd.runUnderlying43, Tryd.sizeOf27]
theorem fa43_2 (a : Addr) (w : World) : (Instr.fieldAt 43 (.pointer (some a)) 2).run Tryd.prog w = .ok (.pointer (some (a.add 6))) w := by
  simp [Instr.fieldAt, Instr.sureAddr, fieldPlace, Tryd.runUnderlying43, Tryd.sizeOf22]
theorem fa43_3 (a : Addr) (w : World) : (Instr.fieldAt 43 (.pointer (some a)) 3).run Tryd.prog w = .ok (.pointer (some (a.add 7))) w := by
  simp [Instr.fieldAt, Instr.sureAddr, fieldPlace, Tryd.runUnderlying43, Tryd.sizeOf3]
theorem fa67_0 (a : Addr) (w : World) : (Instr.fieldAt 67 (.pointer (some a)) 0).run Tryd.prog w = .ok (.pointer (some (a.add 0))) w := by
  simp [Instr.fieldAt, Instr.sureAddr, fieldPlace, Tryd.runUnderlying67, Tryd.sizeOf65]
theorem fa67_1 (a : Addr) (w : World) : (Instr.fieldAt 67 (.pointer (some a)) 1).run Tryd.prog w = .ok (.pointer (some (a.add 1))) w := by
  simp [Instr.fieldAt, Instr.sureAddr, fieldPlace, Tryd.runUnderlying67, Tryd.sizeOf2]
theorem fa69_0 (a : Addr) (w : World) : (Instr.fieldAt 69 (.pointer (some a)) 0).run Tryd.prog w = .ok (.pointer (some (a.add 0))) w := by
  simp [Instr.fieldAt, Instr.sureAddr, fieldPlace, Tryd.runUnderlying69, Tryd.sizeOf9]
theorem fa69_1 (a : Addr) (w : World) : (Instr.fieldAt 69 (.pointer (some a)) 1).run Tryd.prog w = .ok (.pointer (some (a.add 1))) w := by
  simp [Instr.fieldAt, Instr.sureAddr, fieldPlace, Tryd.runUnderlying69, Tryd.sizeOf22]
theorem fa69_2 (a : Addr) (w : World) : (Instr.fieldAt 69 (.pointer (some a)) 2).run Tryd.prog w = .ok (.pointer (some (a.add 2))) w := by
  simp [Instr.fieldAt, Instr.sureAddr, fieldPlace, Tryd.runUnderlying69, Tryd.sizeOf67]
theorem fa69_3 (a : Addr) (w : World) : (Instr.fieldAt 69 (.pointer (some a)) 3).run Tryd.prog w = .ok (.pointer (some (a.add 4))) w := by
  simp [Instr.fieldAt, Instr.sureAddr, fieldPlace, Tryd.runUnderlying69, Tryd.sizeOf9]
theorem fa69_4 (a : Addr) (w : World) : (Instr.fieldAt 69 (.pointer (some a)) 4).run Tryd.prog w = .ok (.pointer (some (a.add 5))) w := by
  simp [Instr.fieldAt, Instr.sureAddr, fieldPlace, Tryd.runUnderlying69, Tryd.sizeOf5]
theorem fa76_0 (a : Addr) (w : World) : (Instr.fieldAt 76 (.pointer (some a)) 0).run Tryd.prog w = .ok (.pointer (some (a.add 0))) w := by
  simp [Instr.fieldAt, Instr.sureAddr, fieldPlace, Tryd.runUnderlying76, Tryd.sizeOf69]
theorem fa76_1 (a : Addr) (w : World) : (Instr.fieldAt 76 (.pointer (some a)) 1).run Tryd.prog w = .ok (.pointer (some (a.add 6))) w := by
  simp [Instr.fieldAt, Instr.sureAddr, fieldPlace, Tryd.runUnderlying76, Tryd.sizeOf71]
theorem fa76_2 (a : Addr) (w : World) : (Instr.fieldAt 76 (.pointer (some a)) 2).run Tryd.prog w = .ok (.pointer (some (a.add 7))) w := by
  simp [Instr.fieldAt, Instr.sureAddr, fieldPlace, Tryd.runUnderlying76, Tryd.sizeOf73]
theorem fa76_3 (a : Addr) (w : World) : (Instr.fieldAt 76 (.pointer (some a)) 3).run Tryd.prog w = .ok (.pointer (some (a.add 8))) w := by
  simp [Instr.fieldAt, Instr.sureAddr, fieldPlace, Tryd.runUnderlying76, Tryd.sizeOf52]
theorem fa76_4 (a : Addr) (w : World) : (Instr.fieldAt 76 (.pointer (some a)) 4).run Tryd.prog w = .ok (.pointer (some (a.add 9))) w := by
  simp [Instr.fieldAt, Instr.sureAddr, fieldPlace, Tryd.runUnderlying76, Tryd.sizeOf52]
theorem fa76_5 (a : Addr) (w : World) : (Instr.fieldAt 76 (.pointer (some a)) 5).run Tryd.prog w = .ok (.pointer (some (a.add 10))) w := by
  simp [Instr.fieldAt, Instr.sureAddr, fieldPlace, Tryd.runUnderlying76, Tryd.sizeOf74]
theorem fa76_6 (a : Addr) (w : World) : (Instr.fieldAt 76 (.pointer (some a)) 6).run Tryd.prog w = .ok (.pointer (some (a.add 522))) w := by
  simp [Instr.fieldAt, Instr.sureAddr, fieldPlace, Tryd.runUnderlying76, Tryd.sizeOf59]
theorem fa76_7 (a : Addr) (w : World) : (Instr.fieldAt 76 (.pointer (some a)) 7).run Tryd.prog w = .ok (.pointer (some (a.add 523))) w := by
  simp [Instr.fieldAt, Instr.sureAddr, fieldPlace, Tryd.runUnderlying76, Tryd.sizeOf4]
theorem fa87_0 (a : Addr) (w : World) : (Instr.fieldAt 87 (.pointer (some a)) 0).run Tryd.prog w = .ok (.pointer (some (a.add 0))) w := by
  simp [Instr.fieldAt, Instr.sureAddr, fieldPlace, Tryd.runUnderlying87, Tryd.sizeOf22]
theorem fa87_1 (a : Addr) (w : World) : (Instr.fieldAt 87 (.pointer (some a)) 1).run Tryd.prog w = .ok (.pointer (some (a.add 1))) w := by
  simp [Instr.fieldAt, Instr.sureAddr, fieldPlace, Tryd.runUnderlying87, Tryd.sizeOf39]
theorem fa87_2 (a : Addr) (w : World) : (Instr.fieldAt 87 (.pointer (some a)) 2).run Tryd.prog w = .ok (.pointer (some (a.add 2))) w := by
  simp [Instr.fieldAt, Instr.sureAddr, fieldPlace, Tryd.runUnderlying87, Tryd.sizeOf3]
theorem fa95_0 (a : Addr) (w : World) : (Instr.fieldAt 95 (.pointer (some a)) 0).run Tryd.prog w = .ok (.pointer (some (a.add 0))) w := by
  simp [Instr.fieldAt, Instr.sureAddr, fieldPlace, Tryd.runUnderlying95, Tryd.sizeOf22]
theorem fa95_1 (a : Addr) (w : World) : (Instr.fieldAt 95 (.pointer (some a)) 1).run Tryd.prog w = .ok (.pointer (some (a.add 1))) w := by
  simp [Instr.fieldAt, Instr.sureAddr, fieldPlace, Tryd.runUnderlying95, Tryd.sizeOf2]
theorem fa95_2 (a : Addr) (w : World) : (Instr.fieldAt 95 (.pointer (some a)) 2).run Tryd.prog w = .ok (.pointer (some (a.add 2))) w := by
  simp [Instr.fieldAt, Instr.sureAddr, fieldPlace, Tryd.runUnderlying95, Tryd.sizeOf3]
theorem fa103_1 (a : Addr) (w : World) : (Instr.fieldAt 103 (.pointer (some a)) 1).run Tryd.prog w = .ok (.pointer (some (a.add 1))) w := by
  simp [Instr.fieldAt, Instr.sureAddr, fieldPlace, Tryd.runUnderlying103, Tryd.sizeOf22]
theorem fa103_2 (a : Addr) (w : World) : (Instr.fieldAt 103 (.pointer (some a)) 2).run Tryd.prog w = .ok (.pointer (some (a.add 2))) w := by
  simp [Instr.fieldAt, Instr.sureAddr, fieldPlace, Tryd.runUnderlying103, Tryd.sizeOf101]
theorem fa103_3 (a : Addr) (w : World) : (Instr.fieldAt 103 (.pointer (some a)) 3).run Tryd.prog w = .ok (.pointer (some (a.add 3))) w := by
  simp [Instr.fieldAt, Instr.sureAddr, fieldPlace, Tryd.runUnderlying103, Tryd.sizeOf39]
theorem fa144_0 (a : Addr) (w : World) : (Instr.fieldAt 144 (.pointer (some a)) 0).run Tryd.prog w = .ok (.pointer (some (a.add 0))) w := by
  simp [Instr.fieldAt, Instr.sureAddr, fieldPlace, Tryd.runUnderlying144, Tryd.sizeOf3]
theorem fa144_1 (a : Addr) (w : World) : (Instr.fieldAt 144 (.pointer (some a)) 1).run Tryd.prog w = .ok (.pointer (some (a.add 1))) w := by
  simp [Instr.fieldAt, Instr.sureAddr, fieldPlace, Tryd.runUnderlying144, Tryd.sizeOf141]
theorem fa144_2 (a : Addr) (w : World) : (Instr.fieldAt 144 (.pointer (some a)) 2).run Tryd.prog w = .ok (.pointer (some (a.add 513))) w := by
  simp [Instr.fieldAt, Instr.sureAddr, fieldPlace, Tryd.runUnderlying144, Tryd.sizeOf142]
theorem fa144_3 (a : Addr) (w : World) : (Instr.fieldAt 144 (.pointer (some a)) 3).run Tryd.prog w = .ok (.pointer (some (a.add 514))) w := by
  simp [Instr.fieldAt, Instr.sureAddr, fieldPlace, Tryd.runUnderlying144, Tryd.sizeOf52]
theorem fa148_0 (a : Addr) (w : World) : (Instr.fieldAt 148 (.pointer (some a)) 0).run Tryd.prog w = .ok (.pointer (some (a.add 0))) w := by
  simp [Instr.fieldAt, Instr.sureAddr, fieldPlace, Tryd.runUnderlying148, Tryd.sizeOf22]
theorem fa148_1 (a : Addr) (w : World) : (Instr.fieldAt 148 (.pointer (some a)) 1).run Tryd.prog w = .ok (.pointer (some (a.add 1))) w := by
  simp [Instr.fieldAt, Instr.sureAddr, fieldPlace, Tryd.runUnderlying148, Tryd.sizeOf3]
theorem fa148_2 (a : Addr) (w : World) : (Instr.fieldAt 148 (.pointer (some a)) 2).run Tryd.prog w = .ok (.pointer (some (a.add 2))) w := by
  simp [Instr.fieldAt, Instr.sureAddr, fieldPlace, Tryd.runUnderlying148, Tryd.sizeOf3]
theorem fa148_3 (a : Addr) (w : World) : (Instr.fieldAt 148 (.pointer (some a)) 3).run Tryd.prog w = .ok (.pointer (some (a.add 3))) w := by
  simp [Instr.fieldAt, Instr.sureAddr, fieldPlace, Tryd.runUnderlying148, Tryd.sizeOf4]
theorem fa153_0 (a : Addr) (w : World) : (Instr.fieldAt 153 (.pointer (some a)) 0).run Tryd.prog w = .ok (.pointer (some (a.add 0))) w := by
  simp [Instr.fieldAt, Instr.sureAddr, fieldPlace, Tryd.runUnderlying153, Tryd.sizeOf71]
theorem fa153_1 (a : Addr) (w : World) : (Instr.fieldAt 153 (.pointer (some a)) 1).run Tryd.prog w = .ok (.pointer (some (a.add 1))) w := by
  simp [Instr.fieldAt, Instr.sureAddr, fieldPlace, Tryd.runUnderlying153, Tryd.sizeOf112]
theorem fa153_2 (a : Addr) (w : World) : (Instr.fieldAt 153 (.pointer (some a)) 2).run Tryd.prog w = .ok (.pointer (some (a.add 2))) w := by
  simp [Instr.fieldAt, Instr.sureAddr, fieldPlace, Tryd.runUnderlying153, Tryd.sizeOf2]
theorem fa153_3 (a : Addr) (w : World) : (Instr.fieldAt 153 (.pointer (some a)) 3).run Tryd.prog w = .ok (.pointer (some (a.add 3))) w := by
  simp [Instr.fieldAt, Instr.sureAddr, fieldPlace, Tryd.runUnderlying153, Tryd.sizeOf52]
theorem fa153_4 (a : Addr) (w : World) : (Instr.fieldAt 153 (.pointer (some a)) 4).run Tryd.prog w = .ok (.pointer (some (a.add 4))) w := by
  simp [Instr.fieldAt, Instr.sureAddr, fieldPlace, Tryd.runUnderlying153, Tryd.sizeOf92]
theorem fa153_5 (a : Addr) (w : World) : (Instr.fieldAt 153 (.pointer (some a)) 5).run Tryd.prog w = .ok (.pointer (some (a.add 5))) w := by
  simp [Instr.fieldAt, Instr.sureAddr, fieldPlace, Tryd.runUnderlying153, Tryd.sizeOf144]
theorem fa153_6 (a : Addr) (w : World) : (Instr.fieldAt 153 (.pointer (some a)) 6).run Tryd.prog w = .ok (.pointer (some (a.add 520))) w := by
  simp [Instr.fieldAt, Instr.sureAddr, fieldPlace, Tryd.runUnderlying153, Tryd.sizeOf144]
theorem fa153_7 (a : Addr) (w : World) : (Instr.fieldAt 153 (.pointer (some a)) 7).run Tryd.prog w = .ok (.pointer (some (a.add 1035))) w := by
  simp [Instr.fieldAt, Instr.sureAddr, fieldPlace, Tryd.runUnderlying153, Tryd.sizeOf145]
theorem fa153_8 (a : Addr) (w : World) : (Instr.fieldAt 153 (.pointer (some a)) 8).run Tryd.prog w = .ok (.pointer (some (a.add 1036))) w := by
  simp [Instr.fieldAt, Instr.sureAddr, fieldPlace, Tryd.runUnderlying153, Tryd.sizeOf146]
theorem fa153_9 (a : Addr) (w : World) : (Instr.fieldAt 153 (.pointer (some a)) 9).run Tryd.prog w = .ok (.pointer (some (a.add 1037))) w := by
  simp [Instr.fieldAt, Instr.sureAddr, fieldPlace, Tryd.runUnderlying153, Tryd.sizeOf148]
theorem fa153_10 (a : Addr) (w : World) : (Instr.fieldAt 153 (.pointer (some a)) 10).run Tryd.prog w = .ok (.pointer (some (a.add 1041))) w := by
  simp [Instr.fieldAt, Instr.sureAddr, fieldPlace, Tryd.runUnderlying153, Tryd.sizeOf149]
theorem fa153_11 (a : Addr) (w : World) : (Instr.fieldAt 153 (.pointer (some a)) 11).run Tryd.prog w = .ok (.pointer (some (a.add 1045))) w := by
  simp [Instr.fieldAt, Instr.sureAddr, fieldPlace, Tryd.runUnderlying153, Tryd.sizeOf150]
theorem fa153_12 (a : Addr) (w : World) : (Instr.fieldAt 153 (.pointer (some a)) 12).run Tryd.prog w = .ok (.pointer (some (a.add 1046))) w := by
  simp [Instr.fieldAt, Instr.sureAddr, fieldPlace, Tryd.runUnderlying153, Tryd.sizeOf3]
theorem fa153_13 (a : Addr) (w : World) : (Instr.fieldAt 153 (.pointer (some a)) 13).run Tryd.prog w = .ok (.pointer (some (a.add 1047))) w := by
  simp [Instr.fieldAt, Instr.sureAddr, fieldPlace, Tryd.runUnderlying153, Tryd.sizeOf4]
theorem fa153_14 (a : Addr) (w : World) : (Instr.fieldAt 153 (.pointer (some a)) 14).run Tryd.prog w = .ok (.pointer (some (a.add 1048))) w := by
  simp [Instr.fieldAt, Instr.sureAddr, fieldPlace, Tryd.runUnderlying153, Tryd.sizeOf59]
theorem fa153_15 (a : Addr) (w : World) : (Instr.fieldAt 153 (.pointer (some a)) 15).run Tryd.prog w = .ok (.pointer (some (a.add 1049))) w := by
  simp [Instr.fieldAt, Instr.sureAddr, fieldPlace, Tryd.runUnderlying153, Tryd.sizeOf22]
theorem fa153_16 (a : Addr) (w : World) : (Instr.fieldAt 153 (.pointer (some a)) 16).run Tryd.prog w = .ok (.pointer (some (a.add 1050))) w := by
  simp [Instr.fieldAt, Instr.sureAddr, fieldPlace, Tryd.runUnderlying153, Tryd.sizeOf151]
theorem fa153_17 (a : Addr) (w : World) : (Instr.fieldAt 153 (.pointer (some a)) 17).run Tryd.prog w = .ok (.pointer (some (a.add 1051))) w := by
  simp [Instr.fieldAt, Instr.sureAddr, fieldPlace, Tryd.runUnderlying153, Tryd.sizeOf151]
theorem fa153_18 (a : Addr) (w : World) : (Instr.fieldAt 153 (.pointer (some a)) 18).run Tryd.prog w = .ok (.pointer (some (a.add 1052))) w := by
  simp [Instr.fieldAt, Instr.sureAddr, fieldPlace, Tryd.runUnderlying153, Tryd.sizeOf3]
theorem fa153_19 (a : Addr) (w : World) : (Instr.fieldAt 153 (.pointer (some a)) 19).run Tryd.prog w = .ok (.pointer (some (a.add 1053))) w := by
  simp [Instr.fieldAt, Instr.sureAddr, fieldPlace, Tryd.runUnderlying153, Tryd.sizeOf3]
theorem fa161_0 (a : Addr) (w : World) : (Instr.fieldAt 161 (.pointer (some a)) 0).run Tryd.prog w = .ok (.pointer (some (a.add 0))) w := by
  simp [Instr.fieldAt, Instr.sureAddr, fieldPlace, Tryd.runUnderlying161, Tryd.sizeOf22]
theorem fa161_1 (a : Addr) (w : World) : (Instr.fieldAt 161 (.pointer (some a)) 1).run Tryd.prog w = .ok (.pointer (some (a.add 1))) w := by
  simp [Instr.fieldAt, Instr.sureAddr, fieldPlace, Tryd.runUnderlying161, Tryd.sizeOf97]
theorem fa161_2 (a : Addr) (w : World) : (Instr.fieldAt 161 (.pointer (some a)) 2).run Tryd.prog w = .ok (.pointer (some (a.add 2))) w := by
  simp [Instr.fieldAt, Instr.sureAddr, fieldPlace, Tryd.runUnderlying161, Tryd.sizeOf3]
theorem fa161_3 (a : Addr) (w : World) : (Instr.fieldAt 161 (.pointer (some a)) 3).run Tryd.prog w = .ok (.pointer (some (a.add 3))) w := by
  simp [Instr.fieldAt, Instr.sureAddr, fieldPlace, Tryd.runUnderlying161, Tryd.sizeOf3]
theorem fa161_4 (a : Addr) (w : World) : (Instr.fieldAt 161 (.pointer (some a)) 4).run Tryd.prog w = .ok (.pointer (some (a.add 4))) w := by
  simp [Instr.fieldAt, Instr.sureAddr, fieldPlace, Tryd.runUnderlying161, Tryd.sizeOf59]
theorem fa161_5 (a : Addr) (w : World) : (Instr.fieldAt 161 (.pointer (some a)) 5).run Tryd.prog w = .ok (.pointer (some (a.add 5))) w := by
  simp [Instr.fieldAt, Instr.sureAddr, fieldPlace, Tryd.runUnderlying161, Tryd.sizeOf3]
theorem fa161_6 (a : Addr) (w : World) : (Instr.fieldAt 161 (.pointer (some a)) 6).run Tryd.prog w = .ok (.pointer (some (a.add 6))) w := by
  simp [Instr.fieldAt, Instr.sureAddr, fieldPlace, Tryd.runUnderlying161, Tryd.sizeOf3]
theorem conc9 : Tryd.prog.concrete 9 = true := by simp [Program.concrete, Tryd.underlying9]
theorem conc54 : Tryd.prog.concrete 54 = true := by simp [Program.concrete, Tryd.underlying54]
theorem conc85 : Tryd.prog.concrete 85 = true := by simp [Program.concrete, Tryd.underlying85]
theorem conc99 : Tryd.prog.concrete 99 = true := by simp [Program.concrete, Tryd.underlying99]
theorem conc112 : Tryd.prog.concrete 112 = true := by simp [Program.concrete, Tryd.underlying112]
theorem conc157 : Tryd.prog.concrete 157 = true := by simp [Program.concrete, Tryd.underlying157]
theorem conc165 : Tryd.prog.concrete 165 = true := by simp [Program.concrete, Tryd.underlying165]
theorem conc174 : Tryd.prog.concrete 174 = true := by simp [Program.concrete, Tryd.underlying174]
theorem conc179 : Tryd.prog.concrete 179 = true := by simp [Program.concrete, Tryd.underlying179]
end Go.Eng
