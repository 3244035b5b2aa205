/-
  Texts of this proof, merged: WEq, WWak, WUp2, WLaw9, Frame, FrameD, FrameI, FrameG, FrameW.
-/
import Derived.Test.YtbjbmpcgiokdaaaDoorMr6
import Derived.Lib.SlBytesConst
import Derived.Test.YtbjbmpcgiokdaaaDoorMr2
import Derived.Test.YtbjbmpcgiokdaaaDoorMr1
import Derived.Test.YtbjbmpcgiokdaaaDoorRows
import Derived.WalkKit
import Derived.ProofKit
import Derived.LaidLaws
import Derived.ChangeSlices
import Derived.Deep.DeepHandedRow
import Derived.OpenShut
import Derived.Carry
import Derived.Test.YtbjbmpcgiokdaaaDoorCards
import Derived.Test.YtbjbmpcgiokdaaaDoorTie
import Derived.Deep.DeepWitnessRowRef
set_option linter.unusedVariables false
set_option linter.unusedSimpArgs false
namespace Go.Eng
open Go Go.Proofs
set_option maxRecDepth 100000


section
variable {P : Program} {H0 : Known} {n : Nat} {ops : Array Oper} {ds : List Nat}
/-- A guarded operation that only reads, whose guard says yes. -/
theorem O.yesS {i j d : Nat} {b : Bool} {op : Op} {ty : TypeId} {pos : String} {af : Array Edge} {r : Plan} {env : Env} {L : Frags} {N : Post} {v : Value} (t : Nat)
    (hi : ops[i]? = some ⟨some d, op, ty, pos, af, some (j, b)⟩) (ht : (ops[j]?).bind (·.dst) = some t) (hv : get? env t = some (.bool b))
    (h : OpS P H0 n op ty env L v) (hd : Nat.blt d n = true) (k : wpD P H0 n ops ds r ((d, v) :: env) L N) : wpO P H0 n ops ds i r env L N :=
  O.yes t hi ht hv (R := fun u L' => u = v ∧ L' = L) (fun a w hf hw => by rw [h a w hf hw]; exact ⟨L, ⟨rfl, rfl⟩, To.refl hw⟩) hd (by rintro u L' ⟨rfl, rfl⟩; exact k)
end
/-- A slice that reads as bytes. -/
def RB (K : Known) (L : Frags) (a : Option Addr) (l : List UInt8) : Prop := l = [] ∨ ∃ b o, a = some ⟨b, o, none⟩ ∧ Reads K L b o (bytesV l)

theorem str_toList (l : List UInt8) : (ByteArray.mk l.toArray).toList = l := by
  rw [ByteArray.toList_eq]
theorem str_beq (l m : List UInt8) : ((ByteArray.mk l.toArray).toList == (ByteArray.mk m.toArray).toList) = decide (l = m) := by
  rw [str_toList, str_toList]
  by_cases h : l = m
  · subst h; simp
  · simp [h]

theorem bytesEqual_known {K : Known} (a1 a2 : Option Addr) (c1 c2 : Nat) (l1 l2 : List UInt8) (h1 : RB K [] a1 l1) (h2 : RB K [] a2 l2) : Fn Tryd.prog K 29 #[.slice a1 l1.length c1, .slice a2 l2.length c2] ([]) (fun v _ => v = .bool (decide (l1 = l2))) := by
 refine Fn.intro (args := [.slice a1 l1.length c1, .slice a2 l2.length c2]) (RR := Ret1 4 _) Tryd.func29 rfl rfl Tryd.ntmps29 (res1 Tryd.results29) ?_
 refine C.reenv (env2 := [(0, .slice a1 l1.length c1), (1, .slice a2 l2.length c2)]) rfl ?_
 refine C.seq ?_
 refine C.region ?_
 refine E.pure (S.assign rfl) rfl ?_
 refine E.keep [0, 1, 4] (env1 := [(0, _), (1, _), (4, _)]) rfl ?_
 refine C.seq ?_
 refine C.region ?_
 refine E.pure (S.move rfl) rfl ?_
 refine E.still (S.bytesStr (l := l1) Tryd.underlying22 Tryd.underlying5 Tryd.underlying9 rfl h1) rfl ?_
 refine E.pure (S.move rfl) rfl ?_
 refine E.still (S.bytesStr (l := l2) Tryd.underlying22 Tryd.underlying5 Tryd.underlying9 rfl h2) rfl ?_
 refine E.pure (S.eqStr rfl rfl) rfl ?_
 refine E.pure (S.assign rfl) rfl ?_
 refine E.keep [4] (env1 := [(4, _)]) rfl ?_
 refine C.ret ?_
 exact ⟨_, rfl, by first | (rw [← str_beq]; done) | (rw [← str_beq]; rfl)⟩
theorem RB.still {K : Known} {L : Frags} {a : Option Addr} {l : List UInt8} (h : RB K L a l) {w : World} (hw : Agree K L w.heap) : RB (fun b => w.heap[b]?) [] a l := by
  rcases h with h | ⟨b, o, h1, h2⟩
  · exact .inl h
  · exact .inr ⟨b, o, h1, (h2.kb hw).reads⟩
theorem RB.lift {K : Known} {L : Frags} {a : Option Addr} {l : List UInt8} (h : RB K [] a l) : RB K L a l := by
  rcases h with h | ⟨b, o, h1, h2⟩
  · exact .inl h
  · exact .inr ⟨b, o, h1, fun w hw => h2 w ⟨hw.base, (fun f hf => by cases hf), (fun f hf => by cases hf), List.Pairwise.nil⟩⟩

theorem bytesEqual_spec {K : Known} {L : Frags} (a1 a2 : Option Addr) (c1 c2 : Nat) (l1 l2 : List UInt8) (h1 : RB K L a1 l1) (h2 : RB K L a2 l2) :
    Fn Tryd.prog K 29 #[.slice a1 l1.length c1, .slice a2 l2.length c2] L (fun v L' => v = .bool (decide (l1 = l2)) ∧ L' = L) :=
  Fn.stillR fun w hw => bytesEqual_known a1 a2 c1 c2 l1 l2 (h1.still hw) (h2.still hw)

theorem text_beq (s u : ByteArray) : (s.toList == u.toList) = decide (s = u) := by
  rw [ByteArray.toList_eq, ByteArray.toList_eq]
  by_cases h : s = u
  · subst h; simp
  · have : s.data.toList ≠ u.data.toList := fun e => h (by
      cases s with | mk x => cases u with | mk y => exact congrArg ByteArray.mk (Array.ext' e))
    rw [decide_eq_false h]; exact beq_false_of_ne this

theorem same_known {K : Known} (n1 n2 c1 c2 : ByteArray) (a1 a2 : Option Addr) (k1 k2 : Nat) (l1 l2 : List UInt8) (m1 m2 o1 o2 : Nat) (h1 : RB K [] a1 l1) (h2 : RB K [] a2 l2) : Fn Tryd.prog K 11 #[.agg #[.string n1, .string c1, .slice a1 l1.length k1, .int .i64 ((m1 : Nat) : Int), .int .u8 ((o1 : Nat) : Int)], .agg #[.string n2, .string c2, .slice a2 l2.length k2, .int .i64 ((m2 : Nat) : Int), .int .u8 ((o2 : Nat) : Int)]] ([]) (fun v _ => v = .bool (decide (n1 = n2 ∧ c1 = c2 ∧ l1 = l2 ∧ m1 = m2 ∧ o1 = o2))) := by
 refine Fn.intro (args := [.agg #[.string n1, .string c1, .slice a1 l1.length k1, .int .i64 ((m1 : Nat) : Int), .int .u8 ((o1 : Nat) : Int)], .agg #[.string n2, .string c2, .slice a2 l2.length k2, .int .i64 ((m2 : Nat) : Int), .int .u8 ((o2 : Nat) : Int)]]) (RR := Ret1 4 _) Tryd.func11 rfl rfl Tryd.ntmps11 (res1 Tryd.results11) ?_
 refine C.reenv (env2 := [(0, .agg #[.string n1, .string c1, .slice a1 l1.length k1, .int .i64 ((m1 : Nat) : Int), .int .u8 ((o1 : Nat) : Int)]), (1, .agg #[.string n2, .string c2, .slice a2 l2.length k2, .int .i64 ((m2 : Nat) : Int), .int .u8 ((o2 : Nat) : Int)])]) rfl ?_
 refine C.seq ?_
 refine C.region ?_
 refine E.loud1 (X.box rfl) rfl ?_; rintro _ _ ⟨b2, rfl, rfl⟩; refine E.relist (L2 := [_]) rfl ?_
 refine E.loud1 (X.box rfl) rfl ?_; rintro _ _ ⟨b3, rfl, rfl⟩; refine E.relist (L2 := [_, _]) rfl ?_
 refine E.pure (S.assign rfl) rfl ?_
 refine E.keep [2, 3, 4] (env1 := [(2, _), (3, _), (4, _)]) rfl ?_
 refine C.seq ?_
 refine C.region ?_
 refine E.pure (S.field rfl fa27_0) rfl ?_
 refine E.still (S.load 1 (k := 0) rfl rfl rfl Tryd.isAgg9) rfl ?_
 refine E.pure (S.field rfl fa24_0) rfl ?_
 refine E.still (S.load 0 (k := 0) rfl rfl rfl Tryd.isAgg9) rfl ?_
 refine E.pure (S.eqStr rfl rfl) rfl ?_
 refine E.reslot (v := .bool (decide (n1 = n2))) (congrArg Value.bool (text_beq n1 n2)) ?_
 refine E.pure (S.move rfl) rfl ?_
 refine E.fork (fun g10 => ?_) (fun g10 => ?_)
 ·
  refine E.wanted 10 rfl rfl ?_
  refine E.pure (S.field rfl fa27_1) rfl ?_
  refine E.wanted 10 rfl rfl ?_
  refine E.still (S.load 1 (k := 1) rfl rfl rfl Tryd.isAgg9) rfl ?_
  refine E.wanted 10 rfl rfl ?_
  refine E.pure (S.field rfl fa24_1) rfl ?_
  refine E.wanted 10 rfl rfl ?_
  refine E.still (S.load 0 (k := 1) rfl rfl rfl Tryd.isAgg9) rfl ?_
  refine E.wanted 10 rfl rfl ?_
  refine E.pure (S.eqStr rfl rfl) rfl ?_
  refine E.reslot (v := .bool (decide (c1 = c2))) (congrArg Value.bool (text_beq c1 c2)) ?_
  refine E.pure (S.pickT rfl rfl) rfl ?_
  refine E.pure (S.move rfl) rfl ?_
  refine E.fork (fun g17 => ?_) (fun g17 => ?_)
  ·
   refine E.wanted 17 rfl rfl ?_
   refine E.pure (S.field rfl fa27_2) rfl ?_
   refine E.wanted 17 rfl rfl ?_
   refine E.still (S.load 1 (k := 2) rfl rfl rfl Tryd.isAgg22) rfl ?_
   refine E.wanted 17 rfl rfl ?_
   refine E.pure (S.field rfl fa24_2) rfl ?_
   refine E.wanted 17 rfl rfl ?_
   refine E.still (S.load 0 (k := 2) rfl rfl rfl Tryd.isAgg22) rfl ?_
   refine E.wanted 17 rfl rfl ?_
   refine E.loud1 (X.call rfl Tryd.call29 (bytesEqual_spec a1 a2 k1 k2 l1 l2 h1.lift h2.lift)) rfl ?_; rintro _ _ ⟨rfl, rfl⟩; refine E.relist (L2 := [_, _]) rfl ?_
   refine E.pure (S.pickT rfl rfl) rfl ?_
   refine E.pure (S.move rfl) rfl ?_
   refine E.fork (fun g24 => ?_) (fun g24 => ?_)
   ·
    refine E.wanted 24 rfl rfl ?_
    refine E.pure (S.field rfl fa27_3) rfl ?_
    refine E.wanted 24 rfl rfl ?_
    refine E.still (S.load 1 (k := 3) rfl rfl rfl Tryd.isAgg2) rfl ?_
    refine E.wanted 24 rfl rfl ?_
    refine E.pure (S.field rfl fa24_3) rfl ?_
    refine E.wanted 24 rfl rfl ?_
    refine E.still (S.load 0 (k := 3) rfl rfl rfl Tryd.isAgg2) rfl ?_
    refine E.wanted 24 rfl rfl ?_
    refine E.pure (S.eq rfl rfl) rfl ?_
    refine E.pure (S.pickT rfl rfl) rfl ?_
    refine E.pure (S.move rfl) rfl ?_
    refine E.fork (fun g31 => ?_) (fun g31 => ?_)
    ·
     refine E.wanted 31 rfl rfl ?_
     refine E.pure (S.field rfl fa27_4) rfl ?_
     refine E.wanted 31 rfl rfl ?_
     refine E.still (S.load 1 (k := 4) rfl rfl rfl Tryd.isAgg5) rfl ?_
     refine E.wanted 31 rfl rfl ?_
     refine E.pure (S.field rfl fa24_4) rfl ?_
     refine E.wanted 31 rfl rfl ?_
     refine E.still (S.load 0 (k := 4) rfl rfl rfl Tryd.isAgg5) rfl ?_
     refine E.wanted 31 rfl rfl ?_
     refine E.pure (S.eq rfl rfl) rfl ?_
     refine E.pure (S.pickT rfl rfl) rfl ?_
     refine E.pure (S.assign rfl) rfl ?_
     refine E.keep [2, 3, 4] (env1 := [(2, _), (3, _), (4, _)]) rfl ?_
     refine C.ret ?_
     refine ⟨_, rfl, ?_⟩
     exact congrArg Value.bool (decide_eq_decide.2 ⟨fun h => ⟨g10, g17, g24, by omega, by omega⟩, fun h => by have := h.2.2.2.2; omega⟩)
    ·
     refine E.guardNo 31 false rfl rfl rfl rfl ?_
     refine E.guardNo 31 false rfl rfl rfl rfl ?_
     refine E.guardNo 31 false rfl rfl rfl rfl ?_
     refine E.guardNo 31 false rfl rfl rfl rfl ?_
     refine E.guardNo 31 false rfl rfl rfl rfl ?_
     refine E.pure (S.pickF rfl rfl) rfl ?_
     refine E.pure (S.assign rfl) rfl ?_
     refine E.keep [2, 3, 4] (env1 := [(2, _), (3, _), (4, _)]) rfl ?_
     refine C.ret ?_
     refine ⟨_, rfl, ?_⟩
     exact congrArg Value.bool (decide_eq_false (fun h => g31 (by have := h.2.2.2.1; omega))).symm
   ·
    refine E.guardNo 24 false rfl rfl rfl rfl ?_
    refine E.guardNo 24 false rfl rfl rfl rfl ?_
    refine E.guardNo 24 false rfl rfl rfl rfl ?_
    refine E.guardNo 24 false rfl rfl rfl rfl ?_
    refine E.guardNo 24 false rfl rfl rfl rfl ?_
    refine E.pure (S.pickF rfl rfl) rfl ?_
    refine E.pure (S.move rfl) rfl ?_
    refine E.guardNo 31 false rfl rfl rfl rfl ?_
    refine E.guardNo 31 false rfl rfl rfl rfl ?_
    refine E.guardNo 31 false rfl rfl rfl rfl ?_
    refine E.guardNo 31 false rfl rfl rfl rfl ?_
    refine E.guardNo 31 false rfl rfl rfl rfl ?_
    refine E.pure (S.pickF rfl rfl) rfl ?_
    refine E.pure (S.assign rfl) rfl ?_
    refine E.keep [2, 3, 4] (env1 := [(2, _), (3, _), (4, _)]) rfl ?_
    refine C.ret ?_
    refine ⟨_, rfl, ?_⟩
    exact congrArg Value.bool (decide_eq_false (fun h => g24 h.2.2.1)).symm
  ·
   refine E.guardNo 17 false rfl rfl rfl rfl ?_
   refine E.guardNo 17 false rfl rfl rfl rfl ?_
   refine E.guardNo 17 false rfl rfl rfl rfl ?_
   refine E.guardNo 17 false rfl rfl rfl rfl ?_
   refine E.guardNo 17 false rfl rfl rfl rfl ?_
   refine E.pure (S.pickF rfl rfl) rfl ?_
   refine E.pure (S.move rfl) rfl ?_
   refine E.guardNo 24 false rfl rfl rfl rfl ?_
   refine E.guardNo 24 false rfl rfl rfl rfl ?_
   refine E.guardNo 24 false rfl rfl rfl rfl ?_
   refine E.guardNo 24 false rfl rfl rfl rfl ?_
   refine E.guardNo 24 false rfl rfl rfl rfl ?_
   refine E.pure (S.pickF rfl rfl) rfl ?_
   refine E.pure (S.move rfl) rfl ?_
   refine E.guardNo 31 false rfl rfl rfl rfl ?_
   refine E.guardNo 31 false rfl rfl rfl rfl ?_
   refine E.guardNo 31 false rfl rfl rfl rfl ?_
   refine E.guardNo 31 false rfl rfl rfl rfl ?_
   refine E.guardNo 31 false rfl rfl rfl rfl ?_
   refine E.pure (S.pickF rfl rfl) rfl ?_
   refine E.pure (S.assign rfl) rfl ?_
   refine E.keep [2, 3, 4] (env1 := [(2, _), (3, _), (4, _)]) rfl ?_
   refine C.ret ?_
   refine ⟨_, rfl, ?_⟩
   exact congrArg Value.bool (decide_eq_false (fun h => g17 h.2.1)).symm
 ·
  refine E.guardNo 10 false rfl rfl rfl rfl ?_
  refine E.guardNo 10 false rfl rfl rfl rfl ?_
  refine E.guardNo 10 false rfl rfl rfl rfl ?_
  refine E.guardNo 10 false rfl rfl rfl rfl ?_
  refine E.guardNo 10 false rfl rfl rfl rfl ?_
  refine E.pure (S.pickF rfl rfl) rfl ?_
  refine E.pure (S.move rfl) rfl ?_
  refine E.guardNo 17 false rfl rfl rfl rfl ?_
  refine E.guardNo 17 false rfl rfl rfl rfl ?_
  refine E.guardNo 17 false rfl rfl rfl rfl ?_
  refine E.guardNo 17 false rfl rfl rfl rfl ?_
  refine E.guardNo 17 false rfl rfl rfl rfl ?_
  refine E.pure (S.pickF rfl rfl) rfl ?_
  refine E.pure (S.move rfl) rfl ?_
  refine E.guardNo 24 false rfl rfl rfl rfl ?_
  refine E.guardNo 24 false rfl rfl rfl rfl ?_
  refine E.guardNo 24 false rfl rfl rfl rfl ?_
  refine E.guardNo 24 false rfl rfl rfl rfl ?_
  refine E.guardNo 24 false rfl rfl rfl rfl ?_
  refine E.pure (S.pickF rfl rfl) rfl ?_
  refine E.pure (S.move rfl) rfl ?_
  refine E.guardNo 31 false rfl rfl rfl rfl ?_
  refine E.guardNo 31 false rfl rfl rfl rfl ?_
  refine E.guardNo 31 false rfl rfl rfl rfl ?_
  refine E.guardNo 31 false rfl rfl rfl rfl ?_
  refine E.guardNo 31 false rfl rfl rfl rfl ?_
  refine E.pure (S.pickF rfl rfl) rfl ?_
  refine E.pure (S.assign rfl) rfl ?_
  refine E.keep [2, 3, 4] (env1 := [(2, _), (3, _), (4, _)]) rfl ?_
  refine C.ret ?_
  refine ⟨_, rfl, ?_⟩
  exact congrArg Value.bool (decide_eq_false (fun h => g10 h.1)).symm
theorem same_spec {K : Known} {L : Frags} (n1 n2 c1 c2 : ByteArray) (a1 a2 : Option Addr) (k1 k2 : Nat) (l1 l2 : List UInt8) (m1 m2 o1 o2 : Nat) (h1 : RB K L a1 l1) (h2 : RB K L a2 l2) :
    Fn Tryd.prog K 11 #[.agg #[.string n1, .string c1, .slice a1 l1.length k1, .int .i64 ((m1 : Nat) : Int), .int .u8 ((o1 : Nat) : Int)], .agg #[.string n2, .string c2, .slice a2 l2.length k2, .int .i64 ((m2 : Nat) : Int), .int .u8 ((o2 : Nat) : Int)]] L (fun v L' => v = .bool (decide (n1 = n2 ∧ c1 = c2 ∧ l1 = l2 ∧ m1 = m2 ∧ o1 = o2)) ∧ L' = L) :=
  Fn.stillR fun w hw => same_known n1 n2 c1 c2 a1 a2 k1 k2 l1 l2 m1 m2 o1 o2 (h1.still hw) (h2.still hw)


theorem told_walk {K : Known} (n1 c1 : ByteArray) (ea : Option Addr) (en ek : Nat) (m1 o1 : Nat) : Fn Tryd.prog K 34 #[.agg #[.string n1, .string c1, .slice ea en ek, .int .i64 ((m1 : Nat) : Int), .int .u8 ((o1 : Nat) : Int)]] ([]) (fun r L => r = .agg #[.string n1, .string c1, .slice ea en ek, .int .i64 ((m1 : Nat) : Int), .int .u8 ((o1 : Nat) : Int)]) := by
 refine Fn.intro (args := [.agg #[.string n1, .string c1, .slice ea en ek, .int .i64 ((m1 : Nat) : Int), .int .u8 ((o1 : Nat) : Int)]]) (RR := RetC 2 5  _) Tryd.func34 rfl rfl Tryd.ntmps34 (resC Tryd.results34 Tryd.isAgg24 Tryd.sizeOf24) ?_
 refine C.reenv (env2 := [(0, .agg #[.string n1, .string c1, .slice ea en ek, .int .i64 ((m1 : Nat) : Int), .int .u8 ((o1 : Nat) : Int)])]) rfl ?_
 refine C.seq ?_
 refine C.region ?_
 refine E.loud1 (X.box rfl) rfl ?_; rintro _ _ ⟨b1, rfl, rfl⟩; refine E.relist (L2 := [_]) rfl ?_
 refine E.loud1 (X.alloc Tryd.zeroValue24) rfl ?_; rintro _ _ ⟨b2, rfl, rfl⟩; refine E.relist (L2 := [_, _]) rfl ?_
 refine E.keep [1, 2] (env1 := [(1, _), (2, _)]) rfl ?_
 refine C.seq ?_
 refine C.region ?_
 refine E.pure (S.field rfl fa27_0) rfl ?_
 refine E.still (S.load 1 (k := 0) rfl rfl rfl Tryd.isAgg9) rfl ?_
 refine E.pure (S.field rfl fa27_1) rfl ?_
 refine E.still (S.load 1 (k := 1) rfl rfl rfl Tryd.isAgg9) rfl ?_
 refine E.pure (S.field rfl fa27_2) rfl ?_
 refine E.still (S.load 1 (k := 2) rfl rfl rfl Tryd.isAgg22) rfl ?_
 refine E.pure (S.field rfl fa27_3) rfl ?_
 refine E.still (S.load 1 (k := 3) rfl rfl rfl Tryd.isAgg2) rfl ?_
 refine E.pure (S.field rfl fa27_4) rfl ?_
 refine E.still (S.load 1 (k := 4) rfl rfl rfl Tryd.isAgg5) rfl ?_
 refine E.pure (S.buildV (v := .agg #[.string n1, .string c1, .slice ea en ek, .int .i64 ((m1 : Nat) : Int), .int .u8 ((o1 : Nat) : Int)]) [(0, .string n1), (1, .string c1), (2, .slice ea en ek), (3, .int .i64 ((m1 : Nat) : Int)), (4, .int .u8 ((o1 : Nat) : Int))] rfl (fun w => by simp [Instr.build, Instr.fill, Value.cells, Tryd.zeroValue24])) rfl ?_
 refine E.loud0 (X.storeA 0 (k := 0) rfl rfl rfl rfl rfl rfl Tryd.sizeOf24 rfl) ?_; rintro _ _ ⟨rfl, rfl⟩; refine E.relist (L2 := [_, _]) rfl ?_
 refine E.keep [1, 2] (env1 := [(1, _), (2, _)]) rfl ?_
 refine C.ret ?_
 exact ⟨_, ⟨_, _, 0, rfl, rfl, rfl⟩, rfl⟩
theorem told_spec {K : Known} (n1 c1 : ByteArray) (ea : Option Addr) (en ek : Nat) (m1 o1 : Nat) (L : Frags) : Fn Tryd.prog K 34 #[.agg #[.string n1, .string c1, .slice ea en ek, .int .i64 ((m1 : Nat) : Int), .int .u8 ((o1 : Nat) : Int)]] L fun r L' => r = .agg #[.string n1, .string c1, .slice ea en ek, .int .i64 ((m1 : Nat) : Int), .int .u8 ((o1 : Nat) : Int)] ∧ L' = L := by
  refine Fn.lose (Fn.frame (L := []) (F := L) (told_walk n1 c1 ea en ek m1 o1)) ?_
  rintro v L' ⟨L1, rfl, rfl⟩
  exact ⟨L, L1, Same.perm List.perm_append_comm, rfl, rfl⟩

theorem alike_known {K : Known} (p e5 m o : Nat) (n c : ByteArray) (l y : List UInt8) (a1 a2 d1 d2 : Option Addr) (k1 k2 q1 q2 : Nat) (h1 : RB K [] a1 l) (h2 : RB K [] a2 l) (h3 : RB K [] d1 y) (h4 : RB K [] d2 y) : Fn Tryd.prog K 16 #[.agg #[.int .i64 ((p : Nat) : Int), .string n, .string c, .slice a1 l.length k1, .int .i64 ((m : Nat) : Int), .int .u8 ((o : Nat) : Int), .slice d1 y.length q1, .int .i64 ((e5 : Nat) : Int)], .agg #[.int .i64 ((p : Nat) : Int), .string n, .string c, .slice a2 l.length k2, .int .i64 ((m : Nat) : Int), .int .u8 ((o : Nat) : Int), .slice d2 y.length q2, .int .i64 ((e5 : Nat) : Int)]] ([]) (fun v _ => v = .bool true) := by
 refine Fn.intro (args := [.agg #[.int .i64 ((p : Nat) : Int), .string n, .string c, .slice a1 l.length k1, .int .i64 ((m : Nat) : Int), .int .u8 ((o : Nat) : Int), .slice d1 y.length q1, .int .i64 ((e5 : Nat) : Int)], .agg #[.int .i64 ((p : Nat) : Int), .string n, .string c, .slice a2 l.length k2, .int .i64 ((m : Nat) : Int), .int .u8 ((o : Nat) : Int), .slice d2 y.length q2, .int .i64 ((e5 : Nat) : Int)]]) (RR := Ret1 4 _) Tryd.func16 rfl rfl Tryd.ntmps16 (res1 Tryd.results16) ?_
 refine C.reenv (env2 := [(0, .agg #[.int .i64 ((p : Nat) : Int), .string n, .string c, .slice a1 l.length k1, .int .i64 ((m : Nat) : Int), .int .u8 ((o : Nat) : Int), .slice d1 y.length q1, .int .i64 ((e5 : Nat) : Int)]), (1, .agg #[.int .i64 ((p : Nat) : Int), .string n, .string c, .slice a2 l.length k2, .int .i64 ((m : Nat) : Int), .int .u8 ((o : Nat) : Int), .slice d2 y.length q2, .int .i64 ((e5 : Nat) : Int)])]) rfl ?_
 refine C.seq ?_
 refine C.region ?_
 refine E.loud1 (X.box rfl) rfl ?_; rintro _ _ ⟨b2, rfl, rfl⟩; refine E.relist (L2 := [_]) rfl ?_
 refine E.loud1 (X.box rfl) rfl ?_; rintro _ _ ⟨b3, rfl, rfl⟩; refine E.relist (L2 := [_, _]) rfl ?_
 refine E.pure (S.assign rfl) rfl ?_
 refine E.keep [2, 3, 4] (env1 := [(2, _), (3, _), (4, _)]) rfl ?_
 refine C.seq ?_
 refine C.draw [0, 1, 0, 4, 10, 16, 32, 96, 32, 288, 544, 1184, 2080, 6144, 8192, 24576, 8192, 73728, 172032, 270336, 786432, 1048576, 3145728, 1048576, 9437184, 22020096, 34603008, 134217727] (.pure 0 12 (.pure 2 3 (.alt 1 (.alt 3 (.pure 4 15 (.pure 5 31 (.pure 6 1855 (.pure 8 255 (.alt 7 (.seg [(9, 511)] (.alt 10 (.alt 11 (.pure 12 4095 (.pure 13 8191 (.pure 14 212991 (.pure 16 65535 (.seg [(15, 229375), (17, 131071)] (.alt 18 (.pure 19 524287 (.pure 20 1048575 (.pure 21 27262975 (.pure 23 8388607 (.seg [(22, 29360127), (24, 16777215), (25, 33554431), (26, 67108863), (27, 134217727)] .done))))) .stop)))))) .stop) .stop)) (.alt 9 (.alt 7 (.alt 10 (.alt 11 (.pure 12 4095 (.pure 13 8191 (.pure 14 212991 (.pure 16 65535 (.seg [(15, 229375), (17, 131071)] (.alt 18 (.pure 19 524287 (.pure 20 1048575 (.pure 21 27262975 (.pure 23 8388607 (.seg [(22, 29360127), (24, 16777215), (25, 33554431), (26, 67108863), (27, 134217727)] .done))))) .stop)))))) .stop) .stop) (.alt 10 (.seg [(7, 1919)] (.alt 11 (.pure 12 4095 (.pure 13 8191 (.pure 14 212991 (.pure 16 65535 (.seg [(15, 229375), (17, 131071)] (.alt 18 (.pure 19 524287 (.pure 20 1048575 (.pure 21 27262975 (.pure 23 8388607 (.seg [(22, 29360127), (24, 16777215), (25, 33554431), (26, 67108863), (27, 134217727)] .done))))) .stop)))))) .stop)) .stop)) .stop)))))) .stop) (.alt 3 (.alt 1 (.pure 4 15 (.pure 5 31 (.pure 6 1855 (.pure 8 255 (.alt 7 (.seg [(9, 511)] (.alt 10 (.alt 11 (.pure 12 4095 (.pure 13 8191 (.pure 14 212991 (.pure 16 65535 (.seg [(15, 229375), (17, 131071)] (.alt 18 (.pure 19 524287 (.pure 20 1048575 (.pure 21 27262975 (.pure 23 8388607 (.seg [(22, 29360127), (24, 16777215), (25, 33554431), (26, 67108863), (27, 134217727)] .done))))) .stop)))))) .stop) .stop)) (.alt 9 (.alt 7 (.alt 10 (.alt 11 (.pure 12 4095 (.pure 13 8191 (.pure 14 212991 (.pure 16 65535 (.seg [(15, 229375), (17, 131071)] (.alt 18 (.pure 19 524287 (.pure 20 1048575 (.pure 21 27262975 (.pure 23 8388607 (.seg [(22, 29360127), (24, 16777215), (25, 33554431), (26, 67108863), (27, 134217727)] .done))))) .stop)))))) .stop) .stop) (.alt 10 (.seg [(7, 1919)] (.alt 11 (.pure 12 4095 (.pure 13 8191 (.pure 14 212991 (.pure 16 65535 (.seg [(15, 229375), (17, 131071)] (.alt 18 (.pure 19 524287 (.pure 20 1048575 (.pure 21 27262975 (.pure 23 8388607 (.seg [(22, 29360127), (24, 16777215), (25, 33554431), (26, 67108863), (27, 134217727)] .done))))) .stop)))))) .stop)) .stop)) .stop)))))) .stop) .stop)))) mixed (by decide +kernel) ?_
 refine D.pure rfl (S.field rfl fa43_0) rfl ?_
 refine D.pure rfl (S.field rfl fa43_0) rfl ?_
 refine D.alt ?_ ⟨?_, trivial⟩
 ·
  refine O.still rfl (S.load 1 (k := 0) rfl rfl rfl Tryd.isAgg3) rfl ?_
  refine D.one ?_
  refine O.still rfl (S.load 0 (k := 0) rfl rfl rfl Tryd.isAgg3) rfl ?_
  refine D.pure rfl (S.eq rfl rfl) rfl ?_
  refine D.reslot (v := .bool true) (congrArg Value.bool (by simp)) ?_
  refine D.pure rfl (S.move rfl) rfl ?_
  refine D.yes 10 rfl rfl rfl (OpP.toK (S.field rfl fa43_1)) rfl ?_
  refine D.yes 10 rfl rfl rfl (OpP.toK (S.field rfl fa43_1)) rfl ?_
  refine D.alt ?_ ⟨?_, trivial⟩
  ·
   refine O.yesS 10 rfl rfl rfl (S.loadA 1 (k := 1) rfl rfl rfl rfl Tryd.isAgg27 Tryd.sizeOf27) rfl ?_
   refine D.seg (by decide) ?_
   refine W.yes 10 rfl rfl rfl (S.loadA 0 (k := 1) rfl rfl rfl rfl Tryd.isAgg27 Tryd.sizeOf27) rfl ?_
   refine W.nil ?_
   refine D.one ?_
   refine O.yes 10 rfl rfl rfl (X.call rfl Tryd.call34 (told_spec n c _ _ _ m o _)) rfl ?_; rintro _ _ ⟨rfl, rfl⟩; refine D.relist (L2 := [_, _]) rfl ?_
   refine D.one ?_
   refine O.yes 10 rfl rfl rfl (X.call rfl Tryd.call11 (same_spec _ _ _ _ _ _ _ _ _ _ _ _ _ _ h1.lift h2.lift)) rfl ?_; rintro _ _ ⟨rfl, rfl⟩; refine D.relist (L2 := [_, _]) rfl ?_
   refine D.reslot (v := .bool true) (congrArg Value.bool (by simp)) ?_
   refine D.pure rfl (S.pickT rfl rfl) rfl ?_
   refine D.pure rfl (S.move rfl) rfl ?_
   refine D.yes 18 rfl rfl rfl (OpP.toK (S.field rfl fa43_2)) rfl ?_
   refine D.yes 18 rfl rfl rfl (OpP.toK (S.field rfl fa43_2)) rfl ?_
   refine D.seg (by decide) ?_
   refine W.yes 18 rfl rfl rfl (S.load 1 (k := 6) rfl rfl rfl Tryd.isAgg22) rfl ?_
   refine W.yes 18 rfl rfl rfl (S.load 0 (k := 6) rfl rfl rfl Tryd.isAgg22) rfl ?_
   refine W.nil ?_
   refine D.one ?_
   refine O.yes 18 rfl rfl rfl (X.call rfl Tryd.call29 (bytesEqual_spec d1 d2 q1 q2 y y h3.lift h4.lift)) rfl ?_; rintro _ _ ⟨rfl, rfl⟩; refine D.relist (L2 := [_, _]) rfl ?_
   refine D.reslot (v := .bool true) (congrArg Value.bool (by simp)) ?_
   refine D.pure rfl (S.pickT rfl rfl) rfl ?_
   refine D.pure rfl (S.move rfl) rfl ?_
   refine D.yes 25 rfl rfl rfl (OpP.toK (S.field rfl fa43_3)) rfl ?_
   refine D.yes 25 rfl rfl rfl (OpP.toK (S.field rfl fa43_3)) rfl ?_
   refine D.seg (by decide) ?_
   refine W.yes 25 rfl rfl rfl (S.load 1 (k := 7) rfl rfl rfl Tryd.isAgg3) rfl ?_
   refine W.yes 25 rfl rfl rfl (S.load 0 (k := 7) rfl rfl rfl Tryd.isAgg3) rfl ?_
   refine W.yes 25 rfl rfl rfl (fun a w hf _ => (S.eq rfl rfl) a w hf) rfl ?_
   refine W.reslot (v := .bool true) (congrArg Value.bool (by simp)) ?_
   refine W.pure rfl (S.pickT rfl rfl) rfl ?_
   refine W.pure rfl (S.assign rfl) rfl ?_
   refine W.nil ?_
   refine D.keep [2, 3, 4] (env1 := [(2, _), (3, _), (4, _)]) rfl ?_
   refine C.ret ?_
   exact ⟨_, rfl, rfl⟩
  ·
   refine O.yesS 10 rfl rfl rfl (S.loadA 0 (k := 1) rfl rfl rfl rfl Tryd.isAgg27 Tryd.sizeOf27) rfl ?_
   refine D.alt ?_ ⟨?_, trivial⟩
   ·
    refine O.yesS 10 rfl rfl rfl (S.loadA 1 (k := 1) rfl rfl rfl rfl Tryd.isAgg27 Tryd.sizeOf27) rfl ?_
    refine D.one ?_
    refine O.yes 10 rfl rfl rfl (X.call rfl Tryd.call34 (told_spec n c _ _ _ m o _)) rfl ?_; rintro _ _ ⟨rfl, rfl⟩; refine D.relist (L2 := [_, _]) rfl ?_
    refine D.one ?_
    refine O.yes 10 rfl rfl rfl (X.call rfl Tryd.call11 (same_spec _ _ _ _ _ _ _ _ _ _ _ _ _ _ h1.lift h2.lift)) rfl ?_; rintro _ _ ⟨rfl, rfl⟩; refine D.relist (L2 := [_, _]) rfl ?_
    refine D.reslot (v := .bool true) (congrArg Value.bool (by simp)) ?_
    refine D.pure rfl (S.pickT rfl rfl) rfl ?_
    refine D.pure rfl (S.move rfl) rfl ?_
    refine D.yes 18 rfl rfl rfl (OpP.toK (S.field rfl fa43_2)) rfl ?_
    refine D.yes 18 rfl rfl rfl (OpP.toK (S.field rfl fa43_2)) rfl ?_
    refine D.seg (by decide) ?_
    refine W.yes 18 rfl rfl rfl (S.load 1 (k := 6) rfl rfl rfl Tryd.isAgg22) rfl ?_
    refine W.yes 18 rfl rfl rfl (S.load 0 (k := 6) rfl rfl rfl Tryd.isAgg22) rfl ?_
    refine W.nil ?_
    refine D.one ?_
    refine O.yes 18 rfl rfl rfl (X.call rfl Tryd.call29 (bytesEqual_spec d1 d2 q1 q2 y y h3.lift h4.lift)) rfl ?_; rintro _ _ ⟨rfl, rfl⟩; refine D.relist (L2 := [_, _]) rfl ?_
    refine D.reslot (v := .bool true) (congrArg Value.bool (by simp)) ?_
    refine D.pure rfl (S.pickT rfl rfl) rfl ?_
    refine D.pure rfl (S.move rfl) rfl ?_
    refine D.yes 25 rfl rfl rfl (OpP.toK (S.field rfl fa43_3)) rfl ?_
    refine D.yes 25 rfl rfl rfl (OpP.toK (S.field rfl fa43_3)) rfl ?_
    refine D.seg (by decide) ?_
    refine W.yes 25 rfl rfl rfl (S.load 1 (k := 7) rfl rfl rfl Tryd.isAgg3) rfl ?_
    refine W.yes 25 rfl rfl rfl (S.load 0 (k := 7) rfl rfl rfl Tryd.isAgg3) rfl ?_
    refine W.yes 25 rfl rfl rfl (fun a w hf _ => (S.eq rfl rfl) a w hf) rfl ?_
    refine W.reslot (v := .bool true) (congrArg Value.bool (by simp)) ?_
    refine W.pure rfl (S.pickT rfl rfl) rfl ?_
    refine W.pure rfl (S.assign rfl) rfl ?_
    refine W.nil ?_
    refine D.keep [2, 3, 4] (env1 := [(2, _), (3, _), (4, _)]) rfl ?_
    refine C.ret ?_
    exact ⟨_, rfl, rfl⟩
   ·
    refine O.yes 10 rfl rfl rfl (X.call rfl Tryd.call34 (told_spec n c _ _ _ m o _)) rfl ?_; rintro _ _ ⟨rfl, rfl⟩; refine D.relist (L2 := [_, _]) rfl ?_
    refine D.seg (by decide) ?_
    refine W.yes 10 rfl rfl rfl (S.loadA 1 (k := 1) rfl rfl rfl rfl Tryd.isAgg27 Tryd.sizeOf27) rfl ?_
    refine W.nil ?_
    refine D.one ?_
    refine O.yes 10 rfl rfl rfl (X.call rfl Tryd.call11 (same_spec _ _ _ _ _ _ _ _ _ _ _ _ _ _ h1.lift h2.lift)) rfl ?_; rintro _ _ ⟨rfl, rfl⟩; refine D.relist (L2 := [_, _]) rfl ?_
    refine D.reslot (v := .bool true) (congrArg Value.bool (by simp)) ?_
    refine D.pure rfl (S.pickT rfl rfl) rfl ?_
    refine D.pure rfl (S.move rfl) rfl ?_
    refine D.yes 18 rfl rfl rfl (OpP.toK (S.field rfl fa43_2)) rfl ?_
    refine D.yes 18 rfl rfl rfl (OpP.toK (S.field rfl fa43_2)) rfl ?_
    refine D.seg (by decide) ?_
    refine W.yes 18 rfl rfl rfl (S.load 1 (k := 6) rfl rfl rfl Tryd.isAgg22) rfl ?_
    refine W.yes 18 rfl rfl rfl (S.load 0 (k := 6) rfl rfl rfl Tryd.isAgg22) rfl ?_
    refine W.nil ?_
    refine D.one ?_
    refine O.yes 18 rfl rfl rfl (X.call rfl Tryd.call29 (bytesEqual_spec d1 d2 q1 q2 y y h3.lift h4.lift)) rfl ?_; rintro _ _ ⟨rfl, rfl⟩; refine D.relist (L2 := [_, _]) rfl ?_
    refine D.reslot (v := .bool true) (congrArg Value.bool (by simp)) ?_
    refine D.pure rfl (S.pickT rfl rfl) rfl ?_
    refine D.pure rfl (S.move rfl) rfl ?_
    refine D.yes 25 rfl rfl rfl (OpP.toK (S.field rfl fa43_3)) rfl ?_
    refine D.yes 25 rfl rfl rfl (OpP.toK (S.field rfl fa43_3)) rfl ?_
    refine D.seg (by decide) ?_
    refine W.yes 25 rfl rfl rfl (S.load 1 (k := 7) rfl rfl rfl Tryd.isAgg3) rfl ?_
    refine W.yes 25 rfl rfl rfl (S.load 0 (k := 7) rfl rfl rfl Tryd.isAgg3) rfl ?_
    refine W.yes 25 rfl rfl rfl (fun a w hf _ => (S.eq rfl rfl) a w hf) rfl ?_
    refine W.reslot (v := .bool true) (congrArg Value.bool (by simp)) ?_
    refine W.pure rfl (S.pickT rfl rfl) rfl ?_
    refine W.pure rfl (S.assign rfl) rfl ?_
    refine W.nil ?_
    refine D.keep [2, 3, 4] (env1 := [(2, _), (3, _), (4, _)]) rfl ?_
    refine C.ret ?_
    exact ⟨_, rfl, rfl⟩
 ·
  refine O.still rfl (S.load 0 (k := 0) rfl rfl rfl Tryd.isAgg3) rfl ?_
  refine D.one ?_
  refine O.still rfl (S.load 1 (k := 0) rfl rfl rfl Tryd.isAgg3) rfl ?_
  refine D.pure rfl (S.eq rfl rfl) rfl ?_
  refine D.reslot (v := .bool true) (congrArg Value.bool (by simp)) ?_
  refine D.pure rfl (S.move rfl) rfl ?_
  refine D.yes 10 rfl rfl rfl (OpP.toK (S.field rfl fa43_1)) rfl ?_
  refine D.yes 10 rfl rfl rfl (OpP.toK (S.field rfl fa43_1)) rfl ?_
  refine D.alt ?_ ⟨?_, trivial⟩
  ·
   refine O.yesS 10 rfl rfl rfl (S.loadA 1 (k := 1) rfl rfl rfl rfl Tryd.isAgg27 Tryd.sizeOf27) rfl ?_
   refine D.seg (by decide) ?_
   refine W.yes 10 rfl rfl rfl (S.loadA 0 (k := 1) rfl rfl rfl rfl Tryd.isAgg27 Tryd.sizeOf27) rfl ?_
   refine W.nil ?_
   refine D.one ?_
   refine O.yes 10 rfl rfl rfl (X.call rfl Tryd.call34 (told_spec n c _ _ _ m o _)) rfl ?_; rintro _ _ ⟨rfl, rfl⟩; refine D.relist (L2 := [_, _]) rfl ?_
   refine D.one ?_
   refine O.yes 10 rfl rfl rfl (X.call rfl Tryd.call11 (same_spec _ _ _ _ _ _ _ _ _ _ _ _ _ _ h1.lift h2.lift)) rfl ?_; rintro _ _ ⟨rfl, rfl⟩; refine D.relist (L2 := [_, _]) rfl ?_
   refine D.reslot (v := .bool true) (congrArg Value.bool (by simp)) ?_
   refine D.pure rfl (S.pickT rfl rfl) rfl ?_
   refine D.pure rfl (S.move rfl) rfl ?_
   refine D.yes 18 rfl rfl rfl (OpP.toK (S.field rfl fa43_2)) rfl ?_
   refine D.yes 18 rfl rfl rfl (OpP.toK (S.field rfl fa43_2)) rfl ?_
   refine D.seg (by decide) ?_
   refine W.yes 18 rfl rfl rfl (S.load 1 (k := 6) rfl rfl rfl Tryd.isAgg22) rfl ?_
   refine W.yes 18 rfl rfl rfl (S.load 0 (k := 6) rfl rfl rfl Tryd.isAgg22) rfl ?_
   refine W.nil ?_
   refine D.one ?_
   refine O.yes 18 rfl rfl rfl (X.call rfl Tryd.call29 (bytesEqual_spec d1 d2 q1 q2 y y h3.lift h4.lift)) rfl ?_; rintro _ _ ⟨rfl, rfl⟩; refine D.relist (L2 := [_, _]) rfl ?_
   refine D.reslot (v := .bool true) (congrArg Value.bool (by simp)) ?_
   refine D.pure rfl (S.pickT rfl rfl) rfl ?_
   refine D.pure rfl (S.move rfl) rfl ?_
   refine D.yes 25 rfl rfl rfl (OpP.toK (S.field rfl fa43_3)) rfl ?_
   refine D.yes 25 rfl rfl rfl (OpP.toK (S.field rfl fa43_3)) rfl ?_
   refine D.seg (by decide) ?_
   refine W.yes 25 rfl rfl rfl (S.load 1 (k := 7) rfl rfl rfl Tryd.isAgg3) rfl ?_
   refine W.yes 25 rfl rfl rfl (S.load 0 (k := 7) rfl rfl rfl Tryd.isAgg3) rfl ?_
   refine W.yes 25 rfl rfl rfl (fun a w hf _ => (S.eq rfl rfl) a w hf) rfl ?_
   refine W.reslot (v := .bool true) (congrArg Value.bool (by simp)) ?_
   refine W.pure rfl (S.pickT rfl rfl) rfl ?_
   refine W.pure rfl (S.assign rfl) rfl ?_
   refine W.nil ?_
   refine D.keep [2, 3, 4] (env1 := [(2, _), (3, _), (4, _)]) rfl ?_
   refine C.ret ?_
   exact ⟨_, rfl, rfl⟩
  ·
   refine O.yesS 10 rfl rfl rfl (S.loadA 0 (k := 1) rfl rfl rfl rfl Tryd.isAgg27 Tryd.sizeOf27) rfl ?_
   refine D.alt ?_ ⟨?_, trivial⟩
   ·
    refine O.yesS 10 rfl rfl rfl (S.loadA 1 (k := 1) rfl rfl rfl rfl Tryd.isAgg27 Tryd.sizeOf27) rfl ?_
    refine D.one ?_
    refine O.yes 10 rfl rfl rfl (X.call rfl Tryd.call34 (told_spec n c _ _ _ m o _)) rfl ?_; rintro _ _ ⟨rfl, rfl⟩; refine D.relist (L2 := [_, _]) rfl ?_
    refine D.one ?_
    refine O.yes 10 rfl rfl rfl (X.call rfl Tryd.call11 (same_spec _ _ _ _ _ _ _ _ _ _ _ _ _ _ h1.lift h2.lift)) rfl ?_; rintro _ _ ⟨rfl, rfl⟩; refine D.relist (L2 := [_, _]) rfl ?_
    refine D.reslot (v := .bool true) (congrArg Value.bool (by simp)) ?_
    refine D.pure rfl (S.pickT rfl rfl) rfl ?_
    refine D.pure rfl (S.move rfl) rfl ?_
    refine D.yes 18 rfl rfl rfl (OpP.toK (S.field rfl fa43_2)) rfl ?_
    refine D.yes 18 rfl rfl rfl (OpP.toK (S.field rfl fa43_2)) rfl ?_
    refine D.seg (by decide) ?_
    refine W.yes 18 rfl rfl rfl (S.load 1 (k := 6) rfl rfl rfl Tryd.isAgg22) rfl ?_
    refine W.yes 18 rfl rfl rfl (S.load 0 (k := 6) rfl rfl rfl Tryd.isAgg22) rfl ?_
    refine W.nil ?_
    refine D.one ?_
    refine O.yes 18 rfl rfl rfl (X.call rfl Tryd.call29 (bytesEqual_spec d1 d2 q1 q2 y y h3.lift h4.lift)) rfl ?_; rintro _ _ ⟨rfl, rfl⟩; refine D.relist (L2 := [_, _]) rfl ?_
    refine D.reslot (v := .bool true) (congrArg Value.bool (by simp)) ?_
    refine D.pure rfl (S.pickT rfl rfl) rfl ?_
    refine D.pure rfl (S.move rfl) rfl ?_
    refine D.yes 25 rfl rfl rfl (OpP.toK (S.field rfl fa43_3)) rfl ?_
    refine D.yes 25 rfl rfl rfl (OpP.toK (S.field rfl fa43_3)) rfl ?_
    refine D.seg (by decide) ?_
    refine W.yes 25 rfl rfl rfl (S.load 1 (k := 7) rfl rfl rfl Tryd.isAgg3) rfl ?_
    refine W.yes 25 rfl rfl rfl (S.load 0 (k := 7) rfl rfl rfl Tryd.isAgg3) rfl ?_
    refine W.yes 25 rfl rfl rfl (fun a w hf _ => (S.eq rfl rfl) a w hf) rfl ?_
    refine W.reslot (v := .bool true) (congrArg Value.bool (by simp)) ?_
    refine W.pure rfl (S.pickT rfl rfl) rfl ?_
    refine W.pure rfl (S.assign rfl) rfl ?_
    refine W.nil ?_
    refine D.keep [2, 3, 4] (env1 := [(2, _), (3, _), (4, _)]) rfl ?_
    refine C.ret ?_
    exact ⟨_, rfl, rfl⟩
   ·
    refine O.yes 10 rfl rfl rfl (X.call rfl Tryd.call34 (told_spec n c _ _ _ m o _)) rfl ?_; rintro _ _ ⟨rfl, rfl⟩; refine D.relist (L2 := [_, _]) rfl ?_
    refine D.seg (by decide) ?_
    refine W.yes 10 rfl rfl rfl (S.loadA 1 (k := 1) rfl rfl rfl rfl Tryd.isAgg27 Tryd.sizeOf27) rfl ?_
    refine W.nil ?_
    refine D.one ?_
    refine O.yes 10 rfl rfl rfl (X.call rfl Tryd.call11 (same_spec _ _ _ _ _ _ _ _ _ _ _ _ _ _ h1.lift h2.lift)) rfl ?_; rintro _ _ ⟨rfl, rfl⟩; refine D.relist (L2 := [_, _]) rfl ?_
    refine D.reslot (v := .bool true) (congrArg Value.bool (by simp)) ?_
    refine D.pure rfl (S.pickT rfl rfl) rfl ?_
    refine D.pure rfl (S.move rfl) rfl ?_
    refine D.yes 18 rfl rfl rfl (OpP.toK (S.field rfl fa43_2)) rfl ?_
    refine D.yes 18 rfl rfl rfl (OpP.toK (S.field rfl fa43_2)) rfl ?_
    refine D.seg (by decide) ?_
    refine W.yes 18 rfl rfl rfl (S.load 1 (k := 6) rfl rfl rfl Tryd.isAgg22) rfl ?_
    refine W.yes 18 rfl rfl rfl (S.load 0 (k := 6) rfl rfl rfl Tryd.isAgg22) rfl ?_
    refine W.nil ?_
    refine D.one ?_
    refine O.yes 18 rfl rfl rfl (X.call rfl Tryd.call29 (bytesEqual_spec d1 d2 q1 q2 y y h3.lift h4.lift)) rfl ?_; rintro _ _ ⟨rfl, rfl⟩; refine D.relist (L2 := [_, _]) rfl ?_
    refine D.reslot (v := .bool true) (congrArg Value.bool (by simp)) ?_
    refine D.pure rfl (S.pickT rfl rfl) rfl ?_
    refine D.pure rfl (S.move rfl) rfl ?_
    refine D.yes 25 rfl rfl rfl (OpP.toK (S.field rfl fa43_3)) rfl ?_
    refine D.yes 25 rfl rfl rfl (OpP.toK (S.field rfl fa43_3)) rfl ?_
    refine D.seg (by decide) ?_
    refine W.yes 25 rfl rfl rfl (S.load 1 (k := 7) rfl rfl rfl Tryd.isAgg3) rfl ?_
    refine W.yes 25 rfl rfl rfl (S.load 0 (k := 7) rfl rfl rfl Tryd.isAgg3) rfl ?_
    refine W.yes 25 rfl rfl rfl (fun a w hf _ => (S.eq rfl rfl) a w hf) rfl ?_
    refine W.reslot (v := .bool true) (congrArg Value.bool (by simp)) ?_
    refine W.pure rfl (S.pickT rfl rfl) rfl ?_
    refine W.pure rfl (S.assign rfl) rfl ?_
    refine W.nil ?_
    refine D.keep [2, 3, 4] (env1 := [(2, _), (3, _), (4, _)]) rfl ?_
    refine C.ret ?_
    exact ⟨_, rfl, rfl⟩
theorem RdV.rb {K : Known} {v : Value} {l : List UInt8} {G L : Frags} (h : RdV v l G) (hL : ∀ f ∈ G, f ∈ L) : ∃ a c, v = .slice a l.length c ∧ RB K L a l := by
  obtain ⟨a, c, rfl, h⟩ := h
  exact ⟨a, c, rfl, h K L hL⟩
/-- Two results of the same reading. -/
theorem alike_spec {K : Known} {u : UnpR} {r1 r2 : Value} {G1 G2 L : Frags} (h1 : UnpV u r1 G1) (h2 : UnpV u r2 G2) (hL1 : ∀ f ∈ G1, f ∈ L) (hL2 : ∀ f ∈ G2, f ∈ L) : Fn Tryd.prog K 16 #[r1, r2] L fun v L' => v = .bool true ∧ L' = L := by
  obtain ⟨ev1, bv1, rfl, he1, hb1⟩ := h1
  obtain ⟨ev2, bv2, rfl, he2, hb2⟩ := h2
  obtain ⟨a1, k1, rfl, x1⟩ := he1.rb (K := K) hL1
  obtain ⟨a2, k2, rfl, x2⟩ := he2.rb (K := K) hL2
  obtain ⟨b1, q1, rfl, x3⟩ := hb1.rb (K := K) hL1
  obtain ⟨b2, q2, rfl, x4⟩ := hb2.rb (K := K) hL2
  exact Fn.stillR fun w hw => alike_known u.1 u.2.2.2 u.2.1.mod u.2.1.os u.2.1.name u.2.1.comment (u.2.1.extra.getD []) u.2.2.1 a1 a2 b1 b2 k1 k2 q1 q2 (x1.still hw) (x2.still hw) (x3.still hw) (x4.still hw)

end Go.Eng
namespace Go.Eng
open Go Go.Proofs
set_option maxRecDepth 100000

set_option maxHeartbeats 1000000
theorem To.newM {K : Known} {L : Frags} {w : World} (hw : Agree K L w.heap) (vs : List Value) (t : TypeId) (fr : Nat × Nat) (hfr : vs.length ≤ fr.1) :
    To K w L (w.alloc (.cells vs.toArray t fr)) (⟨w.heap.size, 0, vs⟩ :: L) := by
  have hold : ∀ (k : Nat), k < w.heap.size → (w.heap.push (.cells vs.toArray t fr))[k]? = w.heap[k]? := fun k hk => by
    rw [Array.getElem?_push, if_neg (by omega)]
  have hh : (w.alloc (.cells vs.toArray t fr)).heap = w.heap.push (.cells vs.toArray t fr) := rfl
  refine ⟨⟨fun b ob hb => ?_, fun f hf => ?_, fun f hf => ?_, ?_⟩, by rw [hh]; simp, fun b hb _ => hold b hb, fun b c t' fr hb => ⟨c, ?_, rfl, fun _ _ => rfl⟩, fun f hf => ?_, rfl, rfl, rfl⟩
  · have h1 := hw.base b ob hb
    rw [hh, hold b (lt_of_some h1)]
    exact h1
  · rcases List.mem_cons.1 hf with rfl | h
    · cases hk : K w.heap.size with
      | none => rfl
      | some o => exact absurd (lt_of_some (hw.base _ o hk)) (Nat.lt_irrefl _)
    · exact hw.up f h
  · rcases List.mem_cons.1 hf with rfl | h
    · exact ⟨vs.toArray, t, fr, by rw [hh]; simp, fun j hj => by simp only at hj; simp [hj], fun j hj => by simp only at hj ⊢; simp; omega⟩
    · obtain ⟨c, t', fr', h1, h2⟩ := (hw.ok f h).row
      exact ⟨c, t', fr', by rw [hh, hold _ (lt_of_some h1)]; exact h1, h2⟩
  · refine List.pairwise_cons.2 ⟨fun g hg b j h1 h2 => ?_, hw.dis⟩
    have := (hw.ok g hg).lt
    have e1 : w.heap.size = b := h1.1
    have e2 := h2.1
    omega
  · rw [hh, hold _ (lt_of_some hb)]; exact hb
  · rcases List.mem_cons.1 hf with rfl | h
    · exact .inl (Nat.le_refl _)
    · exact .inr ⟨⟨f, h, rfl⟩, fun j hj => ⟨f, h, hj⟩⟩
theorem E.buildMark {P : Program} {K : Known} {n : Nat} {ops : Array Oper} {d1 d2 j t e m : Nat} {bb : Bool} {l : List (Nat × Operand)} {vs : List Value} {ty1 ty2 : TypeId} {pos1 pos2 : String} {af1 af2 : Array Edge} {rest : List Oper} {env : Env} {L : Frags} {N : Post} (ps : List (Nat × Value)) (tg : Nat) (hps : evParts env l = some ps)
    (hrun : ∀ w, (Instr.buildSlice t m ps.toArray).run P w = .ok (.slice (some ⟨w.heap.size, 0, none⟩) m m) (w.alloc (.cells vs.toArray e))) (ht : P.underlying t = some (.slice e)) (he : P.underlying e = some (.int .u8))
    (hd1 : dstOk (some d1) n = true) (hd2 : dstOk (some d2) n = true) (hg : (ops[j]?).bind (·.dst) = some tg) (hv : get? env tg = some (.bool bb)) (hne : Nat.beq d1 tg = false)
    (k : ∀ b, wpE P K n ops rest ((d2, .slice (some ⟨b, 0, none⟩) m m) :: (d1, .slice (some ⟨b, 0, none⟩) m m) :: env) (⟨b, 0, vs⟩ :: L) N) :
    wpE P K n ops (⟨some d1, .buildSlice t m l.toArray, ty1, pos1, af1, none⟩ :: ⟨some d2, .convert t t (.tmp d1), ty2, pos2, af2, some (j, bb)⟩ :: rest) env L N := by
  intro a w hf hw Q hq
  have e1 := evParts_eval hf hps
  have e2 : (Array.map (fun (x : Nat × Operand) => match x with | (i, x) => (i, a.eval x)) l.toArray) = ps.toArray := by
    rw [← e1]; simp
  have hr1 : (exop a.eval (.buildSlice t m l.toArray) ty1).run P w = .ok (.value (.slice (some ⟨w.heap.size, 0, none⟩) m m)) (w.alloc (.cells vs.toArray e)) := by
    simp only [exop, execOp, e2]
    simp [hrun]
  have hf1 := hf.ext hd1 (.slice (some ⟨w.heap.size, 0, none⟩) m m)
  have hy := yielded_of (ops := ops) hf1 hg (c := bb) (by simp only [ext, get?]; simpa [hne] using hv)
  have hr2 : (exop (a.put (some d1) (.slice (some ⟨w.heap.size, 0, none⟩) m m)).eval (.convert t t (.tmp d1)) ty2).run P (w.alloc (.cells vs.toArray e)) = .ok (.value (.slice (some ⟨w.heap.size, 0, none⟩) m m)) (w.alloc (.cells vs.toArray e (vs.toArray.size, vs.toArray.size + 1))) := by
    have hev : (a.put (some d1) (.slice (some ⟨w.heap.size, 0, none⟩) m m)).eval (.tmp d1) = .slice (some ⟨w.heap.size, 0, none⟩) m m := hf1.eval (x := .tmp d1) (by simp [ev?, ext, get?])
    simp only [exop, execOp, hev]
    simp [Go.Lib.run_convert_bytes_const w t e vs.toArray m m ht he]
  simp only [wpList, Region.wanted, if_true]
  refine .inl ?_
  simp only [Oper.wp, execOp_exop, hr1, Oper.upon_value, hy, beq_self_eq_true, if_true]
  refine .inl ?_
  simp only [hr2, Oper.upon_value]
  have t := To.newM hw vs e (vs.toArray.size, vs.toArray.size + 1) (by simp)
  exact k w.heap.size _ _ (hf1.ext hd2 _) t.st Q fun e l a2 w2 h f t2 => hq e l a2 w2 h f (t.trans t2)

def wakeD : List UInt8 := [31, 139, 8, 0, 0, 0, 0, 0, 0, 255, 1, 1, 0, 254, 255, 97, 67, 190, 183, 232, 1, 0, 0, 0]
theorem wakeBuild (w : World) : (Instr.buildSlice 22 24 ((bytesV wakeD).zipIdx.map fun p => (p.2, p.1)).toArray).run Tryd.prog w = .ok (.slice (some ⟨w.heap.size, 0, none⟩) 24 24) (w.alloc (.cells (bytesV wakeD).toArray 5)) := by
  have e : Instr.fill (fun i => some (i * 1, 1)) ((Array.range (24 * 1)).map fun x => ((Value.int .u8 0).cells : Array Value)[x % ((Value.int .u8 0).cells : Array Value).size]!) ((bytesV wakeD).zipIdx.map fun p => (p.2, p.1)) = some (bytesV wakeD).toArray := by kernel_rfl
  unfold Instr.buildSlice
  simp only [Sem.run_bind, Tryd.runUnderlying22, Result.andThen_ok, Tryd.sizeOf5]
  rw [if_neg (by decide), if_neg (by decide)]
  simp only [Sem.run_bind, Tryd.zeroValue5, Result.andThen_ok, Sem.run_pure]
  rw [e]
  simp [newRow]
theorem oneBuild (w : World) : (Instr.buildSlice 22 1 [(0, Value.int .u8 97)].toArray).run Tryd.prog w = .ok (.slice (some ⟨w.heap.size, 0, none⟩) 1 1) (w.alloc (.cells (bytesV [97]).toArray 5)) := by
  have e : Instr.fill (fun i => some (i * 1, 1)) ((Array.range (1 * 1)).map fun x => ((Value.int .u8 0).cells : Array Value)[x % ((Value.int .u8 0).cells : Array Value).size]!) [(0, Value.int .u8 97)] = some (bytesV [97]).toArray := by kernel_rfl
  unfold Instr.buildSlice
  simp only [Sem.run_bind, Tryd.runUnderlying22, Result.andThen_ok, Tryd.sizeOf5]
  rw [if_neg (by decide), if_neg (by decide)]
  simp only [Sem.run_bind, Tryd.zeroValue5, Result.andThen_ok, Sem.run_pure]
  rw [e]
  simp [newRow]
theorem wake_head : (readHead wakeD).1 = .none ∧ (readHead wakeD).2.1 = wakeD.drop 10 := ⟨by decide, by decide⟩
theorem wake_run : run (wakeD.drop 10) .next [] 0 = ([97], .done 6) := by
  rw [run_next0 (by decide) (by decide), storR, show storedN (wakeD.drop 10) ((0 + 3 + 7) / 8) = some 1 by decide]
  simp only [stored]
  rw [if_neg (by decide), if_pos (by decide)]
  rfl
theorem wake_gz : gzR true (wakeD.drop 10) = ([97], 1, []) := by
  have hr := wake_run
  have h2 : (run (wakeD.drop 10) .next [] 0).2 = .done 6 := by rw [hr]
  rw [gzR_eq, gzT_head h2 (by decide) (by rw [hr]; decide) (by decide) (by decide), hr]
  decide
theorem wake_un : (unpOf wakeD).1 = 0 ∧ (unpOf wakeD).2.2.1 = [97] ∧ (unpOf wakeD).2.2.2 = 1 := by
  rw [unpOf, if_neg (fun h => h wake_head.1), wake_head.2, wake_gz]
  exact ⟨rfl, rfl, rfl⟩
theorem Codes.mono {K K' : Known} (h : ∀ b o, K b = some o → K' b = some o) (c : Codes K) : Codes K' := ⟨fun i hi => cellAt_mono h (c.cell i hi)⟩
theorem unpack_wake {K : Known} {ea : Fin 5 → Addr} (hs : Sents K ea) (hc : Codes K) (nb : Nat) (L : Frags) (hm : ⟨nb, 0, bytesV wakeD⟩ ∈ L) :
    Fn Tryd.prog K 17 #[.slice (some ⟨nb, 0, none⟩) 24 24, .slice none 0 0] L fun r L' => ∃ ev a c GL, r = .agg #[.int .i64 0, .string (unpOf wakeD).2.1.name, .string (unpOf wakeD).2.1.comment, ev, .int .i64 (((unpOf wakeD).2.1.mod : Nat) : Int), .int .u8 (((unpOf wakeD).2.1.os : Nat) : Int), .slice a 1 c, .int .i64 1] ∧ one ev = true ∧ RdV (.slice a 1 c) [97] GL ∧ L' = GL ++ L := by
  refine Fn.mono (Fn.still (R := fun r L => UnpV (unpOf wakeD) r L) fun w hw => ?_) ?_
  · have hK : ∀ b o, K b = some o → (fun b => w.heap[b]?) b = some o := fun b o h => hw.base b o h
    have hr : Reads K L nb 0 (bytesV wakeD) := Reads.mem (k := 0) hm (by rw [List.drop_zero, List.take_length])
    refine Fn.mono (unpack_spec (hs.mono hK) (hc.mono hK) (v := .slice (some ⟨nb, 0, none⟩) 24 24) (data := wakeD) (.inr (.inr ⟨nb, 0, 24, rfl, by decide, hr.kb hw⟩)) (by decide) (SzA.nil _) []) ?_
    rintro r L' ⟨GL, hU, rfl⟩
    exact hU
  · rintro r L' ⟨L1, ⟨ev, bv, rfl, ⟨a0, c0, rfl, _⟩, hb⟩, rfl⟩
    have hb2 := hb
    rw [wake_un.2.1] at hb2
    obtain ⟨a, c, rfl, _⟩ := hb2
    rw [wake_un.2.1] at hb
    refine ⟨.slice a0 ((unpOf wakeD).2.1.extra.getD []).length c0, a, c, L1, ?_, rfl, hb, rfl⟩
    rw [unV, wake_un.1, wake_un.2.2]
    rfl

theorem wakes_walk {K : Known} {ea : Fin 5 → Addr} (hs : Sents K ea) (hc : Codes K) : Fn Tryd.prog K 15 #[] ([]) (fun r L => r = .bool true) := by
 refine Fn.intro (args := []) (RR := Ret1 0 _) Tryd.func15 rfl rfl Tryd.ntmps15 (res1 Tryd.results15) ?_
 refine C.reenv (env2 := []) rfl ?_
 refine C.seq ?_
 refine C.region ?_
 refine E.pure (S.assign rfl) rfl ?_
 refine E.keep [0] (env1 := [(0, _)]) rfl ?_
 refine C.seq ?_
 refine C.region ?_
 refine E.loud1 (X.buildSliceV (vs := bytesV wakeD) (e := 5) [(0, .int .u8 31), (1, .int .u8 139), (2, .int .u8 8), (3, .int .u8 0), (4, .int .u8 0), (5, .int .u8 0), (6, .int .u8 0), (7, .int .u8 0), (8, .int .u8 0), (9, .int .u8 255), (10, .int .u8 1), (11, .int .u8 1), (12, .int .u8 0), (13, .int .u8 254), (14, .int .u8 255), (15, .int .u8 97), (16, .int .u8 67), (17, .int .u8 190), (18, .int .u8 183), (19, .int .u8 232), (20, .int .u8 1), (21, .int .u8 0), (22, .int .u8 0), (23, .int .u8 0)] rfl wakeBuild) rfl ?_; rintro _ _ ⟨nb, rfl, rfl⟩; refine E.relist (L2 := [_]) rfl ?_
 refine E.loud1 (X.call rfl Tryd.call17 (unpack_wake hs hc nb _ (.head _))) rfl ?_
 rintro _ _ ⟨ev, a, c, GL, rfl, hev, hb, rfl⟩
 refine E.loud1 (X.alloc Tryd.zeroValue43) rfl ?_; rintro _ _ ⟨b1, rfl, rfl⟩; refine E.relist (L2 := (_ :: _)) rfl ?_
 refine E.relist (L2 := ⟨b1, 0, [.int .i64 0, .string ⟨#[]⟩, .string ⟨#[]⟩, .slice none 0 0, .int .i64 0, .int .u8 0, .slice none 0 0, .int .i64 0]⟩ :: (GL ++ [⟨nb, 0, bytesV wakeD⟩])) (by kernel_rfl) ?_
 refine E.loud0 (X.storeA 0 (k := 0) rfl rfl rfl (by simp only [List.all_cons, List.all_nil, hev]; rfl) rfl rfl Tryd.sizeOf43 rfl) ?_
 rintro _ _ ⟨rfl, rfl⟩
 refine E.relist (L2 := ⟨b1, 0, [.int .i64 0, .string (unpOf wakeD).2.1.name, .string (unpOf wakeD).2.1.comment, ev, .int .i64 (((unpOf wakeD).2.1.mod : Nat) : Int), .int .u8 (((unpOf wakeD).2.1.os : Nat) : Int), .slice a 1 c, .int .i64 1]⟩ :: (GL ++ [⟨nb, 0, bytesV wakeD⟩])) rfl ?_
 refine E.keep [0, 1] (env1 := [(0, _), (1, _)]) rfl ?_
 refine C.seq ?_
 refine C.region ?_
 refine E.pure (S.field rfl fa43_0) rfl ?_
 refine E.still (S.load 0 rfl rfl rfl Tryd.isAgg3) rfl ?_
 refine E.pure (S.eq (b := ((0 : Nat) : Int)) rfl rfl) rfl ?_
 refine E.reslot (v := .bool true) (congrArg Value.bool (by decide)) ?_
 refine E.pure (S.move rfl) rfl ?_
 refine E.wanted 7 rfl rfl ?_
 refine E.pure (S.field rfl fa43_3) rfl ?_
 refine E.wanted 7 rfl rfl ?_
 refine E.still (S.load 0 rfl rfl rfl Tryd.isAgg3) rfl ?_
 refine E.wanted 7 rfl rfl ?_
 refine E.pure (S.eq (b := ((1 : Nat) : Int)) rfl rfl) rfl ?_
 refine E.reslot (v := .bool true) (congrArg Value.bool (by decide)) ?_
 refine E.pure (S.pickT rfl rfl) rfl ?_
 refine E.pure (S.move rfl) rfl ?_
 refine E.wanted 12 rfl rfl ?_
 refine E.pure (S.field rfl fa43_2) rfl ?_
 refine E.wanted 12 rfl rfl ?_
 refine E.still (S.load 0 rfl rfl rfl Tryd.isAgg22) rfl ?_
 refine E.wanted 12 rfl rfl ?_
 refine E.buildMark [(0, .int .u8 97)] 12 rfl oneBuild Tryd.underlying22 Tryd.underlying5 rfl rfl rfl rfl rfl (fun n1 => ?_)
 refine E.relist (L2 := _ :: _ :: (GL ++ [_])) rfl ?_
 have hrb : RB K (⟨n1, 0, bytesV [97]⟩ :: ⟨b1, 0, [.int .i64 0, .string (unpOf wakeD).2.1.name, .string (unpOf wakeD).2.1.comment, ev, .int .i64 (((unpOf wakeD).2.1.mod : Nat) : Int), .int .u8 (((unpOf wakeD).2.1.os : Nat) : Int), .slice a 1 c, .int .i64 1]⟩ :: (GL ++ [⟨nb, 0, bytesV wakeD⟩])) a [97] := by
   obtain ⟨a5, c5, e5, h5⟩ := hb
   cases e5
   exact h5 K _ fun f hf => .tail _ (.tail _ (List.mem_append_left _ hf))
 refine E.wanted 12 rfl rfl ?_
 refine E.loud1 (X.call rfl Tryd.call29 (bytesEqual_spec a (some ⟨n1, 0, none⟩) c 1 [97] [97] hrb (.inr ⟨n1, 0, rfl, Reads.mem (k := 0) (.head _) (by rw [List.drop_zero, List.take_length])⟩))) rfl ?_; rintro _ _ ⟨rfl, rfl⟩; refine E.relist (L2 := (_ :: _ :: _)) rfl ?_
 refine E.pure (S.pickT rfl rfl) rfl ?_
 refine E.pure (S.assign rfl) rfl ?_
 refine E.keep [0, 1] (env1 := [(0, _), (1, _)]) rfl ?_
 refine C.ret ?_
 exact ⟨_, rfl, rfl⟩
theorem wakes_spec {K : Known} {ea : Fin 5 → Addr} (hs : Sents K ea) (hc : Codes K) (L : Frags) : Fn Tryd.prog K 15 #[] L fun r L' => r = .bool true ∧ L' = L := by
  refine Fn.lose (Fn.frame (L := []) (F := L) (wakes_walk hs hc)) ?_
  rintro v L' ⟨L1, rfl, rfl⟩
  exact ⟨L, L1, Same.perm List.perm_append_comm, rfl, rfl⟩

end Go.Eng
namespace Go.Eng
open Go Go.Proofs
set_option maxRecDepth 100000

set_option maxHeartbeats 1000000
/-- A gzip.Reader while it is read: at work, or behind an error. -/
def ZSt {K : Known} {ea : Fin 5 → Addr} (src : Src K ea) (zb : Nat) (e : Er) (LZ : Frags) : Prop := (e ≠ .none ∧ ZOld zb LZ) ∨ (e = .none ∧ ∃ Y, ZRd src zb true Y LZ)
theorem ZSt.old {K : Known} {ea : Fin 5 → Addr} {src : Src K ea} {zb : Nat} {e : Er} {LZ : Frags} (h : ZSt src zb e LZ) : ∃ LZ2 J, ZOld zb LZ2 ∧ ∀ G, Same (G ++ LZ) ((G ++ LZ2) ++ J) := by
  rcases h with ⟨_, h⟩ | ⟨_, Y, h⟩
  · exact ⟨LZ, [], h, fun G => Same.of_eq (List.append_nil _).symm⟩
  · obtain ⟨LZ2, J, h1, h2⟩ := h.old
    exact ⟨LZ2, J, h1, fun G => by rw [List.append_assoc]; exact Same.appendL G h2⟩
theorem zst_read {K : Known} {ea : Fin 5 → Addr} {src : Src K ea} {zb k : Nat} {er : Er} {Y : List UInt8 × ZEnd} {LZ2 : Frags} (h : (er = .none ∧ 0 < k ∧ ZRd src zb true (Y.1.drop k, Y.2) LZ2) ∨
    (er ≠ .none ∧ k = Y.1.length ∧ kindOf er = Y.2.1 ∧ ∃ f1 f2 f3 LZ, (∃ l, src.At l f1 f2 f3) ∧ (true = false → Y.2.1 = 1 → src.At Y.2.2 f1 f2 f3) ∧ ZOld zb LZ ∧ LZ2 = f1 :: f2 :: f3 :: LZ)) : ∃ LZ3 J, ZSt src zb er LZ3 ∧ ∀ G, Same (G ++ LZ2) ((G ++ LZ3) ++ J) := by
  rcases h with ⟨rfl, _, h⟩ | ⟨h1, _, _, f1, f2, f3, LZ, _, _, h2, rfl⟩
  · exact ⟨LZ2, [], .inr ⟨rfl, _, h⟩, fun G => Same.of_eq (List.append_nil _).symm⟩
  · refine ⟨LZ, [f1, f2, f3], .inl ⟨h1, h2⟩, fun G => ?_⟩
    rw [List.append_assoc]
    exact Same.appendL G (Same.perm (List.perm_append_comm (l₁ := [f1, f2, f3])))
theorem reset_in {K : Known} {ea : Fin 5 → Addr} (hs : Sents K ea) (src : Src K ea) (l : List UInt8) (x1 x2 x3 : Frag) (zb : Nat) (hA : src.At l x1 x2 x3) {LZ : Frags} (hZ : ZOld zb LZ) (B : Frag) :
    Fn Tryd.prog K 38 #[.pointer (some ⟨zb, 0, none⟩), .iface src.t src.v] ([x1, x2, x3, B] ++ LZ) fun r L => ∃ LE, r = Er.val ea (readHead l).1 ∧ ResetEnd src zb l LE ∧ L = [B] ++ LE := by
  refine Fn.sameR (Fn.perm ?_ (Fn.frame (F := [B]) (reset_spec hs src l x1 x2 x3 zb hA hZ))) ?_
  · exact List.Perm.append_left [x1, x2, x3] (List.perm_append_comm (l₁ := [B]))
  · rintro r L ⟨L1, ⟨rfl, hE⟩, rfl⟩
    exact ⟨[B] ++ L1, Same.perm List.perm_append_comm, L1, rfl, hE, rfl⟩
theorem zold_new (zb : Nat) (F : Frags) : ∃ LZ, ZOld zb LZ ∧ Same (⟨zb, 0, zip10 .nilIface .nilIface ++ (buf0 ++ zipEnd .nilIface false)⟩ :: F) (LZ ++ F) :=
  ⟨_, ⟨.string ⟨#[]⟩, .slice none 0 0, .int .u64 0, .int .i64 0, .string ⟨#[]⟩, .int .u8 0, .nilIface, .nilIface, .int .u32 0, .int .u32 0, buf0, .nilIface, .bool false, [], buf0_length, .inl ⟨rfl, rfl⟩, rfl⟩, zipSame zb F _ _ _ rfl buf0_length⟩

theorem unpack2_walk {K : Known} {ea : Fin 5 → Addr} (hs : Sents K ea) (hc : Codes K) (v1 v2 : Value) (data1 data2 : List UInt8) (hv1 : BA K v1 data1) (hv2 : BA K v2 data2) (hl1 : data1.length ≤ 65536) (hl2 : data2.length ≤ 65536) (n : Nat) (hn : n ≤ 65536) (sv : Value) (hsz : SzA K sv) : Fn Tryd.prog K 19 #[v1, .int .i64 ((n : Nat) : Int), v2, sv] ([]) (fun r L => ∃ L2 J, Same L (L2 ++ J) ∧ UnpV (unpOf data2) r L2) := by
 refine Fn.intro (args := [v1, .int .i64 ((n : Nat) : Int), v2, sv]) (RR := RetC 8 8  _) Tryd.func19 rfl rfl Tryd.ntmps19 (resC Tryd.results19 Tryd.isAgg43 Tryd.sizeOf43) ?_
 refine C.reenv (env2 := [(0, v1), (1, .int .i64 ((n : Nat) : Int)), (2, v2), (3, sv)]) rfl ?_
 refine C.seq ?_
 refine C.region ?_
 refine E.loud1 (X.alloc Tryd.zeroValue43) rfl ?_; rintro _ _ ⟨b8, rfl, rfl⟩; refine E.relist (L2 := [_]) rfl ?_
 refine E.relist (L2 := [⟨b8, 0, [.int .i64 0, .string ⟨#[]⟩, .string ⟨#[]⟩, .slice none 0 0, .int .i64 0, .int .u8 0, .slice none 0 0, .int .i64 0]⟩]) (by kernel_rfl) ?_
 refine E.keep [0, 1, 2, 3, 8] (env1 := [(0, _), (1, _), (2, _), (3, _), (8, _)]) rfl ?_
 refine C.seq ?_
 refine C.region ?_
 refine E.pure (S.move rfl) rfl ?_
 refine E.loud1 (X.call rfl Tryd.call24 (clone_in hv1 hl1 [_])) rfl ?_; rintro _ _ ⟨a, c, GL, rfl, hCl, rfl⟩; refine E.relist (L2 := (_ :: _)) rfl ?_
 refine E.loud1 (OpX.pick [] (F := (_ :: _)) rfl (X.call rfl Tryd.call23 (newReader_spec a data1.length c))) rfl ?_; rintro _ _ ⟨_, ⟨rb, rfl, rfl⟩, rfl⟩; refine E.relist (L2 := (_ :: _ :: _)) rfl ?_
 obtain ⟨x1, x2, x3, hA, hSm⟩ := src_at hs rb hCl hl1
 refine E.same (hSm [⟨b8, 0, [.int .i64 0, .string ⟨#[]⟩, .string ⟨#[]⟩, .slice none 0 0, .int .i64 0, .int .u8 0, .slice none 0 0, .int .i64 0]⟩]) ?_
 refine E.relist (L2 := [_, _, _, _]) rfl ?_
 refine E.pure (S.mkIface rfl conc54) rfl ?_
 refine E.loud1 (X.call rfl Tryd.call25 (zNewReader_in hs (readerSrc K ea hs rb a c data1) data1 x1 x2 x3 hA [_])) rfl ?_
 rintro _ _ (⟨hne, rfl, f1, f2, f3, hF, rfl⟩ | ⟨hno, zb, LZ, rfl, hZ, rfl⟩)
 ·
  refine E.relist (L2 := [_, _, _, _]) rfl ?_
  refine E.pure (S.move rfl) rfl ?_
  refine E.pure (S.extract rfl rfl) rfl ?_
  refine E.pure (S.extract rfl rfl) rfl ?_
  refine E.pure (S.assign rfl) rfl ?_
  refine E.pure (S.assign rfl) rfl ?_
  refine E.keep [1, 2, 3, 8, 9, 10] (env1 := [(1, _), (2, _), (3, _), (8, _), (9, _), (10, _)]) rfl ?_
  refine C.cut (M := fun ee ll => ∃ (b8 : Nat), ∃ (zb : Nat), ∃ (e : Er), ∃ (LZ : Frags), ∃ (rb : Nat), ∃ (a : Option Addr), ∃ (c : Nat), keeps ee [1, 2, 3, 8, 9, 10] = some [(1, .int .i64 ((n : Nat) : Int)), (2, v2), (3, sv), (8, .pointer (some ⟨b8, 0, none⟩)), (9, .pointer (some ⟨zb, 0, none⟩)), (10, Er.val ea e)] ∧ ll = [⟨b8, 0, [.int .i64 0, .string ⟨#[]⟩, .string ⟨#[]⟩, .slice none 0 0, .int .i64 0, .int .u8 0, .slice none 0 0, .int .i64 0]⟩] ++ LZ ∧ (ZSt (readerSrc K ea hs rb a c data1) zb e LZ)) ?_ ?_
  ·
   refine C.seq ?_
   refine C.region ?_
   refine E.pure (S.move rfl) rfl ?_
   refine E.still (S.neErNil rfl) rfl ?_
   refine E.keep [1, 2, 3, 8, 9, 10, 22] (env1 := [(1, _), (2, _), (3, _), (8, _), (9, _), (10, _), (22, _)]) rfl ?_
   first | refine C.ifp rfl (fun h22 => ?_) (fun h22 => ?_) | refine C.ifNone rfl (fun h22 => ?_) (fun h22 => ?_) | refine C.ifSome rfl (fun h22 => ?_) (fun h22 => ?_) | refine C.ifSe rfl (fun h22 => ?_) (fun h22 => ?_) | refine C.ifNotSe rfl (fun h22 => ?_) (fun h22 => ?_) | refine C.cond rfl (fun h22 => ?_) (fun h22 => ?_)
   ·
    refine C.region ?_
    refine E.loud1 (X.alloc Tryd.zeroValue76) rfl ?_; rintro _ _ ⟨b23, rfl, rfl⟩; refine E.relist (L2 := [_, _, _, _, _]) rfl ?_
    refine E.relist (L2 := [⟨b23, 0, zip10 .nilIface .nilIface ++ (buf0 ++ zipEnd .nilIface false)⟩, ⟨b8, 0, [.int .i64 0, .string ⟨#[]⟩, .string ⟨#[]⟩, .slice none 0 0, .int .i64 0, .int .u8 0, .slice none 0 0, .int .i64 0]⟩, f1, f2, f3]) (by rw [zipZero]) ?_
    obtain ⟨LZn, hOn, hSn⟩ := zold_new b23 [⟨b8, 0, [.int .i64 0, .string ⟨#[]⟩, .string ⟨#[]⟩, .slice none 0 0, .int .i64 0, .int .u8 0, .slice none 0 0, .int .i64 0]⟩, f1, f2, f3]
    refine E.same (hSn.trans (Same.perm List.perm_append_comm)) ?_
    refine E.shed [1, 1, 1] (A := [_, _, _]) (F := _ :: LZn) rfl ?_
    refine E.relist (L2 := [_] ++ LZn) rfl ?_
    refine E.pure (S.assign rfl) rfl ?_
    refine E.keep [1, 2, 3, 8, 9, 10, 22] (env1 := [(1, _), (2, _), (3, _), (8, _), (9, _), (10, _), (22, _)]) rfl ?_
    exact ⟨b8, b23, _, LZn, rb, a, c, rfl, rfl, .inl ⟨hne, hOn⟩⟩
   ·
    exact absurd h22 hne
  ·
   rintro _ _ ⟨b8, zb, e, LZ, rb, a, c, hq4, rfl, hSt⟩
   refine C.weaken _ hq4 ?_
   refine C.cut (M := fun ee ll => ∃ (e : Er), ∃ (LZ : Frags), keeps ee [1, 2, 3, 8, 9] = some [(1, .int .i64 ((n : Nat) : Int)), (2, v2), (3, sv), (8, .pointer (some ⟨b8, 0, none⟩)), (9, .pointer (some ⟨zb, 0, none⟩))] ∧ ll = [⟨b8, 0, [.int .i64 0, .string ⟨#[]⟩, .string ⟨#[]⟩, .slice none 0 0, .int .i64 0, .int .u8 0, .slice none 0 0, .int .i64 0]⟩] ++ LZ ∧ (ZSt (readerSrc K ea hs rb a c data1) zb e LZ)) ?_ ?_
   ·
    refine C.seq ?_
    refine C.region ?_
    refine E.pure (S.assign rfl) rfl ?_
    refine E.keep [1, 2, 3, 8, 9, 10, 11] (env1 := [(1, _), (2, _), (3, _), (8, _), (9, _), (10, _), (11, _)]) rfl ?_
    refine C.block ?_
    refine C.loop (fun mm ee ll => ∃ (i : Nat), ∃ (e : Er), ∃ (LZ : Frags), keeps ee [1, 2, 3, 8, 9, 10, 11] = some [(1, .int .i64 ((n : Nat) : Int)), (2, v2), (3, sv), (8, .pointer (some ⟨b8, 0, none⟩)), (9, .pointer (some ⟨zb, 0, none⟩)), (10, Er.val ea e), (11, .int .i64 ((i : Nat) : Int))] ∧ ll = [⟨b8, 0, [.int .i64 0, .string ⟨#[]⟩, .string ⟨#[]⟩, .slice none 0 0, .int .i64 0, .int .u8 0, .slice none 0 0, .int .i64 0]⟩] ++ LZ ∧ (ZSt (readerSrc K ea hs rb a c data1) zb e LZ) ∧ (i ≤ n) ∧ mm = n - i) (_) ⟨0, e, LZ, rfl, rfl, hSt, Nat.zero_le _, rfl⟩ ?_
    rintro m0 _ _ ⟨i, e, LZ, hk0, rfl, hSt, hin, hm0⟩
    refine C.weaken _ hk0 ?_
    refine C.seq ?_
    refine C.seq ?_
    refine C.region ?_
    refine E.pure (S.move rfl) rfl ?_
    refine E.pure (S.move rfl) rfl ?_
    refine E.pure (S.lt rfl rfl) rfl ?_
    refine E.pure (S.move rfl) rfl ?_
    refine E.fork (fun g27 => ?_) (fun g27 => ?_)
    ·
     refine E.wanted 27 rfl rfl ?_
     refine E.pure (S.move rfl) rfl ?_
     refine E.wanted 27 rfl rfl ?_
     refine E.still (S.eqErNil rfl) rfl ?_
     refine E.pure (S.pickT rfl rfl) rfl ?_
     refine E.keep [1, 2, 3, 8, 9, 10, 11, 30] (env1 := [(1, _), (2, _), (3, _), (8, _), (9, _), (10, _), (11, _), (30, _)]) rfl ?_
     first | refine C.ifp rfl (fun h30 => ?_) (fun h30 => ?_) | refine C.ifNone rfl (fun h30 => ?_) (fun h30 => ?_) | refine C.ifSome rfl (fun h30 => ?_) (fun h30 => ?_) | refine C.ifSe rfl (fun h30 => ?_) (fun h30 => ?_) | refine C.ifNotSe rfl (fun h30 => ?_) (fun h30 => ?_) | refine C.cond rfl (fun h30 => ?_) (fun h30 => ?_)
     ·
      obtain ⟨_, Y, hRd⟩ := hSt.resolve_left fun h => h.1 h30
      refine C.skip ?_
      refine C.seq ?_
      refine C.block ?_
      refine C.region ?_
      refine E.pure (S.move rfl) rfl ?_
      refine E.loud1 (X.make (l := 64) (c := 64) (bytes := 1) Tryd.underlying22 infoB (z := .int .u8 0) rfl rfl rfl rfl rfl rfl (Nat.le_refl _) (by decide) (by decide)) rfl ?_; rintro _ _ ⟨nb, rfl, rfl⟩; refine E.relist (L2 := (_ :: _ :: _)) rfl ?_
      refine E.loud1 (X.call rfl Tryd.call36 (zRead_spec hs hc hRd nb 0 64 64 (List.replicate 64 (.int .u8 0)) List.length_replicate.symm (by decide) (Nat.le_refl _) (by decide) [_])) rfl ?_; rintro _ _ ⟨k, er, LZ2, rfl, hk1, hk2, rfl, hE⟩; refine E.relist (L2 := (_ :: _ :: _)) rfl ?_
      refine E.pure (S.move rfl) rfl ?_
      refine E.pure (S.extract rfl rfl) rfl ?_
      refine E.pure (S.extract rfl rfl) rfl ?_
      refine E.pure (S.assign rfl) rfl ?_
      refine E.keep [1, 2, 3, 8, 9, 10, 11, 30] (env1 := [(1, _), (2, _), (3, _), (8, _), (9, _), (10, _), (11, _), (30, _)]) rfl ?_
      obtain ⟨LZ3, J3, hSt3, hSm3⟩ := zst_read hE
      refine C.relist (L2 := [_, _] ++ LZ2) rfl ?_
      refine C.same (hSm3 [_, _]) ?_
      refine C.dropR ?_
      refine C.shed [0] (A := [_]) (F := _ :: LZ3) rfl ?_
      refine C.relist (L2 := [_] ++ LZ3) rfl ?_
      refine C.region ?_
      refine E.pure (S.move rfl) rfl ?_
      refine E.pure (S.add (b := ((1 : Nat) : Int)) rfl rfl (N.add64 (by omega))) rfl ?_
      refine E.pure (S.assign rfl) rfl ?_
      refine E.keep [1, 2, 3, 8, 9, 10, 11, 30] (env1 := [(1, _), (2, _), (3, _), (8, _), (9, _), (10, _), (11, _), (30, _)]) rfl ?_
      refine ⟨_, ?_, i + 1, er, LZ3, rfl, rfl, hSt3, by omega, rfl⟩; omega
     ·
      refine C.exit rfl ?_
      exact ⟨e, LZ, rfl, rfl, hSt⟩
    ·
     refine E.guardNo 27 false rfl rfl rfl rfl ?_
     refine E.guardNo 27 false rfl rfl rfl rfl ?_
     refine E.pure (S.pickF rfl rfl) rfl ?_
     refine E.keep [1, 2, 3, 8, 9, 10, 11, 30] (env1 := [(1, _), (2, _), (3, _), (8, _), (9, _), (10, _), (11, _), (30, _)]) rfl ?_
     refine C.no rfl (rfl) ?_
     refine C.exit rfl ?_
     exact ⟨e, LZ, rfl, rfl, hSt⟩
   ·
    rintro _ _ ⟨e, LZ, hq8, rfl, hSt⟩
    refine C.weaken _ hq8 ?_
    obtain ⟨LZo, Jo, hOld, hSo⟩ := hSt.old
    refine C.same (hSo [_]) ?_
    refine C.dropR ?_
    refine C.cut (M := fun ee ll => ∃ (LZ : Frags), keeps ee [2, 3, 8, 9] = some [(2, v2), (3, sv), (8, .pointer (some ⟨b8, 0, none⟩)), (9, .pointer (some ⟨zb, 0, none⟩))] ∧ ll = [⟨b8, 0, [.int .i64 0, .string ⟨#[]⟩, .string ⟨#[]⟩, .slice none 0 0, .int .i64 0, .int .u8 0, .slice none 0 0, .int .i64 0]⟩] ++ LZ ∧ (ZOld zb LZ)) ?_ ?_
    ·
     refine C.seq ?_
     refine C.region ?_
     refine E.pure (S.move rfl) rfl ?_
     refine E.pure (S.rem (a := ((n : Nat) : Int)) (b := ((2 : Nat) : Int)) (r := ((n % 2 : Nat) : Int)) rfl rfl (by omega) (by rw [← Int.ofNat_tmod])) rfl ?_
     refine E.pure (S.ne (b := ((0 : Nat) : Int)) rfl rfl) rfl ?_
     refine E.keep [1, 2, 3, 8, 9, 41] (env1 := [(1, _), (2, _), (3, _), (8, _), (9, _), (41, _)]) rfl ?_
     refine C.ifp rfl (fun h41 => ?_) (fun h41 => ?_)
     ·
      obtain ⟨c0, c1, c2, c3, c4, c5, rv, dcv, dg, sz, bs, ev, ms, DL, hbs, hDL, rfl⟩ := hOld
      refine C.relist (L2 := [_, _, _, _] ++ DL) rfl ?_
      refine C.region ?_
      refine E.pure (S.move rfl) rfl ?_
      refine E.loud1 (OpX.pick [3] (F := (_ :: _ :: _ :: _)) rfl (X.call rfl Tryd.call37 (multi_walk zb _ _ false))) rfl ?_; rintro _ _ ⟨_, ⟨rfl, rfl⟩, rfl⟩; refine E.relist (L2 := (_ :: _ :: _ :: _ :: _)) rfl ?_
      refine E.perml [1, 1, 1, 0] rfl ?_
      refine E.relist (L2 := (_ :: _ :: _ :: _ :: _)) rfl ?_
      refine E.keep [1, 2, 3, 8, 9, 41] (env1 := [(1, _), (2, _), (3, _), (8, _), (9, _), (41, _)]) rfl ?_
      first | exact ⟨_, rfl, rfl, hOld⟩ | exact ⟨_, rfl, rfl, ⟨c0, c1, c2, c3, c4, c5, rv, dcv, dg, sz, bs, ev, _, DL, hbs, hDL, rfl⟩⟩
     ·
      refine C.skip ?_
      exact ⟨_, rfl, rfl, hOld⟩
    ·
     rintro _ _ ⟨LZ, hq10, rfl, hOld⟩
     refine C.weaken _ hq10 ?_
     refine C.seq ?_
     refine C.seq ?_
     refine C.region ?_
     refine E.pure (S.move rfl) rfl ?_
     refine E.pure (S.move rfl) rfl ?_
     refine E.loud1 (X.call rfl Tryd.call24 (clone_in hv2 hl2 _)) rfl ?_; rintro _ _ ⟨a9, c9, GL9, rfl, hCl2, rfl⟩; refine E.relist (L2 := (_ :: _)) rfl ?_
     refine E.loud1 (OpX.pick [] (F := (_ :: _)) rfl (X.call rfl Tryd.call23 (newReader_spec a9 data2.length c9))) rfl ?_; rintro _ _ ⟨_, ⟨rb2, rfl, rfl⟩, rfl⟩; refine E.relist (L2 := (_ :: _ :: _)) rfl ?_
     obtain ⟨y1, y2, y3, hA2, hSm⟩ := src_at hs rb2 hCl2 hl2
     refine E.same (hSm ([⟨b8, 0, [.int .i64 0, .string ⟨#[]⟩, .string ⟨#[]⟩, .slice none 0 0, .int .i64 0, .int .u8 0, .slice none 0 0, .int .i64 0]⟩] ++ LZ)) ?_
     refine E.relist (L2 := [_, _, _, _] ++ LZ) rfl ?_
     refine E.pure (S.mkIface rfl conc54) rfl ?_
     refine E.loud1 (X.call rfl Tryd.call38 (reset_in hs (readerSrc K ea hs rb2 a9 c9 data2) data2 y1 y2 y3 zb hA2 hOld _)) rfl ?_; rintro _ _ ⟨LE, rfl, hRE, rfl⟩; refine E.relist (L2 := (_ :: _)) rfl ?_
     refine E.pure (S.assign rfl) rfl ?_
     refine E.keep [3, 8, 9, 12] (env1 := [(3, _), (8, _), (9, _), (12, _)]) rfl ?_
     refine C.seq ?_
     refine C.region ?_
     refine E.pure (S.move rfl) rfl ?_
     refine E.still (S.neErNil rfl) rfl ?_
     refine E.keep [3, 8, 9, 12, 51] (env1 := [(3, _), (8, _), (9, _), (12, _), (51, _)]) rfl ?_
     first | refine C.ifp rfl (fun h51 => ?_) (fun h51 => ?_) | refine C.ifNone rfl (fun h51 => ?_) (fun h51 => ?_) | refine C.ifSome rfl (fun h51 => ?_) (fun h51 => ?_) | refine C.ifSe rfl (fun h51 => ?_) (fun h51 => ?_) | refine C.ifNotSe rfl (fun h51 => ?_) (fun h51 => ?_) | refine C.cond rfl (fun h51 => ?_) (fun h51 => ?_)
     ·
      obtain ⟨_, w1, w2, w3, TT, _, rfl⟩ := hRE.resolve_right fun h => h51 h.1
      refine C.relist (L2 := _ :: (w1 :: w2 :: w3 :: TT)) rfl ?_
      refine C.seq ?_
      refine C.region ?_
      refine E.pure (S.move rfl) rfl ?_
      refine E.loud1 (OpX.pick [] (F := (_ :: _)) rfl (X.call rfl Tryd.call27 (kind_spec hs _))) rfl ?_; rintro _ _ ⟨_, ⟨rfl, rfl⟩, rfl⟩; refine E.relist (L2 := (_ :: _)) rfl ?_
      refine E.pure (S.buildV (v := .agg #[.int .i64 ((kindOf (readHead data2).1 : Nat) : Int), .string ⟨#[]⟩, .string ⟨#[]⟩, .slice none 0 0, .int .i64 0, .int .u8 0, .slice none 0 0, .int .i64 0]) [(0, .int .i64 ((kindOf (readHead data2).1 : Nat) : Int))] rfl (fun w => by simp [Instr.build, Instr.fill, Value.cells, Tryd.zeroValue43])) rfl ?_
      refine E.loud0 (X.storeA 0 (k := 0) rfl rfl rfl rfl rfl rfl Tryd.sizeOf43 rfl) ?_; rintro _ _ ⟨rfl, rfl⟩; refine E.relist (L2 := (_ :: _)) rfl ?_
      refine E.keep [3, 8, 9, 12, 51] (env1 := [(3, _), (8, _), (9, _), (12, _), (51, _)]) rfl ?_
      refine C.ret ?_
      refine ⟨_, ⟨_, _, 0, rfl, rfl, rfl⟩, [], _, Same.refl _, ?_⟩
      rw [unpOf, if_pos h51]
      exact ⟨.slice none 0 0, .slice none 0 0, rfl, RdV.nil, RdV.nil⟩
     ·
      obtain ⟨_, hZA⟩ := hRE.resolve_left fun h => h.1 h51
      refine C.skip ?_
      refine C.seq ?_
      refine C.region ?_
      refine E.pure (S.move rfl) rfl ?_
      refine E.pure (S.move rfl) rfl ?_
      refine E.loud1 (X.call rfl Tryd.call35 (rest_in hs hc (readHead_mod _) hsz (Nat.le_trans (gzR_len _ _ (by have := readHead_le data2; omega)) (by decide)) hZA [_])) rfl ?_; rintro _ _ ⟨a1, k1, a2, k2, GL2, TT, rfl, hU, hT, rfl⟩; refine E.relist (L2 := (_ :: _)) rfl ?_
      refine E.loud0 (X.storeA 0 (k := 0) rfl rfl rfl rfl rfl rfl Tryd.sizeOf43 rfl) ?_; rintro _ _ ⟨rfl, rfl⟩; refine E.relist (L2 := (_ :: _)) rfl ?_
      refine E.keep [8, 9, 12, 51] (env1 := [(8, _), (9, _), (12, _), (51, _)]) rfl ?_
      refine C.ret ?_
      refine ⟨_, ⟨_, _, 0, rfl, rfl, rfl⟩, GL2, _ :: TT, Same.perm (List.perm_middle (l₁ := GL2) (l₂ := TT)).symm, ?_⟩
      rw [unpOf, if_neg (fun hh => hh h51)]
      exact hU
 ·
  refine E.relist (L2 := (_ :: _)) rfl ?_
  refine E.pure (S.move rfl) rfl ?_
  refine E.pure (S.extract rfl rfl) rfl ?_
  refine E.pure (S.extract rfl rfl) rfl ?_
  refine E.pure (S.assign rfl) rfl ?_
  refine E.pure (S.assign rfl) rfl ?_
  refine E.keep [1, 2, 3, 8, 9, 10] (env1 := [(1, _), (2, _), (3, _), (8, _), (9, _), (10, _)]) rfl ?_
  refine C.cut (M := fun ee ll => ∃ (b8 : Nat), ∃ (zb : Nat), ∃ (e : Er), ∃ (LZ : Frags), ∃ (rb : Nat), ∃ (a : Option Addr), ∃ (c : Nat), keeps ee [1, 2, 3, 8, 9, 10] = some [(1, .int .i64 ((n : Nat) : Int)), (2, v2), (3, sv), (8, .pointer (some ⟨b8, 0, none⟩)), (9, .pointer (some ⟨zb, 0, none⟩)), (10, Er.val ea e)] ∧ ll = [⟨b8, 0, [.int .i64 0, .string ⟨#[]⟩, .string ⟨#[]⟩, .slice none 0 0, .int .i64 0, .int .u8 0, .slice none 0 0, .int .i64 0]⟩] ++ LZ ∧ (ZSt (readerSrc K ea hs rb a c data1) zb e LZ)) ?_ ?_
  ·
   refine C.seq ?_
   refine C.region ?_
   refine E.pure (S.move rfl) rfl ?_
   refine E.still (S.neErNil rfl) rfl ?_
   refine E.keep [1, 2, 3, 8, 9, 10, 22] (env1 := [(1, _), (2, _), (3, _), (8, _), (9, _), (10, _), (22, _)]) rfl ?_
   first | refine C.ifp rfl (fun h22 => ?_) (fun h22 => ?_) | refine C.ifNone rfl (fun h22 => ?_) (fun h22 => ?_) | refine C.ifSome rfl (fun h22 => ?_) (fun h22 => ?_) | refine C.ifSe rfl (fun h22 => ?_) (fun h22 => ?_) | refine C.ifNotSe rfl (fun h22 => ?_) (fun h22 => ?_) | refine C.cond rfl (fun h22 => ?_) (fun h22 => ?_)
   ·
    exact absurd hno h22
   ·
    obtain ⟨LZr, Jr, hRn, hSr⟩ := hZ.rd
    refine C.same ((Same.appendL [_] hSr).trans (Same.of_eq (List.append_assoc _ _ _).symm)) ?_
    refine C.dropR ?_
    refine C.skip ?_
    first | exact ⟨b8, b23, _, LZn, rb, a, c, rfl, rfl, .inl ⟨hne, hOn⟩⟩ | exact ⟨b8, zb, _, LZr, rb, a, c, rfl, rfl, .inr ⟨hno, _, hRn⟩⟩
  ·
   rintro _ _ ⟨b8, zb, e, LZ, rb, a, c, hq4, rfl, hSt⟩
   refine C.weaken _ hq4 ?_
   refine C.cut (M := fun ee ll => ∃ (e : Er), ∃ (LZ : Frags), keeps ee [1, 2, 3, 8, 9] = some [(1, .int .i64 ((n : Nat) : Int)), (2, v2), (3, sv), (8, .pointer (some ⟨b8, 0, none⟩)), (9, .pointer (some ⟨zb, 0, none⟩))] ∧ ll = [⟨b8, 0, [.int .i64 0, .string ⟨#[]⟩, .string ⟨#[]⟩, .slice none 0 0, .int .i64 0, .int .u8 0, .slice none 0 0, .int .i64 0]⟩] ++ LZ ∧ (ZSt (readerSrc K ea hs rb a c data1) zb e LZ)) ?_ ?_
   ·
    refine C.seq ?_
    refine C.region ?_
    refine E.pure (S.assign rfl) rfl ?_
    refine E.keep [1, 2, 3, 8, 9, 10, 11] (env1 := [(1, _), (2, _), (3, _), (8, _), (9, _), (10, _), (11, _)]) rfl ?_
    refine C.block ?_
    refine C.loop (fun mm ee ll => ∃ (i : Nat), ∃ (e : Er), ∃ (LZ : Frags), keeps ee [1, 2, 3, 8, 9, 10, 11] = some [(1, .int .i64 ((n : Nat) : Int)), (2, v2), (3, sv), (8, .pointer (some ⟨b8, 0, none⟩)), (9, .pointer (some ⟨zb, 0, none⟩)), (10, Er.val ea e), (11, .int .i64 ((i : Nat) : Int))] ∧ ll = [⟨b8, 0, [.int .i64 0, .string ⟨#[]⟩, .string ⟨#[]⟩, .slice none 0 0, .int .i64 0, .int .u8 0, .slice none 0 0, .int .i64 0]⟩] ++ LZ ∧ (ZSt (readerSrc K ea hs rb a c data1) zb e LZ) ∧ (i ≤ n) ∧ mm = n - i) (_) ⟨0, e, LZ, rfl, rfl, hSt, Nat.zero_le _, rfl⟩ ?_
    rintro m1 _ _ ⟨i, e, LZ, hk1, rfl, hSt, hin, hm1⟩
    refine C.weaken _ hk1 ?_
    refine C.seq ?_
    refine C.seq ?_
    refine C.region ?_
    refine E.pure (S.move rfl) rfl ?_
    refine E.pure (S.move rfl) rfl ?_
    refine E.pure (S.lt rfl rfl) rfl ?_
    refine E.pure (S.move rfl) rfl ?_
    refine E.fork (fun g27 => ?_) (fun g27 => ?_)
    ·
     refine E.wanted 27 rfl rfl ?_
     refine E.pure (S.move rfl) rfl ?_
     refine E.wanted 27 rfl rfl ?_
     refine E.still (S.eqErNil rfl) rfl ?_
     refine E.pure (S.pickT rfl rfl) rfl ?_
     refine E.keep [1, 2, 3, 8, 9, 10, 11, 30] (env1 := [(1, _), (2, _), (3, _), (8, _), (9, _), (10, _), (11, _), (30, _)]) rfl ?_
     first | refine C.ifp rfl (fun h30 => ?_) (fun h30 => ?_) | refine C.ifNone rfl (fun h30 => ?_) (fun h30 => ?_) | refine C.ifSome rfl (fun h30 => ?_) (fun h30 => ?_) | refine C.ifSe rfl (fun h30 => ?_) (fun h30 => ?_) | refine C.ifNotSe rfl (fun h30 => ?_) (fun h30 => ?_) | refine C.cond rfl (fun h30 => ?_) (fun h30 => ?_)
     ·
      obtain ⟨_, Y, hRd⟩ := hSt.resolve_left fun h => h.1 h30
      refine C.skip ?_
      refine C.seq ?_
      refine C.block ?_
      refine C.region ?_
      refine E.pure (S.move rfl) rfl ?_
      refine E.loud1 (X.make (l := 64) (c := 64) (bytes := 1) Tryd.underlying22 infoB (z := .int .u8 0) rfl rfl rfl rfl rfl rfl (Nat.le_refl _) (by decide) (by decide)) rfl ?_; rintro _ _ ⟨nb, rfl, rfl⟩; refine E.relist (L2 := (_ :: _ :: _)) rfl ?_
      refine E.loud1 (X.call rfl Tryd.call36 (zRead_spec hs hc hRd nb 0 64 64 (List.replicate 64 (.int .u8 0)) List.length_replicate.symm (by decide) (Nat.le_refl _) (by decide) [_])) rfl ?_; rintro _ _ ⟨k, er, LZ2, rfl, hk1, hk2, rfl, hE⟩; refine E.relist (L2 := (_ :: _ :: _)) rfl ?_
      refine E.pure (S.move rfl) rfl ?_
      refine E.pure (S.extract rfl rfl) rfl ?_
      refine E.pure (S.extract rfl rfl) rfl ?_
      refine E.pure (S.assign rfl) rfl ?_
      refine E.keep [1, 2, 3, 8, 9, 10, 11, 30] (env1 := [(1, _), (2, _), (3, _), (8, _), (9, _), (10, _), (11, _), (30, _)]) rfl ?_
      obtain ⟨LZ3, J3, hSt3, hSm3⟩ := zst_read hE
      refine C.relist (L2 := [_, _] ++ LZ2) rfl ?_
      refine C.same (hSm3 [_, _]) ?_
      refine C.dropR ?_
      refine C.shed [0] (A := [_]) (F := _ :: LZ3) rfl ?_
      refine C.relist (L2 := [_] ++ LZ3) rfl ?_
      refine C.region ?_
      refine E.pure (S.move rfl) rfl ?_
      refine E.pure (S.add (b := ((1 : Nat) : Int)) rfl rfl (N.add64 (by omega))) rfl ?_
      refine E.pure (S.assign rfl) rfl ?_
      refine E.keep [1, 2, 3, 8, 9, 10, 11, 30] (env1 := [(1, _), (2, _), (3, _), (8, _), (9, _), (10, _), (11, _), (30, _)]) rfl ?_
      refine ⟨_, ?_, i + 1, er, LZ3, rfl, rfl, hSt3, by omega, rfl⟩; omega
     ·
      refine C.exit rfl ?_
      exact ⟨e, LZ, rfl, rfl, hSt⟩
    ·
     refine E.guardNo 27 false rfl rfl rfl rfl ?_
     refine E.guardNo 27 false rfl rfl rfl rfl ?_
     refine E.pure (S.pickF rfl rfl) rfl ?_
     refine E.keep [1, 2, 3, 8, 9, 10, 11, 30] (env1 := [(1, _), (2, _), (3, _), (8, _), (9, _), (10, _), (11, _), (30, _)]) rfl ?_
     refine C.no rfl (rfl) ?_
     refine C.exit rfl ?_
     exact ⟨e, LZ, rfl, rfl, hSt⟩
   ·
    rintro _ _ ⟨e, LZ, hq8, rfl, hSt⟩
    refine C.weaken _ hq8 ?_
    obtain ⟨LZo, Jo, hOld, hSo⟩ := hSt.old
    refine C.same (hSo [_]) ?_
    refine C.dropR ?_
    refine C.cut (M := fun ee ll => ∃ (LZ : Frags), keeps ee [2, 3, 8, 9] = some [(2, v2), (3, sv), (8, .pointer (some ⟨b8, 0, none⟩)), (9, .pointer (some ⟨zb, 0, none⟩))] ∧ ll = [⟨b8, 0, [.int .i64 0, .string ⟨#[]⟩, .string ⟨#[]⟩, .slice none 0 0, .int .i64 0, .int .u8 0, .slice none 0 0, .int .i64 0]⟩] ++ LZ ∧ (ZOld zb LZ)) ?_ ?_
    ·
     refine C.seq ?_
     refine C.region ?_
     refine E.pure (S.move rfl) rfl ?_
     refine E.pure (S.rem (a := ((n : Nat) : Int)) (b := ((2 : Nat) : Int)) (r := ((n % 2 : Nat) : Int)) rfl rfl (by omega) (by rw [← Int.ofNat_tmod])) rfl ?_
     refine E.pure (S.ne (b := ((0 : Nat) : Int)) rfl rfl) rfl ?_
     refine E.keep [1, 2, 3, 8, 9, 41] (env1 := [(1, _), (2, _), (3, _), (8, _), (9, _), (41, _)]) rfl ?_
     refine C.ifp rfl (fun h41 => ?_) (fun h41 => ?_)
     ·
      obtain ⟨c0, c1, c2, c3, c4, c5, rv, dcv, dg, sz, bs, ev, ms, DL, hbs, hDL, rfl⟩ := hOld
      refine C.relist (L2 := [_, _, _, _] ++ DL) rfl ?_
      refine C.region ?_
      refine E.pure (S.move rfl) rfl ?_
      refine E.loud1 (OpX.pick [3] (F := (_ :: _ :: _ :: _)) rfl (X.call rfl Tryd.call37 (multi_walk zb _ _ false))) rfl ?_; rintro _ _ ⟨_, ⟨rfl, rfl⟩, rfl⟩; refine E.relist (L2 := (_ :: _ :: _ :: _ :: _)) rfl ?_
      refine E.perml [1, 1, 1, 0] rfl ?_
      refine E.relist (L2 := (_ :: _ :: _ :: _ :: _)) rfl ?_
      refine E.keep [1, 2, 3, 8, 9, 41] (env1 := [(1, _), (2, _), (3, _), (8, _), (9, _), (41, _)]) rfl ?_
      first | exact ⟨_, rfl, rfl, hOld⟩ | exact ⟨_, rfl, rfl, ⟨c0, c1, c2, c3, c4, c5, rv, dcv, dg, sz, bs, ev, _, DL, hbs, hDL, rfl⟩⟩
     ·
      refine C.skip ?_
      exact ⟨_, rfl, rfl, hOld⟩
    ·
     rintro _ _ ⟨LZ, hq10, rfl, hOld⟩
     refine C.weaken _ hq10 ?_
     refine C.seq ?_
     refine C.seq ?_
     refine C.region ?_
     refine E.pure (S.move rfl) rfl ?_
     refine E.pure (S.move rfl) rfl ?_
     refine E.loud1 (X.call rfl Tryd.call24 (clone_in hv2 hl2 _)) rfl ?_; rintro _ _ ⟨a9, c9, GL9, rfl, hCl2, rfl⟩; refine E.relist (L2 := (_ :: _)) rfl ?_
     refine E.loud1 (OpX.pick [] (F := (_ :: _)) rfl (X.call rfl Tryd.call23 (newReader_spec a9 data2.length c9))) rfl ?_; rintro _ _ ⟨_, ⟨rb2, rfl, rfl⟩, rfl⟩; refine E.relist (L2 := (_ :: _ :: _)) rfl ?_
     obtain ⟨y1, y2, y3, hA2, hSm⟩ := src_at hs rb2 hCl2 hl2
     refine E.same (hSm ([⟨b8, 0, [.int .i64 0, .string ⟨#[]⟩, .string ⟨#[]⟩, .slice none 0 0, .int .i64 0, .int .u8 0, .slice none 0 0, .int .i64 0]⟩] ++ LZ)) ?_
     refine E.relist (L2 := [_, _, _, _] ++ LZ) rfl ?_
     refine E.pure (S.mkIface rfl conc54) rfl ?_
     refine E.loud1 (X.call rfl Tryd.call38 (reset_in hs (readerSrc K ea hs rb2 a9 c9 data2) data2 y1 y2 y3 zb hA2 hOld _)) rfl ?_; rintro _ _ ⟨LE, rfl, hRE, rfl⟩; refine E.relist (L2 := (_ :: _)) rfl ?_
     refine E.pure (S.assign rfl) rfl ?_
     refine E.keep [3, 8, 9, 12] (env1 := [(3, _), (8, _), (9, _), (12, _)]) rfl ?_
     refine C.seq ?_
     refine C.region ?_
     refine E.pure (S.move rfl) rfl ?_
     refine E.still (S.neErNil rfl) rfl ?_
     refine E.keep [3, 8, 9, 12, 51] (env1 := [(3, _), (8, _), (9, _), (12, _), (51, _)]) rfl ?_
     first | refine C.ifp rfl (fun h51 => ?_) (fun h51 => ?_) | refine C.ifNone rfl (fun h51 => ?_) (fun h51 => ?_) | refine C.ifSome rfl (fun h51 => ?_) (fun h51 => ?_) | refine C.ifSe rfl (fun h51 => ?_) (fun h51 => ?_) | refine C.ifNotSe rfl (fun h51 => ?_) (fun h51 => ?_) | refine C.cond rfl (fun h51 => ?_) (fun h51 => ?_)
     ·
      obtain ⟨_, w1, w2, w3, TT, _, rfl⟩ := hRE.resolve_right fun h => h51 h.1
      refine C.relist (L2 := _ :: (w1 :: w2 :: w3 :: TT)) rfl ?_
      refine C.seq ?_
      refine C.region ?_
      refine E.pure (S.move rfl) rfl ?_
      refine E.loud1 (OpX.pick [] (F := (_ :: _)) rfl (X.call rfl Tryd.call27 (kind_spec hs _))) rfl ?_; rintro _ _ ⟨_, ⟨rfl, rfl⟩, rfl⟩; refine E.relist (L2 := (_ :: _)) rfl ?_
      refine E.pure (S.buildV (v := .agg #[.int .i64 ((kindOf (readHead data2).1 : Nat) : Int), .string ⟨#[]⟩, .string ⟨#[]⟩, .slice none 0 0, .int .i64 0, .int .u8 0, .slice none 0 0, .int .i64 0]) [(0, .int .i64 ((kindOf (readHead data2).1 : Nat) : Int))] rfl (fun w => by simp [Instr.build, Instr.fill, Value.cells, Tryd.zeroValue43])) rfl ?_
      refine E.loud0 (X.storeA 0 (k := 0) rfl rfl rfl rfl rfl rfl Tryd.sizeOf43 rfl) ?_; rintro _ _ ⟨rfl, rfl⟩; refine E.relist (L2 := (_ :: _)) rfl ?_
      refine E.keep [3, 8, 9, 12, 51] (env1 := [(3, _), (8, _), (9, _), (12, _), (51, _)]) rfl ?_
      refine C.ret ?_
      refine ⟨_, ⟨_, _, 0, rfl, rfl, rfl⟩, [], _, Same.refl _, ?_⟩
      rw [unpOf, if_pos h51]
      exact ⟨.slice none 0 0, .slice none 0 0, rfl, RdV.nil, RdV.nil⟩
     ·
      obtain ⟨_, hZA⟩ := hRE.resolve_left fun h => h.1 h51
      refine C.skip ?_
      refine C.seq ?_
      refine C.region ?_
      refine E.pure (S.move rfl) rfl ?_
      refine E.pure (S.move rfl) rfl ?_
      refine E.loud1 (X.call rfl Tryd.call35 (rest_in hs hc (readHead_mod _) hsz (Nat.le_trans (gzR_len _ _ (by have := readHead_le data2; omega)) (by decide)) hZA [_])) rfl ?_; rintro _ _ ⟨a1, k1, a2, k2, GL2, TT, rfl, hU, hT, rfl⟩; refine E.relist (L2 := (_ :: _)) rfl ?_
      refine E.loud0 (X.storeA 0 (k := 0) rfl rfl rfl rfl rfl rfl Tryd.sizeOf43 rfl) ?_; rintro _ _ ⟨rfl, rfl⟩; refine E.relist (L2 := (_ :: _)) rfl ?_
      refine E.keep [8, 9, 12, 51] (env1 := [(8, _), (9, _), (12, _), (51, _)]) rfl ?_
      refine C.ret ?_
      refine ⟨_, ⟨_, _, 0, rfl, rfl, rfl⟩, GL2, _ :: TT, Same.perm (List.perm_middle (l₁ := GL2) (l₂ := TT)).symm, ?_⟩
      rw [unpOf, if_neg (fun hh => hh h51)]
      exact hU
theorem unpack2_spec {K : Known} {ea : Fin 5 → Addr} (hs : Sents K ea) (hc : Codes K) {v1 v2 : Value} {data1 data2 : List UInt8} (hv1 : BA K v1 data1) (hv2 : BA K v2 data2) (hl1 : data1.length ≤ 65536) (hl2 : data2.length ≤ 65536) {n : Nat} (hn : n ≤ 65536) {sv : Value} (hsz : SzA K sv) (G : Frags) :
    Fn Tryd.prog K 19 #[v1, .int .i64 ((n : Nat) : Int), v2, sv] G fun r L => ∃ GL, UnpV (unpOf data2) r GL ∧ L = G ++ GL := by
  refine Fn.lose (Fn.frame (L := []) (F := G) (unpack2_walk hs hc v1 v2 data1 data2 hv1 hv2 hl1 hl2 n hn sv hsz)) ?_
  rintro r L ⟨L1, ⟨L2, J, hS, hU⟩, rfl⟩
  refine ⟨G ++ L2, J, ?_, L2, hU, rfl⟩
  have := Same.appendL G hS
  rw [← List.append_assoc] at this
  exact (Same.perm List.perm_append_comm).trans this

end Go.Eng
namespace Go.Eng
open Go Go.Proofs
set_option maxRecDepth 100000

theorem law9 {K : Known} {ea : Fin 5 → Addr} (hs : Sents K ea) (hc : Codes K) (d1 : List UInt8) (a1 : Option Addr) (c1 : Nat) (hv1 : BA K (.slice a1 d1.length c1) d1) (z : Int) (d2 : List UInt8) (a2 : Option Addr) (c2 : Nat) (hv2 : BA K (.slice a2 d2.length c2) d2) (a3 : Option Addr) (n3 c3 : Nat) (hsz : SzA K (.slice a3 n3 c3)) : Fn Tryd.prog K 8 #[.slice a1 d1.length c1, .int .i64 z, .slice a2 d2.length c2, .slice a3 n3 c3] ([]) (fun r L => r = .bool true) := by
 refine Fn.intro (args := [.slice a1 d1.length c1, .int .i64 z, .slice a2 d2.length c2, .slice a3 n3 c3]) (RR := Ret1 8 _) Tryd.func8 rfl rfl Tryd.ntmps8 (res1 Tryd.results8) ?_
 refine C.reenv (env2 := [(0, .slice a1 d1.length c1), (1, .int .i64 z), (2, .slice a2 d2.length c2), (3, .slice a3 n3 c3)]) rfl ?_
 refine C.seq ?_
 refine C.region ?_
 refine E.pure (S.assign rfl) rfl ?_
 refine E.keep [0, 1, 2, 3, 8] (env1 := [(0, _), (1, _), (2, _), (3, _), (8, _)]) rfl ?_
 refine C.seq ?_
 refine C.seq ?_
 refine C.region ?_
 refine E.pure (S.move rfl) rfl ?_
 refine E.pure (S.lenSl rfl Tryd.underlying22) rfl ?_
 refine E.pure (S.gt (b := ((2147483647 : Nat) : Int)) rfl rfl) rfl ?_
 refine E.pure (S.move rfl) rfl ?_
 refine E.fork (fun g12 => ?_) (fun g12 => ?_)
 ·
  refine E.guardNo 12 true rfl rfl rfl rfl ?_
  refine E.guardNo 12 true rfl rfl rfl rfl ?_
  refine E.guardNo 12 true rfl rfl rfl rfl ?_
  refine E.pure (S.pickT rfl rfl) rfl ?_
  refine E.pure (S.move rfl) rfl ?_
  refine E.guardNo 17 true rfl rfl rfl rfl ?_
  refine E.guardNo 17 true rfl rfl rfl rfl ?_
  refine E.guardNo 17 true rfl rfl rfl rfl ?_
  refine E.pure (S.pickT rfl rfl) rfl ?_
  refine E.keep [0, 1, 2, 3, 8, 21] (env1 := [(0, _), (1, _), (2, _), (3, _), (8, _), (21, _)]) rfl ?_
  refine C.yes rfl (rfl) ?_
  refine C.seq ?_
  refine C.region ?_
  refine E.pure (S.assign rfl) rfl ?_
  refine E.keep [0, 1, 2, 3, 8, 21] (env1 := [(0, _), (1, _), (2, _), (3, _), (8, _), (21, _)]) rfl ?_
  refine C.ret ?_
  exact ⟨_, rfl, rfl⟩
 ·
  refine E.wanted 12 rfl rfl ?_
  refine E.pure (S.move rfl) rfl ?_
  refine E.wanted 12 rfl rfl ?_
  refine E.pure (S.lenSl rfl Tryd.underlying22) rfl ?_
  refine E.wanted 12 rfl rfl ?_
  refine E.pure (S.gt (b := ((2147483647 : Nat) : Int)) rfl rfl) rfl ?_
  refine E.pure (S.pickF rfl rfl) rfl ?_
  refine E.pure (S.move rfl) rfl ?_
  refine E.fork (fun g17 => ?_) (fun g17 => ?_)
  ·
   refine E.guardNo 17 true rfl rfl rfl rfl ?_
   refine E.guardNo 17 true rfl rfl rfl rfl ?_
   refine E.guardNo 17 true rfl rfl rfl rfl ?_
   refine E.pure (S.pickT rfl rfl) rfl ?_
   refine E.keep [0, 1, 2, 3, 8, 21] (env1 := [(0, _), (1, _), (2, _), (3, _), (8, _), (21, _)]) rfl ?_
   refine C.yes rfl (rfl) ?_
   refine C.seq ?_
   refine C.region ?_
   refine E.pure (S.assign rfl) rfl ?_
   refine E.keep [0, 1, 2, 3, 8, 21] (env1 := [(0, _), (1, _), (2, _), (3, _), (8, _), (21, _)]) rfl ?_
   refine C.ret ?_
   exact ⟨_, rfl, rfl⟩
  ·
   refine E.wanted 17 rfl rfl ?_
   refine E.pure (S.move rfl) rfl ?_
   refine E.wanted 17 rfl rfl ?_
   refine E.pure (S.lenSl rfl Tryd.underlying39) rfl ?_
   refine E.wanted 17 rfl rfl ?_
   refine E.pure (S.gt (b := ((2147483647 : Nat) : Int)) rfl rfl) rfl ?_
   refine E.pure (S.pickF rfl rfl) rfl ?_
   refine E.keep [0, 1, 2, 3, 8, 21] (env1 := [(0, _), (1, _), (2, _), (3, _), (8, _), (21, _)]) rfl ?_
   refine C.ifp rfl (fun h21 => ?_) (fun h21 => ?_)
   ·
    refine C.seq ?_
    refine C.region ?_
    refine E.pure (S.assign rfl) rfl ?_
    refine E.keep [0, 1, 2, 3, 8, 21] (env1 := [(0, _), (1, _), (2, _), (3, _), (8, _), (21, _)]) rfl ?_
    refine C.ret ?_
    exact ⟨_, rfl, rfl⟩
   ·
    refine C.skip ?_
    refine C.seq ?_
    refine C.seq ?_
    refine C.region ?_
    refine E.pure (S.move rfl) rfl ?_
    refine E.pure (S.lenSl rfl Tryd.underlying22) rfl ?_
    refine E.pure (S.gt (b := ((65536 : Nat) : Int)) rfl rfl) rfl ?_
    refine E.pure (S.move rfl) rfl ?_
    refine E.fork (fun g25 => ?_) (fun g25 => ?_)
    ·
     refine E.guardNo 25 true rfl rfl rfl rfl ?_
     refine E.guardNo 25 true rfl rfl rfl rfl ?_
     refine E.guardNo 25 true rfl rfl rfl rfl ?_
     refine E.pure (S.pickT rfl rfl) rfl ?_
     refine E.pure (S.move rfl) rfl ?_
     refine E.guardNo 30 true rfl rfl rfl rfl ?_
     refine E.guardNo 30 true rfl rfl rfl rfl ?_
     refine E.pure (S.pickT rfl rfl) rfl ?_
     refine E.pure (S.move rfl) rfl ?_
     refine E.guardNo 34 true rfl rfl rfl rfl ?_
     refine E.guardNo 34 true rfl rfl rfl rfl ?_
     refine E.pure (S.pickT rfl rfl) rfl ?_
     refine E.keep [0, 1, 2, 3, 8, 21, 37] (env1 := [(0, _), (1, _), (2, _), (3, _), (8, _), (21, _), (37, _)]) rfl ?_
     refine C.yes rfl (rfl) ?_
     refine C.seq ?_
     refine C.region ?_
     refine E.loud1 (X.call rfl Tryd.call15 (wakes_spec hs hc _)) rfl ?_; rintro _ _ ⟨rfl, rfl⟩; refine E.relist (L2 := []) rfl ?_
     refine E.pure (S.assign rfl) rfl ?_
     refine E.keep [0, 1, 2, 3, 8, 21, 37] (env1 := [(0, _), (1, _), (2, _), (3, _), (8, _), (21, _), (37, _)]) rfl ?_
     refine C.ret ?_
     exact ⟨_, rfl, rfl⟩
    ·
     refine E.wanted 25 rfl rfl ?_
     refine E.pure (S.move rfl) rfl ?_
     refine E.wanted 25 rfl rfl ?_
     refine E.pure (S.lenSl rfl Tryd.underlying22) rfl ?_
     refine E.wanted 25 rfl rfl ?_
     refine E.pure (S.gt (b := ((65536 : Nat) : Int)) rfl rfl) rfl ?_
     refine E.pure (S.pickF rfl rfl) rfl ?_
     refine E.pure (S.move rfl) rfl ?_
     refine E.fork (fun g30 => ?_) (fun g30 => ?_)
     ·
      refine E.guardNo 30 true rfl rfl rfl rfl ?_
      refine E.guardNo 30 true rfl rfl rfl rfl ?_
      refine E.pure (S.pickT rfl rfl) rfl ?_
      refine E.pure (S.move rfl) rfl ?_
      refine E.guardNo 34 true rfl rfl rfl rfl ?_
      refine E.guardNo 34 true rfl rfl rfl rfl ?_
      refine E.pure (S.pickT rfl rfl) rfl ?_
      refine E.keep [0, 1, 2, 3, 8, 21, 37] (env1 := [(0, _), (1, _), (2, _), (3, _), (8, _), (21, _), (37, _)]) rfl ?_
      refine C.yes rfl (rfl) ?_
      refine C.seq ?_
      refine C.region ?_
      refine E.loud1 (X.call rfl Tryd.call15 (wakes_spec hs hc _)) rfl ?_; rintro _ _ ⟨rfl, rfl⟩; refine E.relist (L2 := []) rfl ?_
      refine E.pure (S.assign rfl) rfl ?_
      refine E.keep [0, 1, 2, 3, 8, 21, 37] (env1 := [(0, _), (1, _), (2, _), (3, _), (8, _), (21, _), (37, _)]) rfl ?_
      refine C.ret ?_
      exact ⟨_, rfl, rfl⟩
     ·
      refine E.wanted 30 rfl rfl ?_
      refine E.pure (S.move rfl) rfl ?_
      refine E.wanted 30 rfl rfl ?_
      refine E.pure (S.lt (b := ((0 : Nat) : Int)) rfl rfl) rfl ?_
      refine E.pure (S.pickF rfl rfl) rfl ?_
      refine E.pure (S.move rfl) rfl ?_
      refine E.fork (fun g34 => ?_) (fun g34 => ?_)
      ·
       refine E.guardNo 34 true rfl rfl rfl rfl ?_
       refine E.guardNo 34 true rfl rfl rfl rfl ?_
       refine E.pure (S.pickT rfl rfl) rfl ?_
       refine E.keep [0, 1, 2, 3, 8, 21, 37] (env1 := [(0, _), (1, _), (2, _), (3, _), (8, _), (21, _), (37, _)]) rfl ?_
       refine C.yes rfl (rfl) ?_
       refine C.seq ?_
       refine C.region ?_
       refine E.loud1 (X.call rfl Tryd.call15 (wakes_spec hs hc _)) rfl ?_; rintro _ _ ⟨rfl, rfl⟩; refine E.relist (L2 := []) rfl ?_
       refine E.pure (S.assign rfl) rfl ?_
       refine E.keep [0, 1, 2, 3, 8, 21, 37] (env1 := [(0, _), (1, _), (2, _), (3, _), (8, _), (21, _), (37, _)]) rfl ?_
       refine C.ret ?_
       exact ⟨_, rfl, rfl⟩
      ·
       refine E.wanted 34 rfl rfl ?_
       refine E.pure (S.move rfl) rfl ?_
       refine E.wanted 34 rfl rfl ?_
       refine E.pure (S.gt (b := ((65536 : Nat) : Int)) rfl rfl) rfl ?_
       refine E.pure (S.pickF rfl rfl) rfl ?_
       refine E.keep [0, 1, 2, 3, 8, 21, 37] (env1 := [(0, _), (1, _), (2, _), (3, _), (8, _), (21, _), (37, _)]) rfl ?_
       refine C.ifp rfl (fun h37 => ?_) (fun h37 => ?_)
       ·
        refine C.seq ?_
        refine C.region ?_
        refine E.loud1 (X.call rfl Tryd.call15 (wakes_spec hs hc _)) rfl ?_; rintro _ _ ⟨rfl, rfl⟩; refine E.relist (L2 := []) rfl ?_
        refine E.pure (S.assign rfl) rfl ?_
        refine E.keep [0, 1, 2, 3, 8, 21, 37] (env1 := [(0, _), (1, _), (2, _), (3, _), (8, _), (21, _), (37, _)]) rfl ?_
        refine C.ret ?_
        exact ⟨_, rfl, rfl⟩
       ·
        refine C.skip ?_
        refine C.seq ?_
        obtain ⟨k, rfl⟩ : ∃ k : Nat, z = (k : Int) := ⟨z.toNat, by omega⟩
        refine C.region ?_
        refine E.pure (S.move rfl) rfl ?_
        refine E.pure (S.move rfl) rfl ?_
        refine E.pure (S.move rfl) rfl ?_
        refine E.pure (S.move rfl) rfl ?_
        refine E.loud1 (X.call rfl Tryd.call19 (unpack2_spec hs hc hv1 hv2 (by omega) (by omega) (n := k) (by omega) hsz [])) rfl ?_; rintro _ _ ⟨GA, hGA, rfl⟩; refine E.relist (L2 := (_)) rfl ?_
        refine E.pure (S.move rfl) rfl ?_
        refine E.pure (S.move rfl) rfl ?_
        refine E.loud1 (X.call rfl Tryd.call17 (unpack_spec hs hc hv2 (by omega) hsz _)) rfl ?_; rintro _ _ ⟨GB, hGB, rfl⟩; refine E.relist (L2 := (_)) rfl ?_
        refine E.loud1 (X.call rfl Tryd.call16 (alike_spec hGA hGB (fun f hf => by simp [hf]) (fun f hf => by simp [hf]))) rfl ?_; rintro _ _ ⟨rfl, rfl⟩; refine E.relist (L2 := (_)) rfl ?_
        refine E.pure (S.move rfl) rfl ?_
        refine E.wanted 48 rfl rfl ?_
        refine E.loud1 (X.call rfl Tryd.call15 (wakes_spec hs hc _)) rfl ?_; rintro _ _ ⟨rfl, rfl⟩; refine E.relist (L2 := (_)) rfl ?_
        refine E.pure (S.pickT rfl rfl) rfl ?_
        refine E.pure (S.assign rfl) rfl ?_
        refine E.keep [0, 1, 2, 3, 8, 21, 37] (env1 := [(0, _), (1, _), (2, _), (3, _), (8, _), (21, _), (37, _)]) rfl ?_
        refine C.ret ?_
        exact ⟨_, rfl, rfl⟩
end Go.Eng
namespace Go.Eng
open Go Go.Proofs Go.ChangeShapes Go.WideShapes Go.RowKit
set_option maxRecDepth 100000

theorem starName : "*" ++ "errors.errorString" = "*errors.errorString" := by decide
theorem errRow (u : TypeId) (h : Tryd.prog.typeName? 3 u = some "*errors.errorString") : u = 179 :=
  typeName_ptr_named (nm := "errors.errorString") (by rw [starName]; kernel_rfl) (by kernel_rfl) (by decide) u (by rw [starName]; exact h)
theorem cellsErr : Tryd.prog.cellsOf 200 = 1 := by kernel_rfl
theorem cellsStr : Tryd.prog.cellsOf 9 = 1 := by kernel_rfl
theorem cellsU8 : Tryd.prog.cellsOf 5 = 1 := by kernel_rfl

abbrev laidErr (text : List UInt8) : DataW Unit := .iface "*errors.errorString" (.ptr (.agg [.lit (.string text)]))

theorem cell_heap {W : World} {b o : Nat} {v : Value} (h : W.cell? ⟨b, o, none⟩ = some v) : cellAt (fun b => W.heap[b]?) b o = some v := by
  unfold World.cell? at h
  unfold cellAt
  dsimp only at h ⊢
  split at h
  · rename_i c t fr hb
    rw [hb]; simpa using h
  · cases h

/-- One laid error. -/
theorem laid_err {W : World} {n : String} {text : List UInt8} {r : List (String × DataW Unit)} {ps : List MemPlace} {g : Nat} (hg : Tryd.prog.globalNamed n = some g) (ht : (Tryd.prog.globals[g]?).map (·.type) = some 59)
    (h : DataW.LaidVars Tryd.prog W ((n, laidErr text) :: r) ps)
    (hrows : ∀ b off, MemPlace.cell b off ∈ ps → (∃ c t, W.heap[b]? = some (.cells c t (0, 0))) ∧ ∀ u v, W.cell? ⟨b, off, none⟩ = some (.iface u v) → Value.okWide Tryd.prog W .any 0 u v) :
    ∃ a q, cellAt (fun b => W.heap[b]?) g 0 = some (.iface 179 (.pointer (some a))) ∧ DataW.LaidVars Tryd.prog W r q ∧ ps = MemPlace.cell g 0 :: (MemPlace.row a 1 ++ q) := by
  obtain ⟨g', t, cs, fuel, p, q, hg', ht', hv, hd, hr, rfl⟩ := h
  obtain rfl := Option.some.inj (hg.symm.trans hg')
  obtain rfl := Option.some.inj (ht.symm.trans ht')
  obtain ⟨l⟩ := cs
  obtain ⟨a, s, rfl, hc, hs, hz, rfl⟩ := errorString_of_trod Tryd.underlying59 errRow Tryd.underlying179 Tryd.underlying200 rfl rfl Tryd.underlying9 cellsErr cellsStr hd (fun u v e => by
    subst e
    exact (hrows g 0 (by simp [MemPlace.row])).2 u v (by simpa using World.var?_cell hg hv 0))
  refine ⟨a, q, ?_, hr, by simp [MemPlace.row]⟩
  exact cell_heap (by simpa using World.var?_cell hg hv 0)

/-- An argument of bytes. -/
theorem arg_bytes {H : Type} {enc : TypeId × Value → H} {W : World} {base : Nat} {v1 : Value} {d1 : DataW H} {p1 : List MemPlace} (hval : Value.okWide Tryd.prog W .any base 22 v1)
    (h1 : DataW.Trod enc Tryd.prog W 0 (fun _ => true) true 22 v1 d1 p1) :
    v1 = .slice none 0 0 ∨ (∃ a c, v1 = .slice (some a) 0 c) ∨ ∃ pb po cap, ∃ l : List UInt8, v1 = .slice (some ⟨pb, po, none⟩) l.length cap ∧ l.length ≤ cap ∧ KB (fun b => W.heap[b]?) pb po l := by
  obtain ⟨a1, len, cap, rfl⟩ := okWide_slice Tryd.underlying22 hval
  obtain ⟨fuel, hf⟩ := h1
  rcases open_ints Tryd.underlying22 Tryd.underlying5 cellsU8 hf with ⟨hcs, hx⟩ | ⟨a, len', cap', zs, hcs, _, hl, hm, hz, hx, hcell, hwz⟩
  · simp [Value.cells] at hcs
    obtain ⟨rfl, rfl, rfl⟩ := hcs
    exact .inl rfl
  · simp [Value.cells] at hcs
    obtain ⟨rfl, rfl, rfl⟩ := hcs
    simp only [if_true] at hz
    by_cases h0 : len = 0
    · subst h0; exact .inr (.inl ⟨_, _, rfl⟩)
    · right; right
      obtain ⟨ab, ao, spot⟩ := a
      have hspot : spot = none := by simpa [Addr.add] using World.cell?_spot (hcell 0 (by omega))
      subst hspot
      have hlen : ((zs.take len).map fun n => UInt8.ofNat n.toNat).length = len := by simp; omega
      refine ⟨ab, ao, cap, (zs.take len).map fun n => UInt8.ofNat n.toNat, by rw [hlen], by rw [hlen]; exact hl, fun j hj => ?_⟩
      rw [hlen] at hj
      have hcj := hcell j (by omega)
      rw [Addr.add_lit] at hcj
      have hb := range_u8 hwz j
      have e : zs.getD j 0 = zs[j]'(by omega) := by simp [List.getD, List.getElem?_eq_getElem (show j < zs.length by omega)]
      rw [e] at hcj
      rw [← List.getD_eq_getElem?_getD, e] at hb
      have hv : (u8 (((zs.take len).map fun n => UInt8.ofNat n.toNat)[j]'(by rw [hlen]; exact hj))) = .int .u8 zs[j] := by
        have e3 : ((zs.take len).map fun n => UInt8.ofNat n.toNat)[j]'(by rw [hlen]; exact hj) = UInt8.ofNat (zs[j]'(by omega)).toNat := by simp
        have e4 : ((UInt8.ofNat (zs[j]'(by omega)).toNat).toNat : Int) = zs[j]'(by omega) := by rw [UInt8.toNat_ofNat']; omega
        show Value.int .u8 _ = _
        rw [e3, e4]
      rw [hv]
      exact cell_heap hcj
end Go.Eng
namespace Go.Eng
open Go Go.Proofs Go.Proofs.YtbjbmpcgiokdaaaDoor Go.ChangeShapes Go.WideShapes Go.RowKit
set_option maxRecDepth 100000

theorem gn0 : Tryd.prog.globalNamed "io.ErrShortBuffer" = some 4 := by kernel_rfl
theorem gn1 : Tryd.prog.globalNamed "io.EOF" = some 0 := by kernel_rfl
theorem gn2 : Tryd.prog.globalNamed "io.ErrUnexpectedEOF" = some 3 := by kernel_rfl
theorem gn4 : Tryd.prog.globalNamed "gzipfiles/pub/gogzip.ErrChecksum" = some 2 := by kernel_rfl
theorem gn5 : Tryd.prog.globalNamed "gzipfiles/pub/gogzip.ErrHeader" = some 1 := by kernel_rfl
theorem gt0 : (Tryd.prog.globals[4]?).map (·.type) = some 59 := by kernel_rfl
theorem gt1 : (Tryd.prog.globals[0]?).map (·.type) = some 59 := by kernel_rfl
theorem gt2 : (Tryd.prog.globals[3]?).map (·.type) = some 59 := by kernel_rfl
theorem gt4 : (Tryd.prog.globals[2]?).map (·.type) = some 59 := by kernel_rfl
theorem gt5 : (Tryd.prog.globals[1]?).map (·.type) = some 59 := by kernel_rfl

theorem laid_skip {W : World} {n : String} {d : DataW Unit} {r : List (String × DataW Unit)} {ps : List MemPlace} (h : DataW.LaidVars Tryd.prog W ((n, d) :: r) ps) : ∃ p q, DataW.LaidVars Tryd.prog W r q ∧ ps = p ++ q := by
  obtain ⟨g, t, cs, fuel, p, q, _, _, _, _, hr, rfl⟩ := h
  exact ⟨_, q, hr, rfl⟩

def eaOf (a0 a1 a2 a3 a4 : Addr) (k : Fin 5) : Addr := match k with
  | 0 => a0
  | 1 => a1
  | 2 => a2
  | 3 => a3
  | 4 => a4

theorem laid_sents {W : World} (h : laidMetH Tryd.prog Rows.fnHeaderTakesItsBytesRow.laid W) : ∃ ea, Sents (fun b => W.heap[b]?) ea := by
  have h' : laidMet Tryd.prog [("io.ErrShortBuffer", Rows.laid_io_ErrShortBuffer), ("io.EOF", Rows.laid_io_EOF), ("io.ErrUnexpectedEOF", Rows.laid_io_ErrUnexpectedEOF), ("gzipfiles/pub/flate.codeOrder", Rows.laid_gzipfiles_pub_flate_codeOrder), ("gzipfiles/pub/gogzip.ErrChecksum", Rows.laid_gzipfiles_pub_gogzip_ErrChecksum), ("gzipfiles/pub/gogzip.ErrHeader", Rows.laid_gzipfiles_pub_gogzip_ErrHeader)] W := h
  obtain ⟨ps, w0, hnd, hrows⟩ := h'
  obtain ⟨a0, q0, c0, w1, rfl⟩ := laid_err gn0 gt0 w0 hrows
  obtain ⟨a1, q1, c1, w2, rfl⟩ := laid_err gn1 gt1 w1 fun b off hb => hrows b off (by simp [hb])
  obtain ⟨a2, q2, c2, w3, rfl⟩ := laid_err gn2 gt2 w2 fun b off hb => hrows b off (by simp [hb])
  obtain ⟨p3, q3, w4, rfl⟩ := laid_skip w3
  obtain ⟨a4, q4, c4, w5, rfl⟩ := laid_err gn4 gt4 w4 fun b off hb => hrows b off (by simp [hb])
  obtain ⟨a5, q5, c5, w6, rfl⟩ := laid_err gn5 gt5 w5 fun b off hb => hrows b off (by simp [hb])
  have k0 := (hrows a0.block a0.off (by simp [MemPlace.row])).1
  have k1 := (hrows a1.block a1.off (by simp [MemPlace.row])).1
  have k2 := (hrows a2.block a2.off (by simp [MemPlace.row])).1
  have k4 := (hrows a4.block a4.off (by simp [MemPlace.row])).1
  have k5 := (hrows a5.block a5.off (by simp [MemPlace.row])).1
  have n15 : a1 ≠ a5 := by rintro rfl; simp [MemPlace.row, List.nodup_append] at hnd
  have n14 : a1 ≠ a4 := by rintro rfl; simp [MemPlace.row, List.nodup_append] at hnd
  have n12 : a1 ≠ a2 := by rintro rfl; simp [MemPlace.row, List.nodup_append] at hnd
  have n10 : a0 ≠ a1 := by rintro rfl; simp [MemPlace.row, List.nodup_append] at hnd
  have n54 : a4 ≠ a5 := by rintro rfl; simp [MemPlace.row, List.nodup_append] at hnd
  have n52 : a2 ≠ a5 := by rintro rfl; simp [MemPlace.row, List.nodup_append] at hnd
  have n50 : a0 ≠ a5 := by rintro rfl; simp [MemPlace.row, List.nodup_append] at hnd
  have n42 : a2 ≠ a4 := by rintro rfl; simp [MemPlace.row, List.nodup_append] at hnd
  have n40 : a0 ≠ a4 := by rintro rfl; simp [MemPlace.row, List.nodup_append] at hnd
  have n20 : a0 ≠ a2 := by rintro rfl; simp [MemPlace.row, List.nodup_append] at hnd
  refine ⟨eaOf a1 a5 a4 a2 a0, fun k => ?_, fun j k e => ?_, c1, c5, c4, c2, c0⟩
  · match k with
    | 0 => exact k1
    | 1 => exact k5
    | 2 => exact k4
    | 3 => exact k2
    | 4 => exact k0
  · match j, k, e with
    | 0, 0, _ => rfl
    | 1, 1, _ => rfl
    | 2, 2, _ => rfl
    | 3, 3, _ => rfl
    | 4, 4, _ => rfl
    | 0, 1, e => exact absurd e n15
    | 0, 2, e => exact absurd e n14
    | 0, 3, e => exact absurd e n12
    | 0, 4, e => exact absurd (Eq.symm e) n10
    | 1, 0, e => exact absurd (Eq.symm e) n15
    | 1, 2, e => exact absurd (Eq.symm e) n54
    | 1, 3, e => exact absurd (Eq.symm e) n52
    | 1, 4, e => exact absurd (Eq.symm e) n50
    | 2, 0, e => exact absurd (Eq.symm e) n14
    | 2, 1, e => exact absurd e n54
    | 2, 3, e => exact absurd (Eq.symm e) n42
    | 2, 4, e => exact absurd (Eq.symm e) n40
    | 3, 0, e => exact absurd (Eq.symm e) n12
    | 3, 1, e => exact absurd e n52
    | 3, 2, e => exact absurd e n42
    | 3, 4, e => exact absurd (Eq.symm e) n20
    | 4, 0, e => exact absurd e n10
    | 4, 1, e => exact absurd e n50
    | 4, 2, e => exact absurd e n40
    | 4, 3, e => exact absurd e n20
end Go.Eng
namespace Go.Eng
open Go Go.Proofs Go.Proofs.YtbjbmpcgiokdaaaDoor Go.ChangeShapes Go.WideShapes Go.RowKit
set_option maxRecDepth 100000

theorem codes_laid {W : World} {d : List (DataW Unit)} {r : List (String × DataW Unit)} {ps : List MemPlace} (hd : d = ordL.map fun n => .lit (.int .i64 (n : Int))) (h : DataW.LaidVars Tryd.prog W (("gzipfiles/pub/flate.codeOrder", .agg d) :: r) ps) : Codes (fun b => W.heap[b]?) := by
  subst hd
  obtain ⟨g, t, cs, fuel, p, q, hg, ht, hv, hd, _, _⟩ := h
  obtain rfl := Option.some.inj ((show Tryd.prog.globalNamed "gzipfiles/pub/flate.codeOrder" = some 5 by kernel_rfl).symm.trans hg)
  obtain rfl := Option.some.inj ((show (Tryd.prog.globals[5]?).map (·.type) = some 156 by kernel_rfl).symm.trans ht)
  obtain ⟨xs, m, _, ex, _, hl, hel⟩ := DataW.trod_array Tryd.underlying156 hd
  have c1 : Tryd.prog.cellsOf 3 = 1 := by kernel_rfl
  refine ⟨fun i hi => ?_⟩
  have hE := hel i hi
  rw [c1, Nat.mul_one, List.getElem?_eq_getElem (by omega)] at hE
  obtain ⟨z, e1, e2, _⟩ := DataW.trod_int Tryd.underlying3 hE
  have hlen : ordL.length = 19 := rfl
  have e3 : (xs.map (·.1)) = ordL.map fun n => .lit (.int .i64 (n : Int)) := (DataW.agg.inj (Prod.mk.inj ex).1).symm
  have e4 : (xs.map (·.1))[i]? = (ordL.map fun (n : Nat) => (DataW.lit (.int .i64 (n : Int)) : DataW Unit))[i]? := by rw [e3]
  rw [List.getElem?_map, List.getElem?_map, List.getElem?_eq_getElem (by omega : i < xs.length), List.getElem?_eq_getElem (by omega : i < ordL.length), e2] at e4
  have hz : z = ((ordL.getD i 0 : Nat) : Int) := by
    simp only [Option.map_some, Option.some.injEq, DataW.lit.injEq, Lit.int.injEq, true_and] at e4
    rw [e4, List.getD, List.getElem?_eq_getElem (by omega : i < ordL.length)]; rfl
  have hc : W.cell? ⟨5, i, none⟩ = some (.int .i64 z) := by
    rw [World.var?_cell hg hv i]
    have : cs.toList[i]? = some (.int .i64 z) := by
      have h0 : ((cs.toList.drop i).take 1)[0]? = some (.int .i64 z) := by rw [e1]; rfl
      simpa using h0
    simpa using this
  rw [← hz, Nat.zero_add, Nat.mul_one]
  exact cell_heap hc

theorem laid_codes {W : World} (h : laidMetH Tryd.prog Rows.fnHeaderTakesItsBytesRow.laid W) : Codes (fun b => W.heap[b]?) := by
  have h' : laidMet Tryd.prog [("io.ErrShortBuffer", Rows.laid_io_ErrShortBuffer), ("io.EOF", Rows.laid_io_EOF), ("io.ErrUnexpectedEOF", Rows.laid_io_ErrUnexpectedEOF), ("gzipfiles/pub/flate.codeOrder", Rows.laid_gzipfiles_pub_flate_codeOrder), ("gzipfiles/pub/gogzip.ErrChecksum", Rows.laid_gzipfiles_pub_gogzip_ErrChecksum), ("gzipfiles/pub/gogzip.ErrHeader", Rows.laid_gzipfiles_pub_gogzip_ErrHeader)] W := h
  obtain ⟨ps, w0, hnd, hrows⟩ := h'
  obtain ⟨p1, q1, w1, rfl⟩ := laid_skip w0
  obtain ⟨p2, q2, w2, rfl⟩ := laid_skip w1
  obtain ⟨p3, q3, w3, rfl⟩ := laid_skip w2
  exact codes_laid rfl w3

/-- An argument of bytes, in one. -/
theorem arg_ba {H : Type} {enc : TypeId × Value → H} {W : World} {base : Nat} {v1 : Value} {d1 : DataW H} {p1 : List MemPlace} (hval : Value.okWide Tryd.prog W .any base 22 v1)
    (h1 : DataW.Trod enc Tryd.prog W 0 (fun _ => true) true 22 v1 d1 p1) : ∃ l a c, v1 = .slice a l.length c ∧ BA (fun b => W.heap[b]?) (.slice a l.length c) l := by
  rcases arg_bytes hval h1 with rfl | ⟨a, c, rfl⟩ | ⟨pb, po, cap, l, rfl, hcap, hp⟩
  · exact ⟨[], none, 0, rfl, .inl ⟨rfl, rfl⟩⟩
  · exact ⟨[], some a, c, rfl, .inr (.inl ⟨a, c, rfl, rfl⟩)⟩
  · exact ⟨l, _, _, rfl, .inr (.inr ⟨pb, po, cap, rfl, hcap, hp⟩)⟩

/-- An argument that is an int. -/
theorem arg_int {W : World} {base : Nat} {v1 : Value} (hval : Value.okWide Tryd.prog W .any base 3 v1) : ∃ z : Int, v1 = .int .i64 z := okWide_int Tryd.underlying3 hval

/-- An argument of ints. -/
theorem arg_ints {H : Type} {enc : TypeId × Value → H} {W : World} {base : Nat} {v1 : Value} {d1 : DataW H} {p1 : List MemPlace} (hval : Value.okWide Tryd.prog W .any base 39 v1)
    (h1 : DataW.Trod enc Tryd.prog W 0 (fun _ => true) true 39 v1 d1 p1) : ∃ a n c, v1 = .slice a n c ∧ SzA (fun b => W.heap[b]?) (.slice a n c) := by
  obtain ⟨a1, len, cap, rfl⟩ := okWide_slice Tryd.underlying39 hval
  obtain ⟨fuel, hf⟩ := h1
  have c1 : Tryd.prog.cellsOf 3 = 1 := by kernel_rfl
  rcases open_ints Tryd.underlying39 Tryd.underlying3 c1 hf with ⟨hcs, hx⟩ | ⟨a, len', cap', zs, hcs, _, hl, hm, hz, hx, hcell, hwz⟩
  · simp [Value.cells] at hcs
    obtain ⟨rfl, rfl, rfl⟩ := hcs
    exact ⟨_, _, _, rfl, none, 0, 0, rfl, by decide, .inl rfl⟩
  · simp [Value.cells] at hcs
    obtain ⟨rfl, rfl, rfl⟩ := hcs
    simp only [if_true] at hz
    have hmx : maxLen ≤ 9223372036854775807 := by decide
    by_cases h0 : len = 0
    · exact ⟨_, _, _, rfl, some a, len, cap, rfl, by omega, .inl h0⟩
    · obtain ⟨ab, ao, spot⟩ := a
      have hspot : spot = none := by simpa [Addr.add] using World.cell?_spot (hcell 0 (by omega))
      subst hspot
      refine ⟨_, _, _, rfl, _, len, cap, rfl, by omega, .inr ⟨ab, ao, rfl, fun j hj => ?_⟩⟩
      have hcj := hcell j (by omega)
      rw [Addr.add_lit] at hcj
      rw [Nat.mul_one]
      exact ⟨_, cell_heap hcj⟩
end Go.Eng
namespace Go.Eng
open Go Go.Proofs Go.ChangeShapes Go.WideShapes Go.RowKit
set_option maxRecDepth 100000

theorem To.below {K : Known} {w w' : World} {L' : Frags} (h : To K w [] w' L') : Below w.heap.size w w' :=
  ⟨h.os, h.tape, h.output, h.size, fun k hk => h.old k hk fun f hf => by cases hf⟩

theorem agree_all (w : World) : Agree (fun b => w.heap[b]?) [] w.heap :=
  ⟨fun _ _ h => h, (fun f hf => by cases hf), (fun f hf => by cases hf), List.Pairwise.nil⟩

section
variable {H : Type} {enc : TypeId × Value → H} {P : Program} {W W' : World}

theorem trodAll_stays (hl : laidOutB P = true) {sp : Nat → Bool} : ∀ {ts : List TypeId} {vs : List Value} {ds : List (DataW H)} {ps : List MemPlace}, (∀ t ∈ ts, P.readableRec t = true ∧ t < P.types.size) →
    DataW.TrodAll enc P W 0 (fun _ => true) true ts vs ds ps → (∀ p ∈ ps, W.sameAt W' p) → (∀ p ∈ ps, sp p.block = true) → DataW.TrodAll enc P W' 0 sp true ts vs ds ps
  | [], [], [], _, _, h, _, _ => h
  | t :: ts, v :: vs, d :: ds, _, ht, ⟨p, q, h1, h2, e⟩, hs, hp => by
    subst e
    exact ⟨p, q, WideElems.Trod_stays hl (ht t (by simp)).1 (ht t (by simp)).2 h1 (fun x hx => hs x (by simp [hx])) (fun x hx => hp x (by simp [hx])),
      trodAll_stays hl (fun t h => ht t (by simp [h])) h2 (fun x hx => hs x (by simp [hx])) (fun x hx => hp x (by simp [hx])), rfl⟩

theorem post_true {f : Func} {s : ChangeSpec} {args : Array Value} {ds gs : List (DataW H)} {before : List MemPlace} {bt : TypeId} (hl : laidOutB P = true)
    (hts : ∀ t ∈ f.params.toList, P.readableRec t = true ∧ t < P.types.size) (hbool : P.underlying bt = some .bool) (hres : f.resultTypes = #[bt]) (hsv : s.vars = [])
    (hfn : s.fn H (ds ++ gs) = { results := [.lit (.bool true)], args := ds, vars := [] }) (hW : DataW.Whole enc P f.params.toList s.vars false W args.toList ds gs before) (hb : Below W.heap.size W W') :
    s.post enc P f false true false false W args (.bool true) W' := by
  have hW' := hW
  obtain ⟨p, q, hA, hV, rfl, hfz, hnd⟩ := hW
  rw [hsv] at hV
  obtain ⟨rfl, rfl⟩ := trodVars_none hV
  have hlt : ∀ x ∈ p, x.block < W.heap.size := fun x hx => by simpa using hW'.lt x (by simp [hx])
  refine ⟨ds, [], p ++ [], [], p, [], hW', ?_, ?_, ?_, hb.frame _, fun h => by cases h⟩
  · rw [hres, hfn]
    exact trodAll_cons_mk (shut_bool hbool _) trodAll_mk0
  · rw [hfn]
    exact trodAll_stays hl hts hA (fun x hx => hb.same (hlt x hx)) (fun x hx => by simpa using hlt x hx)
  · rw [hfn, hsv]
    exact rfl
end
end Go.Eng
namespace Go.Eng
open Go Go.Proofs Go.Proofs.YtbjbmpcgiokdaaaDoor Go.ChangeShapes Go.WideShapes Go.RowKit
set_option maxRecDepth 100000

theorem ownD : ownKnob Tryd.prog.godebug = none := by kernel_rfl
theorem laidOutD : laidOutB Tryd.prog = true := by kernel_rfl

def errS (l : List UInt8) : Obj := .cells #[.string ⟨l.toArray⟩] 200

noncomputable def lowD : Nat := (World.holding Tryd.prog default ⟨#[], #[], []⟩).heap.size

def layErr (g : Nat) (b : Nat) (H : Array Obj) : Array Obj := H.modify g fun
  | .cells _ t frozen => .cells #[.iface 179 (.pointer (some ⟨b, 0, none⟩))] t frozen
  | o => o
def layInts (g : Nat) (l : List Int) (H : Array Obj) : Array Obj := H.modify g fun
  | .cells _ t frozen => .cells (l.map fun n => Value.int .i64 n).toArray t frozen
  | o => o

noncomputable def laidWorldD (os : Os) : World :=
  let w0 := World.holding Tryd.prog os ⟨#[errS [115, 104, 111, 114, 116, 32, 98, 117, 102, 102, 101, 114], errS [69, 79, 70], errS [117, 110, 101, 120, 112, 101, 99, 116, 101, 100, 32, 69, 79, 70],
    errS [103, 122, 105, 112, 58, 32, 105, 110, 118, 97, 108, 105, 100, 32, 99, 104, 101, 99, 107, 115, 117, 109], errS [103, 122, 105, 112, 58, 32, 105, 110, 118, 97, 108, 105, 100, 32, 104, 101, 97, 100, 101, 114]], #[], []⟩
  { w0 with heap := layErr 4 lowD (layErr 0 (lowD + 1) (layErr 3 (lowD + 2) (layErr 2 (lowD + 3) (layErr 1 (lowD + 4)
    (layInts 5 [16, 17, 18, 0, 8, 7, 9, 6, 10, 5, 11, 4, 12, 3, 13, 2, 14, 1, 15] w0.heap))))) }

theorem laid_metD (os : Os) (args : Array Value) : laidMet Tryd.prog Rows.fnHeaderTakesItsBytesRow.laid ((laidWorldD os).forCall (fun _ _ => 0) ⟨#[], args, []⟩).memory :=
  laidMet_of_run' 8 (by kernel_rfl) (by kernel_rfl)
end Go.Eng
