/-
  Walks of bytes.Equal and of the laws' own helper same.
-/
import Derived.Test.YtbjbmpcgiokdaaaDoorWSp3
set_option linter.unusedVariables false
set_option linter.unusedSimpArgs false
namespace Go.Eng
open Go Go.Proofs
set_option maxRecDepth 100000


/-- A slice that reads as bytes. -/
def RB (K : Known) (L : Frags) (a : Option Addr) (l : List UInt8) : Prop := l = [] ∨ ∃ b o, a = some ⟨b, o, none⟩ ∧ Reads K L b o (bytesV l)

theorem str_toList (l : List UInt8) : (ByteArray.mk l.toArray).toList = l := by
  rw [ByteArray.toList_eq]
theorem str_beq (l m : List UInt8) : ((ByteArray.mk l.toArray).toList == (ByteArray.mk m.toArray).toList) = decide (l = m) := by
  rw [str_toList, str_toList]
  by_cases h : l = m
  · subst h; simp
  · simp [h]

theorem bytesEqual_known {K : Known} (a1 a2 : Option Addr) (c1 c2 : Nat) (l1 l2 : List UInt8) (h1 : RB K [] a1 l1) (h2 : RB K [] a2 l2) : Fn Tryd.prog K 29 #[.slice a1 l1.length c1, .slice a2 l2.length c2] [] (fun v _ => v = .bool (decide (l1 = l2))) := by
  refine Fn.intro (args := [.slice a1 l1.length c1, .slice a2 l2.length c2]) (RR := Ret1 4 _) Tryd.func29 rfl rfl Tryd.ntmps29 (res1 Tryd.results29) ?_
  refine C.reenv (env2 := [(0, .slice a1 l1.length c1), (1, .slice a2 l2.length c2)]) rfl ?_
  refine C.seq ?_
  refine C.region ?_
  refine E.pure (S.assign rfl) rfl ?_
  refine E.keep [0, 1, 4] (env1 := [(0, _), (1, _), (4, _)]) rfl ?_
  refine C.seq ?_
  refine C.region ?_
  refine E.pure (S.move rfl) rfl ?_
  refine E.still (S.bytesStr (l := l1) Tryd.underlying22 Tryd.underlying5 Tryd.underlying9 rfl h1) rfl ?_
  refine E.pure (S.move rfl) rfl ?_
  refine E.still (S.bytesStr (l := l2) Tryd.underlying22 Tryd.underlying5 Tryd.underlying9 rfl h2) rfl ?_
  refine E.pure (S.eqStr rfl rfl) rfl ?_
  refine E.pure (S.assign rfl) rfl ?_
  refine E.keep [4] (env1 := [(4, _)]) rfl ?_
  refine C.ret ?_
  exact ⟨_, rfl, by first | (rw [← str_beq]; done) | (rw [← str_beq]; rfl)⟩
theorem RB.still {K : Known} {L : Frags} {a : Option Addr} {l : List UInt8} (h : RB K L a l) {w : World} (hw : Agree K L w.heap) : RB (fun b => w.heap[b]?) [] a l := by
  rcases h with h | ⟨b, o, h1, h2⟩
  · exact .inl h
  · exact .inr ⟨b, o, h1, (h2.kb hw).reads⟩
theorem RB.lift {K : Known} {L : Frags} {a : Option Addr} {l : List UInt8} (h : RB K [] a l) : RB K L a l := by
  rcases h with h | ⟨b, o, h1, h2⟩
  · exact .inl h
  · exact .inr ⟨b, o, h1, fun w hw => h2 w ⟨hw.base, (fun f hf => by cases hf), (fun f hf => by cases hf), List.Pairwise.nil⟩⟩

theorem bytesEqual_spec {K : Known} {L : Frags} (a1 a2 : Option Addr) (c1 c2 : Nat) (l1 l2 : List UInt8) (h1 : RB K L a1 l1) (h2 : RB K L a2 l2) :
    Fn Tryd.prog K 29 #[.slice a1 l1.length c1, .slice a2 l2.length c2] L (fun v L' => v = .bool (decide (l1 = l2)) ∧ L' = L) :=
  Fn.stillR fun w hw => bytesEqual_known a1 a2 c1 c2 l1 l2 (h1.still hw) (h2.still hw)

theorem text_beq (s u : ByteArray) : (s.toList == u.toList) = decide (s = u) := by
  rw [ByteArray.toList_eq, ByteArray.toList_eq]
  by_cases h : s = u
  · subst h; simp
  · have : s.data.toList ≠ u.data.toList := fun e => h (by
      cases s with | mk x => cases u with | mk y => exact congrArg ByteArray.mk (Array.ext' e))
    rw [decide_eq_false h]; exact beq_false_of_ne this

theorem same_known {K : Known} (n1 n2 c1 c2 : ByteArray) (a1 a2 : Option Addr) (k1 k2 : Nat) (l1 l2 : List UInt8) (m1 m2 o1 o2 : Nat) (h1 : RB K [] a1 l1) (h2 : RB K [] a2 l2) : Fn Tryd.prog K 11 #[.agg #[.string n1, .string c1, .slice a1 l1.length k1, .int .i64 ((m1 : Nat) : Int), .int .u8 ((o1 : Nat) : Int)], .agg #[.string n2, .string c2, .slice a2 l2.length k2, .int .i64 ((m2 : Nat) : Int), .int .u8 ((o2 : Nat) : Int)]] [] (fun v _ => v = .bool (decide (n1 = n2 ∧ c1 = c2 ∧ l1 = l2 ∧ m1 = m2 ∧ o1 = o2))) := by
  refine Fn.intro (args := [.agg #[.string n1, .string c1, .slice a1 l1.length k1, .int .i64 ((m1 : Nat) : Int), .int .u8 ((o1 : Nat) : Int)], .agg #[.string n2, .string c2, .slice a2 l2.length k2, .int .i64 ((m2 : Nat) : Int), .int .u8 ((o2 : Nat) : Int)]]) (RR := Ret1 4 _) Tryd.func11 rfl rfl Tryd.ntmps11 (res1 Tryd.results11) ?_
  refine C.reenv (env2 := [(0, .agg #[.string n1, .string c1, .slice a1 l1.length k1, .int .i64 ((m1 : Nat) : Int), .int .u8 ((o1 : Nat) : Int)]), (1, .agg #[.string n2, .string c2, .slice a2 l2.length k2, .int .i64 ((m2 : Nat) : Int), .int .u8 ((o2 : Nat) : Int)])]) rfl ?_
  refine C.seq ?_
  refine C.region ?_
  refine E.loud1 (X.box rfl) rfl ?_; rintro _ _ ⟨b2, rfl, rfl⟩; refine E.relist (L2 := [_]) rfl ?_
  refine E.loud1 (X.box rfl) rfl ?_; rintro _ _ ⟨b3, rfl, rfl⟩; refine E.relist (L2 := [_, _]) rfl ?_
  refine E.pure (S.assign rfl) rfl ?_
  refine E.keep [2, 3, 4] (env1 := [(2, _), (3, _), (4, _)]) rfl ?_
  refine C.seq ?_
  refine C.region ?_
  refine E.pure (S.field rfl fa27_0) rfl ?_
  refine E.still (S.load 1 (k := 0) rfl rfl rfl Tryd.isAgg9) rfl ?_
  refine E.pure (S.field rfl fa24_0) rfl ?_
  refine E.still (S.load 0 (k := 0) rfl rfl rfl Tryd.isAgg9) rfl ?_
  refine E.pure (S.eqStr rfl rfl) rfl ?_
  refine E.reslot (v := .bool (decide (n1 = n2))) (congrArg Value.bool (text_beq n1 n2)) ?_
  refine E.pure (S.move rfl) rfl ?_
  first | refine E.fork (fun g10 => ?_) (fun g10 => ?_) | refine E.forkB (fun g10 => ?_) (fun g10 => ?_)
  ·
    refine E.wanted 10 rfl rfl ?_
    refine E.pure (S.field rfl fa27_1) rfl ?_
    refine E.wanted 10 rfl rfl ?_
    refine E.still (S.load 1 (k := 1) rfl rfl rfl Tryd.isAgg9) rfl ?_
    refine E.wanted 10 rfl rfl ?_
    refine E.pure (S.field rfl fa24_1) rfl ?_
    refine E.wanted 10 rfl rfl ?_
    refine E.still (S.load 0 (k := 1) rfl rfl rfl Tryd.isAgg9) rfl ?_
    refine E.wanted 10 rfl rfl ?_
    refine E.pure (S.eqStr rfl rfl) rfl ?_
    refine E.reslot (v := .bool (decide (c1 = c2))) (congrArg Value.bool (text_beq c1 c2)) ?_
    refine E.pure (S.pickT rfl rfl) rfl ?_
    refine E.pure (S.move rfl) rfl ?_
    first | refine E.fork (fun g17 => ?_) (fun g17 => ?_) | refine E.forkB (fun g17 => ?_) (fun g17 => ?_)
    ·
      refine E.wanted 17 rfl rfl ?_
      refine E.pure (S.field rfl fa27_2) rfl ?_
      refine E.wanted 17 rfl rfl ?_
      refine E.still (S.load 1 (k := 2) rfl rfl rfl Tryd.isAgg22) rfl ?_
      refine E.wanted 17 rfl rfl ?_
      refine E.pure (S.field rfl fa24_2) rfl ?_
      refine E.wanted 17 rfl rfl ?_
      refine E.still (S.load 0 (k := 2) rfl rfl rfl Tryd.isAgg22) rfl ?_
      refine E.wanted 17 rfl rfl ?_
      refine E.loud1 (X.call rfl Tryd.call29 (bytesEqual_spec a1 a2 k1 k2 l1 l2 h1.lift h2.lift)) rfl ?_; rintro _ _ ⟨rfl, rfl⟩; refine E.relist (L2 := [_, _]) rfl ?_
      refine E.pure (S.pickT rfl rfl) rfl ?_
      refine E.pure (S.move rfl) rfl ?_
      first | refine E.fork (fun g24 => ?_) (fun g24 => ?_) | refine E.forkB (fun g24 => ?_) (fun g24 => ?_)
      ·
        refine E.wanted 24 rfl rfl ?_
        refine E.pure (S.field rfl fa27_3) rfl ?_
        refine E.wanted 24 rfl rfl ?_
        refine E.still (S.load 1 (k := 3) rfl rfl rfl Tryd.isAgg2) rfl ?_
        refine E.wanted 24 rfl rfl ?_
        refine E.pure (S.field rfl fa24_3) rfl ?_
        refine E.wanted 24 rfl rfl ?_
        refine E.still (S.load 0 (k := 3) rfl rfl rfl Tryd.isAgg2) rfl ?_
        refine E.wanted 24 rfl rfl ?_
        refine E.pure (S.eq rfl rfl) rfl ?_
        refine E.pure (S.pickT rfl rfl) rfl ?_
        refine E.pure (S.move rfl) rfl ?_
        first | refine E.fork (fun g31 => ?_) (fun g31 => ?_) | refine E.forkB (fun g31 => ?_) (fun g31 => ?_)
        ·
          refine E.wanted 31 rfl rfl ?_
          refine E.pure (S.field rfl fa27_4) rfl ?_
          refine E.wanted 31 rfl rfl ?_
          refine E.still (S.load 1 (k := 4) rfl rfl rfl Tryd.isAgg5) rfl ?_
          refine E.wanted 31 rfl rfl ?_
          refine E.pure (S.field rfl fa24_4) rfl ?_
          refine E.wanted 31 rfl rfl ?_
          refine E.still (S.load 0 (k := 4) rfl rfl rfl Tryd.isAgg5) rfl ?_
          refine E.wanted 31 rfl rfl ?_
          refine E.pure (S.eq rfl rfl) rfl ?_
          refine E.pure (S.pickT rfl rfl) rfl ?_
          refine E.pure (S.assign rfl) rfl ?_
          refine E.keep [2, 3, 4] (env1 := [(2, _), (3, _), (4, _)]) rfl ?_
          refine C.ret ?_
          refine ⟨_, rfl, ?_⟩
          exact congrArg Value.bool (decide_eq_decide.2 ⟨fun h => ⟨g10, g17, g24, by omega, by omega⟩, fun h => by have := h.2.2.2.2; omega⟩)
        ·
          refine E.guardNo 31 false rfl rfl rfl rfl ?_
          refine E.guardNo 31 false rfl rfl rfl rfl ?_
          refine E.guardNo 31 false rfl rfl rfl rfl ?_
          refine E.guardNo 31 false rfl rfl rfl rfl ?_
          refine E.guardNo 31 false rfl rfl rfl rfl ?_
          refine E.pure (S.pickF rfl rfl) rfl ?_
          refine E.pure (S.assign rfl) rfl ?_
          refine E.keep [2, 3, 4] (env1 := [(2, _), (3, _), (4, _)]) rfl ?_
          refine C.ret ?_
          refine ⟨_, rfl, ?_⟩
          exact congrArg Value.bool (decide_eq_false (fun h => g31 (by have := h.2.2.2.1; omega))).symm
      ·
        refine E.guardNo 24 false rfl rfl rfl rfl ?_
        refine E.guardNo 24 false rfl rfl rfl rfl ?_
        refine E.guardNo 24 false rfl rfl rfl rfl ?_
        refine E.guardNo 24 false rfl rfl rfl rfl ?_
        refine E.guardNo 24 false rfl rfl rfl rfl ?_
        refine E.pure (S.pickF rfl rfl) rfl ?_
        refine E.pure (S.move rfl) rfl ?_
        refine E.guardNo 31 false rfl rfl rfl rfl ?_
        refine E.guardNo 31 false rfl rfl rfl rfl ?_
        refine E.guardNo 31 false rfl rfl rfl rfl ?_
        refine E.guardNo 31 false rfl rfl rfl rfl ?_
        refine E.guardNo 31 false rfl rfl rfl rfl ?_
        refine E.pure (S.pickF rfl rfl) rfl ?_
        refine E.pure (S.assign rfl) rfl ?_
        refine E.keep [2, 3, 4] (env1 := [(2, _), (3, _), (4, _)]) rfl ?_
        refine C.ret ?_
        refine ⟨_, rfl, ?_⟩
        exact congrArg Value.bool (decide_eq_false (fun h => g24 h.2.2.1)).symm
    ·
      refine E.guardNo 17 false rfl rfl rfl rfl ?_
      refine E.guardNo 17 false rfl rfl rfl rfl ?_
      refine E.guardNo 17 false rfl rfl rfl rfl ?_
      refine E.guardNo 17 false rfl rfl rfl rfl ?_
      refine E.guardNo 17 false rfl rfl rfl rfl ?_
      refine E.pure (S.pickF rfl rfl) rfl ?_
      refine E.pure (S.move rfl) rfl ?_
      refine E.guardNo 24 false rfl rfl rfl rfl ?_
      refine E.guardNo 24 false rfl rfl rfl rfl ?_
      refine E.guardNo 24 false rfl rfl rfl rfl ?_
      refine E.guardNo 24 false rfl rfl rfl rfl ?_
      refine E.guardNo 24 false rfl rfl rfl rfl ?_
      refine E.pure (S.pickF rfl rfl) rfl ?_
      refine E.pure (S.move rfl) rfl ?_
      refine E.guardNo 31 false rfl rfl rfl rfl ?_
      refine E.guardNo 31 false rfl rfl rfl rfl ?_
      refine E.guardNo 31 false rfl rfl rfl rfl ?_
      refine E.guardNo 31 false rfl rfl rfl rfl ?_
      refine E.guardNo 31 false rfl rfl rfl rfl ?_
      refine E.pure (S.pickF rfl rfl) rfl ?_
      refine E.pure (S.assign rfl) rfl ?_
      refine E.keep [2, 3, 4] (env1 := [(2, _), (3, _), (4, _)]) rfl ?_
      refine C.ret ?_
      refine ⟨_, rfl, ?_⟩
      exact congrArg Value.bool (decide_eq_false (fun h => g17 h.2.1)).symm
  ·
    refine E.guardNo 10 false rfl rfl rfl rfl ?_
    refine E.guardNo 10 false rfl rfl rfl rfl ?_
    refine E.guardNo 10 false rfl rfl rfl rfl ?_
    refine E.guardNo 10 false rfl rfl rfl rfl ?_
    refine E.guardNo 10 false rfl rfl rfl rfl ?_
    refine E.pure (S.pickF rfl rfl) rfl ?_
    refine E.pure (S.move rfl) rfl ?_
    refine E.guardNo 17 false rfl rfl rfl rfl ?_
    refine E.guardNo 17 false rfl rfl rfl rfl ?_
    refine E.guardNo 17 false rfl rfl rfl rfl ?_
    refine E.guardNo 17 false rfl rfl rfl rfl ?_
    refine E.guardNo 17 false rfl rfl rfl rfl ?_
    refine E.pure (S.pickF rfl rfl) rfl ?_
    refine E.pure (S.move rfl) rfl ?_
    refine E.guardNo 24 false rfl rfl rfl rfl ?_
    refine E.guardNo 24 false rfl rfl rfl rfl ?_
    refine E.guardNo 24 false rfl rfl rfl rfl ?_
    refine E.guardNo 24 false rfl rfl rfl rfl ?_
    refine E.guardNo 24 false rfl rfl rfl rfl ?_
    refine E.pure (S.pickF rfl rfl) rfl ?_
    refine E.pure (S.move rfl) rfl ?_
    refine E.guardNo 31 false rfl rfl rfl rfl ?_
    refine E.guardNo 31 false rfl rfl rfl rfl ?_
    refine E.guardNo 31 false rfl rfl rfl rfl ?_
    refine E.guardNo 31 false rfl rfl rfl rfl ?_
    refine E.guardNo 31 false rfl rfl rfl rfl ?_
    refine E.pure (S.pickF rfl rfl) rfl ?_
    refine E.pure (S.assign rfl) rfl ?_
    refine E.keep [2, 3, 4] (env1 := [(2, _), (3, _), (4, _)]) rfl ?_
    refine C.ret ?_
    refine ⟨_, rfl, ?_⟩
    exact congrArg Value.bool (decide_eq_false (fun h => g10 h.1)).symm
end Go.Eng
