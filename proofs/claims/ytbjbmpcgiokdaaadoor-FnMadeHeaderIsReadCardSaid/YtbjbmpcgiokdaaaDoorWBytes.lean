/-
  Walks of package bytes.
-/
import Derived.Test.YtbjbmpcgiokdaaaDoorBytes
set_option linter.unusedVariables false
set_option linter.unusedSimpArgs false
namespace Go.Eng
open Go Go.Proofs
set_option maxRecDepth 100000

theorem bytes_get {l : List UInt8} {cs : List Value} {i : Nat} (h : i < l.length) : (bytesV l ++ cs)[i]? = some (u8 l[i]) := by
  rw [List.getElem?_append_left (by rw [bytesV_length]; exact h)]
  exact bytesV_get h

theorem bytes_part {l : List UInt8} {cs : List Value} (i : Nat) : ((bytesV l ++ cs).drop i).take (bytesV (l.drop i)).length = bytesV (l.drop i) := by
  rw [bytesV_length, List.length_drop]
  by_cases h : i ≤ l.length
  · rw [List.drop_append_of_le_length (by rw [bytesV_length]; exact h), ← bytesV_drop, List.take_append_of_le_length (by rw [bytesV_length, List.length_drop]; omega), List.take_of_length_le (by rw [bytesV_length, List.length_drop]; omega)]
  · rw [show l.drop i = [] from List.drop_eq_nil_of_le (by omega), show l.length - i = 0 by omega]; simp [bytesV]

theorem newReader_spec {K : Known} (a : Option Addr) (n c : Nat) : Fn Tryd.prog K 23 #[.slice a n c] [] (fun r L => ∃ b, r = .pointer (some ⟨b, 0, none⟩) ∧ L = [⟨b, 0, [.slice a n c, .int .i64 0, .int .i64 (-1)]⟩]) := by
  refine Fn.intro (args := [.slice a n c]) (RR := Ret1 2 _) Tryd.func23 rfl rfl Tryd.ntmps23 (res1 Tryd.results23) ?_
  refine C.reenv (env2 := [(0, .slice a n c)]) rfl ?_
  refine C.seq ?_
  refine C.region ?_
  refine E.pure (S.assign rfl) rfl ?_
  refine E.keep [0, 2] (env1 := [(0, _), (2, _)]) rfl ?_
  refine C.seq ?_
  refine C.region ?_
  refine E.pure (S.move rfl) rfl ?_
  refine E.pure (S.build (v := .agg #[.slice a n c, .int .i64 0, .int .i64 (-1)]) rfl (fun w => by simp [Instr.build, Instr.fill, Value.cells, Tryd.zeroValue95, ev?, get?])) rfl ?_
  refine E.loud1 (X.box rfl) rfl ?_; rintro _ _ ⟨b5, rfl, rfl⟩; refine E.relist (L2 := [_]) rfl ?_
  refine E.pure (S.assign rfl) rfl ?_
  refine E.keep [2] (env1 := [(2, _)]) rfl ?_
  refine C.ret ?_
  exact ⟨_, rfl, _, rfl, rfl⟩
theorem readerLen_spec {K : Known} (rb : Nat) (data : List UInt8) (i : Nat) (hd : data.length ≤ 4611686018427387904) (a : Option Addr) (c : Nat) (hi : i ≤ data.length) : Fn Tryd.prog K 26 #[.pointer (some ⟨rb, 0, none⟩)] [⟨rb, 0, [.slice a data.length c, .int .i64 (i : Int), .int .i64 (-1)]⟩] (fun r L => r = .int .i64 ((data.length - i : Nat) : Int) ∧ L = [⟨rb, 0, [.slice a data.length c, .int .i64 (i : Int), .int .i64 (-1)]⟩]) := by
  refine Fn.intro (args := [.pointer (some ⟨rb, 0, none⟩)]) (RR := Ret1 2 _) Tryd.func26 rfl rfl Tryd.ntmps26 (res1 Tryd.results26) ?_
  refine C.reenv (env2 := [(0, .pointer (some ⟨rb, 0, none⟩))]) rfl ?_
  refine C.seq ?_
  refine C.region ?_
  refine E.pure (S.assign rfl) rfl ?_
  refine E.keep [0, 2] (env1 := [(0, _), (2, _)]) rfl ?_
  refine C.seq ?_
  refine C.seq ?_
  refine C.draw [0, 1, 2, 4, 0, 16, 32, 64, 128, 264] (.pure 0 496 (.pure 1 497 (.pure 2 499 (.pure 4 15 (.pure 5 31 (.pure 6 63 (.seg [(3, 503), (7, 127), (8, 255), (9, 511)] .done))))))) mixed (by decide +kernel) ?_
  refine D.pure rfl (S.move rfl) rfl ?_
  refine D.pure rfl (S.nilPtr rfl) rfl ?_
  refine D.pure rfl (S.field rfl fa95_1) rfl ?_
  refine D.pure rfl (S.move rfl) rfl ?_
  refine D.pure rfl (S.nilPtr rfl) rfl ?_
  refine D.pure rfl (S.field rfl fa95_0) rfl ?_
  refine D.seg (by decide) ?_
  refine W.still rfl (S.load 0 (k := 1) rfl rfl rfl Tryd.isAgg2) rfl ?_
  refine W.still rfl (S.load 0 (k := 0) rfl rfl rfl Tryd.isAgg22) rfl ?_
  refine W.pure rfl (S.lenSl rfl Tryd.underlying22) rfl ?_
  refine W.pure rfl (S.ge rfl rfl) rfl ?_
  refine W.nil ?_
  refine D.keep [0, 2, 12] (env1 := [(0, _), (2, _), (12, _)]) rfl ?_
  first | refine C.ifp rfl (fun h12 => ?_) (fun h12 => ?_) | refine C.cond rfl (fun h12 => ?_) (fun h12 => ?_)
  ·
    have hi2 : i = data.length := by omega
    subst hi2
    refine C.seq ?_
    refine C.region ?_
    refine E.pure (S.assign rfl) rfl ?_
    refine E.keep [0, 2, 12] (env1 := [(0, _), (2, _), (12, _)]) rfl ?_
    refine C.ret ?_
    first | exact ⟨_, rfl, rfl, rfl⟩ | exact ⟨_, rfl, by simp, rfl⟩
  ·
    refine C.skip ?_
    refine C.seq ?_
    refine C.draw [0, 1, 2, 4, 8, 0, 32, 64, 128, 272, 1023] (.pure 0 480 (.pure 1 481 (.pure 2 483 (.pure 5 31 (.pure 6 63 (.pure 7 127 (.seg [(3, 487), (4, 495), (8, 255), (9, 511), (10, 1023)] .done))))))) mixed (by decide +kernel) ?_
    refine D.pure rfl (S.move rfl) rfl ?_
    refine D.pure rfl (S.nilPtr rfl) rfl ?_
    refine D.pure rfl (S.field rfl fa95_0) rfl ?_
    refine D.pure rfl (S.move rfl) rfl ?_
    refine D.pure rfl (S.nilPtr rfl) rfl ?_
    refine D.pure rfl (S.field rfl fa95_1) rfl ?_
    refine D.seg (by decide) ?_
    refine W.still rfl (S.load 0 (k := 0) rfl rfl rfl Tryd.isAgg22) rfl ?_
    refine W.pure rfl (S.lenSl rfl Tryd.underlying22) rfl ?_
    refine W.still rfl (S.load 0 (k := 1) rfl rfl rfl Tryd.isAgg2) rfl ?_
    first | refine W.pure rfl (S.sub rfl rfl (N.sub64 (by omega) (by omega))) rfl ?_ | refine W.pure rfl (S.sub rfl rfl (N.subZ (by omega))) rfl ?_
    refine W.pure rfl (S.assign rfl) rfl ?_
    refine W.nil ?_
    refine D.keep [0, 2, 12] (env1 := [(0, _), (2, _), (12, _)]) rfl ?_
    refine C.ret ?_
    first | exact ⟨_, rfl, rfl, rfl⟩ | exact ⟨_, rfl, by simp, rfl⟩
theorem readByte_end {K : Known} (rb : Nat) (data : List UInt8) (i : Nat) (hd : data.length ≤ 4611686018427387904) {p : Int} {ea : Fin 5 → Addr} (hs : Sents K ea) (a : Option Addr) (c : Nat) (hi : i = data.length) : Fn Tryd.prog K 108 #[.pointer (some ⟨rb, 0, none⟩)] [⟨rb, 0, [.slice a data.length c, .int .i64 (i : Int), .int .i64 p]⟩] (fun r L => r = .tuple #[.int .u8 0, Er.val ea .eof] ∧ L = [⟨rb, 0, [.slice a data.length c, .int .i64 (i : Int), .int .i64 (-1)]⟩]) := by
  refine Fn.intro (args := [.pointer (some ⟨rb, 0, none⟩)]) (RR := Ret2 2 3 _) Tryd.func108 rfl rfl Tryd.ntmps108 (res2 Tryd.results108) ?_
  refine C.reenv (env2 := [(0, .pointer (some ⟨rb, 0, none⟩))]) rfl ?_
  refine C.seq ?_
  refine C.region ?_
  refine E.pure (S.assign rfl) rfl ?_
  refine E.pure (S.assign (v := Er.val ea .none) rfl) rfl ?_
  refine E.keep [0, 2, 3] (env1 := [(0, _), (2, _), (3, _)]) rfl ?_
  refine C.seq ?_
  refine C.region ?_
  refine E.pure (S.move rfl) rfl ?_
  refine E.pure (S.nilPtr rfl) rfl ?_
  refine E.pure (S.field rfl fa95_2) rfl ?_
  refine E.loud0 (X.store 0 (k := 2) rfl rfl rfl rfl rfl Tryd.sizeOf3) ?_; rintro _ _ ⟨rfl, rfl⟩; refine E.relist (L2 := [_]) rfl ?_
  refine E.keep [0, 2, 3] (env1 := [(0, _), (2, _), (3, _)]) rfl ?_
  refine C.seq ?_
  refine C.seq ?_
  refine C.draw [0, 1, 2, 4, 0, 16, 32, 64, 128, 264] (.pure 0 496 (.pure 1 497 (.pure 2 499 (.pure 4 15 (.pure 5 31 (.pure 6 63 (.seg [(3, 503), (7, 127), (8, 255), (9, 511)] .done))))))) mixed (by decide +kernel) ?_
  refine D.pure rfl (S.move rfl) rfl ?_
  refine D.pure rfl (S.nilPtr rfl) rfl ?_
  refine D.pure rfl (S.field rfl fa95_1) rfl ?_
  refine D.pure rfl (S.move rfl) rfl ?_
  refine D.pure rfl (S.nilPtr rfl) rfl ?_
  refine D.pure rfl (S.field rfl fa95_0) rfl ?_
  refine D.seg (by decide) ?_
  refine W.still rfl (S.load 0 (k := 1) rfl rfl rfl Tryd.isAgg2) rfl ?_
  refine W.still rfl (S.load 0 (k := 0) rfl rfl rfl Tryd.isAgg22) rfl ?_
  refine W.pure rfl (S.lenSl rfl Tryd.underlying22) rfl ?_
  refine W.pure rfl (S.ge rfl rfl) rfl ?_
  refine W.nil ?_
  refine D.keep [0, 2, 3, 17] (env1 := [(0, _), (2, _), (3, _), (17, _)]) rfl ?_
  first | refine C.ifp rfl (fun h17 => ?_) (fun h17 => ?_) | refine C.cond rfl (fun h17 => ?_) (fun h17 => ?_)
  ·
    refine C.seq ?_
    refine C.draw [0, 0, 3] (.pure 1 1 (.seg [(0, 2), (2, 3)] .done)) mixed (by decide +kernel) ?_
    refine D.pure rfl (S.assign rfl) rfl ?_
    refine D.seg (by decide) ?_
    refine W.still rfl (S.loadBase rfl hs.g0 Tryd.isAgg59) rfl ?_
    refine W.pure rfl (S.assign rfl) rfl ?_
    refine W.nil ?_
    refine D.keep [0, 2, 3, 17] (env1 := [(0, _), (2, _), (3, _), (17, _)]) rfl ?_
    refine C.ret ?_
    exact ⟨_, _, rfl, rfl, rfl, rfl⟩
  ·
    exact absurd hi (by omega)
theorem readByte_next {K : Known} (rb : Nat) (data : List UInt8) (i : Nat) (hd : data.length ≤ 4611686018427387904) {p : Int} {ea : Fin 5 → Addr} (db o c : Nat) (cs : List Value) (hi : i < data.length) : Fn Tryd.prog K 108 #[.pointer (some ⟨rb, 0, none⟩)] [⟨rb, 0, [.slice (some ⟨db, o, none⟩) data.length c, .int .i64 (i : Int), .int .i64 p]⟩, ⟨db, o, bytesV data ++ cs⟩] (fun r L => r = .tuple #[u8 data[i], Er.val ea .none] ∧ L = [⟨rb, 0, [.slice (some ⟨db, o, none⟩) data.length c, .int .i64 ((i + 1 : Nat) : Int), .int .i64 (-1)]⟩, ⟨db, o, bytesV data ++ cs⟩]) := by
  refine Fn.intro (args := [.pointer (some ⟨rb, 0, none⟩)]) (RR := Ret2 2 3 _) Tryd.func108 rfl rfl Tryd.ntmps108 (res2 Tryd.results108) ?_
  refine C.reenv (env2 := [(0, .pointer (some ⟨rb, 0, none⟩))]) rfl ?_
  refine C.seq ?_
  refine C.region ?_
  refine E.pure (S.assign rfl) rfl ?_
  refine E.pure (S.assign (v := Er.val ea .none) rfl) rfl ?_
  refine E.keep [0, 2, 3] (env1 := [(0, _), (2, _), (3, _)]) rfl ?_
  refine C.seq ?_
  refine C.region ?_
  refine E.pure (S.move rfl) rfl ?_
  refine E.pure (S.nilPtr rfl) rfl ?_
  refine E.pure (S.field rfl fa95_2) rfl ?_
  refine E.loud0 (X.store 0 (k := 2) rfl rfl rfl rfl rfl Tryd.sizeOf3) ?_; rintro _ _ ⟨rfl, rfl⟩; refine E.relist (L2 := [_, _]) rfl ?_
  refine E.keep [0, 2, 3] (env1 := [(0, _), (2, _), (3, _)]) rfl ?_
  refine C.seq ?_
  refine C.seq ?_
  refine C.draw [0, 1, 2, 4, 0, 16, 32, 64, 128, 264] (.pure 0 496 (.pure 1 497 (.pure 2 499 (.pure 4 15 (.pure 5 31 (.pure 6 63 (.seg [(3, 503), (7, 127), (8, 255), (9, 511)] .done))))))) mixed (by decide +kernel) ?_
  refine D.pure rfl (S.move rfl) rfl ?_
  refine D.pure rfl (S.nilPtr rfl) rfl ?_
  refine D.pure rfl (S.field rfl fa95_1) rfl ?_
  refine D.pure rfl (S.move rfl) rfl ?_
  refine D.pure rfl (S.nilPtr rfl) rfl ?_
  refine D.pure rfl (S.field rfl fa95_0) rfl ?_
  refine D.seg (by decide) ?_
  refine W.still rfl (S.load 0 (k := 1) rfl rfl rfl Tryd.isAgg2) rfl ?_
  refine W.still rfl (S.load 0 (k := 0) rfl rfl rfl Tryd.isAgg22) rfl ?_
  refine W.pure rfl (S.lenSl rfl Tryd.underlying22) rfl ?_
  refine W.pure rfl (S.ge rfl rfl) rfl ?_
  refine W.nil ?_
  refine D.keep [0, 2, 3, 17] (env1 := [(0, _), (2, _), (3, _), (17, _)]) rfl ?_
  first | refine C.ifp rfl (fun h17 => ?_) (fun h17 => ?_) | refine C.cond rfl (fun h17 => ?_) (fun h17 => ?_)
  ·
    exact absurd hi (by omega)
  ·
    refine C.skip ?_
    refine C.seq ?_
    refine C.draw [0, 1, 2, 4, 0, 16, 32, 64, 136, 256, 1023] (.pure 0 240 (.pure 1 241 (.pure 2 243 (.pure 4 15 (.pure 5 31 (.pure 6 63 (.seg [(3, 247), (7, 127), (8, 255), (9, 511), (10, 1023)] .done))))))) mixed (by decide +kernel) ?_
    refine D.pure rfl (S.move rfl) rfl ?_
    refine D.pure rfl (S.nilPtr rfl) rfl ?_
    refine D.pure rfl (S.field rfl fa95_0) rfl ?_
    refine D.pure rfl (S.move rfl) rfl ?_
    refine D.pure rfl (S.nilPtr rfl) rfl ?_
    refine D.pure rfl (S.field rfl fa95_1) rfl ?_
    refine D.seg (by decide) ?_
    refine W.still rfl (S.load 0 (k := 0) rfl rfl rfl Tryd.isAgg22) rfl ?_
    refine W.still rfl (S.load 0 (k := 1) rfl rfl rfl Tryd.isAgg2) rfl ?_
    refine W.pure rfl (S.ixSl rfl rfl (by omega) Tryd.underlying22 Tryd.sizeOf5) rfl ?_
    refine W.reslot (v := .pointer (some ⟨db, o + i, none⟩)) (by simp) ?_
    refine W.still rfl (S.load 1 (k := i) rfl rfl (bytes_get hi) Tryd.isAgg5) rfl ?_
    refine W.pure rfl (S.assign rfl) rfl ?_
    refine W.nil ?_
    refine D.keep [0, 2, 3, 4, 17] (env1 := [(0, _), (2, _), (3, _), (4, _), (17, _)]) rfl ?_
    refine C.seq ?_
    refine C.region ?_
    refine E.pure (S.move rfl) rfl ?_
    refine E.pure (S.nilPtr rfl) rfl ?_
    refine E.pure (S.field rfl fa95_1) rfl ?_
    refine E.still (S.load 0 (k := 1) rfl rfl rfl Tryd.isAgg2) rfl ?_
    first | refine E.pure (S.add (b := ((1 : Nat) : Int)) rfl rfl (N.add64 (by omega))) rfl ?_ | refine E.pure (S.add (b := ((1 : Nat) : Int)) rfl rfl (N.addZ (by omega))) rfl ?_
    refine E.pure (S.nilPtr rfl) rfl ?_
    refine E.pure (S.field rfl fa95_1) rfl ?_
    refine E.loud0 (X.store 0 (k := 1) rfl rfl rfl rfl rfl Tryd.sizeOf2) ?_; rintro _ _ ⟨rfl, rfl⟩; refine E.relist (L2 := [_, _]) rfl ?_
    refine E.keep [0, 2, 3, 4, 17] (env1 := [(0, _), (2, _), (3, _), (4, _), (17, _)]) rfl ?_
    refine C.seq ?_
    refine C.region ?_
    refine E.pure (S.move rfl) rfl ?_
    refine E.pure (S.assign rfl) rfl ?_
    refine E.pure (S.assign (v := Er.val ea .none) rfl) rfl ?_
    refine E.keep [0, 2, 3, 4, 17] (env1 := [(0, _), (2, _), (3, _), (4, _), (17, _)]) rfl ?_
    refine C.ret ?_
    exact ⟨_, _, rfl, rfl, rfl, rfl⟩
theorem readerRead_end {K : Known} (rb : Nat) (data : List UInt8) (i : Nat) (hd : data.length ≤ 4611686018427387904) {p : Int} {ea : Fin 5 → Addr} (hs : Sents K ea) (a : Option Addr) (c : Nat) (hi : i = data.length) (dst : Value) : Fn Tryd.prog K 107 #[.pointer (some ⟨rb, 0, none⟩), dst] [⟨rb, 0, [.slice a data.length c, .int .i64 (i : Int), .int .i64 p]⟩] (fun r L => r = .tuple #[.int .i64 0, Er.val ea .eof] ∧ L = [⟨rb, 0, [.slice a data.length c, .int .i64 (i : Int), .int .i64 p]⟩]) := by
  refine Fn.intro (args := [.pointer (some ⟨rb, 0, none⟩), dst]) (RR := Ret2 4 5 _) Tryd.func107 rfl rfl Tryd.ntmps107 (res2 Tryd.results107) ?_
  refine C.reenv (env2 := [(0, .pointer (some ⟨rb, 0, none⟩)), (1, dst)]) rfl ?_
  refine C.seq ?_
  refine C.region ?_
  refine E.pure (S.assign rfl) rfl ?_
  refine E.pure (S.assign (v := Er.val ea .none) rfl) rfl ?_
  refine E.keep [0, 1, 4, 5] (env1 := [(0, _), (1, _), (4, _), (5, _)]) rfl ?_
  refine C.seq ?_
  refine C.seq ?_
  refine C.draw [0, 1, 2, 4, 0, 16, 32, 64, 128, 264] (.pure 0 496 (.pure 1 497 (.pure 2 499 (.pure 4 15 (.pure 5 31 (.pure 6 63 (.seg [(3, 503), (7, 127), (8, 255), (9, 511)] .done))))))) mixed (by decide +kernel) ?_
  refine D.pure rfl (S.move rfl) rfl ?_
  refine D.pure rfl (S.nilPtr rfl) rfl ?_
  refine D.pure rfl (S.field rfl fa95_1) rfl ?_
  refine D.pure rfl (S.move rfl) rfl ?_
  refine D.pure rfl (S.nilPtr rfl) rfl ?_
  refine D.pure rfl (S.field rfl fa95_0) rfl ?_
  refine D.seg (by decide) ?_
  refine W.still rfl (S.load 0 (k := 1) rfl rfl rfl Tryd.isAgg2) rfl ?_
  refine W.still rfl (S.load 0 (k := 0) rfl rfl rfl Tryd.isAgg22) rfl ?_
  refine W.pure rfl (S.lenSl rfl Tryd.underlying22) rfl ?_
  refine W.pure rfl (S.ge rfl rfl) rfl ?_
  refine W.nil ?_
  refine D.keep [0, 1, 4, 5, 15] (env1 := [(0, _), (1, _), (4, _), (5, _), (15, _)]) rfl ?_
  first | refine C.ifp rfl (fun h15 => ?_) (fun h15 => ?_) | refine C.cond rfl (fun h15 => ?_) (fun h15 => ?_)
  ·
    refine C.seq ?_
    refine C.draw [0, 0, 3] (.pure 1 1 (.seg [(0, 2), (2, 3)] .done)) mixed (by decide +kernel) ?_
    refine D.pure rfl (S.assign rfl) rfl ?_
    refine D.seg (by decide) ?_
    refine W.still rfl (S.loadBase rfl hs.g0 Tryd.isAgg59) rfl ?_
    refine W.pure rfl (S.assign rfl) rfl ?_
    refine W.nil ?_
    refine D.keep [0, 1, 4, 5, 15] (env1 := [(0, _), (1, _), (4, _), (5, _), (15, _)]) rfl ?_
    refine C.ret ?_
    exact ⟨_, _, rfl, rfl, rfl, rfl⟩
  ·
    exact absurd hi (by omega)
theorem readerRead_next {K : Known} (rb : Nat) (data : List UInt8) (i : Nat) (hd : data.length ≤ 4611686018427387904) {p : Int} {ea : Fin 5 → Addr} (db o c : Nat) (ds : List Value) (hi : i < data.length) (hc : data.length ≤ c) (tb to m mc : Nat) (cs : List Value) (hm : m = cs.length) (hml : m ≤ 4611686018427387904) : Fn Tryd.prog K 107 #[.pointer (some ⟨rb, 0, none⟩), .slice (some ⟨tb, to, none⟩) (m) (mc)] [⟨rb, 0, [.slice (some ⟨db, o, none⟩) data.length c, .int .i64 (i : Int), .int .i64 p]⟩, ⟨db, o, bytesV data ++ ds⟩, ⟨tb, to, cs⟩] (fun r L => r = .tuple #[.int .i64 ((Nat.min (data.drop i).length m : Nat) : Int), Er.val ea .none] ∧ L = [⟨rb, 0, [.slice (some ⟨db, o, none⟩) data.length c, .int .i64 ((i + Nat.min (data.drop i).length m : Nat) : Int), .int .i64 (-1)]⟩, ⟨db, o, bytesV data ++ ds⟩, ⟨tb, to, bytesV ((data.drop i).take m) ++ cs.drop (Nat.min (data.drop i).length m)⟩]) := by
  refine Fn.intro (args := [.pointer (some ⟨rb, 0, none⟩), .slice (some ⟨tb, to, none⟩) (m) (mc)]) (RR := Ret2 4 5 _) Tryd.func107 rfl rfl Tryd.ntmps107 (res2 Tryd.results107) ?_
  refine C.reenv (env2 := [(0, .pointer (some ⟨rb, 0, none⟩)), (1, .slice (some ⟨tb, to, none⟩) (m) (mc))]) rfl ?_
  refine C.seq ?_
  refine C.region ?_
  refine E.pure (S.assign rfl) rfl ?_
  refine E.pure (S.assign (v := Er.val ea .none) rfl) rfl ?_
  refine E.keep [0, 1, 4, 5] (env1 := [(0, _), (1, _), (4, _), (5, _)]) rfl ?_
  refine C.seq ?_
  refine C.seq ?_
  refine C.draw [0, 1, 2, 4, 0, 16, 32, 64, 128, 264] (.pure 0 496 (.pure 1 497 (.pure 2 499 (.pure 4 15 (.pure 5 31 (.pure 6 63 (.seg [(3, 503), (7, 127), (8, 255), (9, 511)] .done))))))) mixed (by decide +kernel) ?_
  refine D.pure rfl (S.move rfl) rfl ?_
  refine D.pure rfl (S.nilPtr rfl) rfl ?_
  refine D.pure rfl (S.field rfl fa95_1) rfl ?_
  refine D.pure rfl (S.move rfl) rfl ?_
  refine D.pure rfl (S.nilPtr rfl) rfl ?_
  refine D.pure rfl (S.field rfl fa95_0) rfl ?_
  refine D.seg (by decide) ?_
  refine W.still rfl (S.load 0 (k := 1) rfl rfl rfl Tryd.isAgg2) rfl ?_
  refine W.still rfl (S.load 0 (k := 0) rfl rfl rfl Tryd.isAgg22) rfl ?_
  refine W.pure rfl (S.lenSl rfl Tryd.underlying22) rfl ?_
  refine W.pure rfl (S.ge rfl rfl) rfl ?_
  refine W.nil ?_
  refine D.keep [0, 1, 4, 5, 15] (env1 := [(0, _), (1, _), (4, _), (5, _), (15, _)]) rfl ?_
  first | refine C.ifp rfl (fun h15 => ?_) (fun h15 => ?_) | refine C.cond rfl (fun h15 => ?_) (fun h15 => ?_)
  ·
    exact absurd hi (by omega)
  ·
    refine C.skip ?_
    refine C.seq ?_
    refine C.region ?_
    refine E.pure (S.move rfl) rfl ?_
    refine E.pure (S.nilPtr rfl) rfl ?_
    refine E.pure (S.field rfl fa95_2) rfl ?_
    refine E.loud0 (X.store 0 (k := 2) rfl rfl rfl rfl rfl Tryd.sizeOf3) ?_; rintro _ _ ⟨rfl, rfl⟩; refine E.relist (L2 := [_, _, _]) rfl ?_
    refine E.keep [0, 1, 4, 5, 15] (env1 := [(0, _), (1, _), (4, _), (5, _), (15, _)]) rfl ?_
    refine C.seq ?_
    refine C.draw [0, 0, 2, 4, 8, 0, 32, 64, 128, 272, 513, 2047] (.pure 0 1022 (.pure 1 481 (.pure 2 483 (.pure 3 487 (.pure 5 31 (.pure 6 63 (.pure 7 127 (.seg [(4, 495), (8, 255), (9, 511)] (.alt 10 (.pure 11 2047 .done) .stop))))))))) mixed (by decide +kernel) ?_
    refine D.pure rfl (S.move rfl) rfl ?_
    refine D.pure rfl (S.move rfl) rfl ?_
    refine D.pure rfl (S.nilPtr rfl) rfl ?_
    refine D.pure rfl (S.field rfl fa95_0) rfl ?_
    refine D.pure rfl (S.move rfl) rfl ?_
    refine D.pure rfl (S.nilPtr rfl) rfl ?_
    refine D.pure rfl (S.field rfl fa95_1) rfl ?_
    refine D.seg (by decide) ?_
    refine W.still rfl (S.load 0 (k := 0) rfl rfl rfl Tryd.isAgg22) rfl ?_
    refine W.still rfl (S.load 0 (k := 1) rfl rfl rfl Tryd.isAgg2) rfl ?_
    refine W.pure rfl (S.slL rfl rfl (by omega) Tryd.underlying22 Tryd.sizeOf5) rfl ?_
    refine W.reslot (v := .slice (some ⟨db, o + i, none⟩) ((data.drop i).length) (c - i)) (slice_to (by rw [part, if_neg (by omega)]; omega) (by rw [List.length_drop]) rfl) ?_
    refine W.nil ?_
    refine D.one ?_
    refine O.loud1 rfl (X.copyB 2 rfl rfl rfl rfl (.inr ⟨_, _, rfl, Reads.frag (i := 1) rfl (bytes_part i)⟩) (Nat.le_of_eq hm)) rfl ?_; rintro _ _ ⟨rfl, rfl⟩; refine D.relist (L2 := [_, _, _]) rfl ?_
    refine D.pure rfl (S.assign rfl) rfl ?_
    refine D.keep [0, 4, 5, 15] (env1 := [(0, _), (4, _), (5, _), (15, _)]) rfl ?_
    refine C.seq ?_
    have hle : Nat.min (data.drop i).length m ≤ m := Nat.min_le_right _ _
    refine C.region ?_
    refine E.pure (S.move rfl) rfl ?_
    refine E.pure (S.nilPtr rfl) rfl ?_
    refine E.pure (S.field rfl fa95_1) rfl ?_
    refine E.still (S.load 0 (k := 1) rfl rfl rfl Tryd.isAgg2) rfl ?_
    refine E.pure (S.move rfl) rfl ?_
    first | refine E.pure (S.add rfl rfl (N.add64 (by omega))) rfl ?_ | refine E.pure (S.add rfl rfl (N.addZ (by omega))) rfl ?_
    refine E.pure (S.nilPtr rfl) rfl ?_
    refine E.pure (S.field rfl fa95_1) rfl ?_
    refine E.loud0 (X.store 0 (k := 1) rfl rfl rfl rfl rfl Tryd.sizeOf2) ?_; rintro _ _ ⟨rfl, rfl⟩; refine E.relist (L2 := [_, _, _]) rfl ?_
    refine E.keep [0, 4, 5, 15] (env1 := [(0, _), (4, _), (5, _), (15, _)]) rfl ?_
    refine C.ret ?_
    exact ⟨_, _, rfl, rfl, rfl, rfl⟩
theorem clone_nil {K : Known} : Fn Tryd.prog K 24 #[.slice none 0 0] [] (fun r L => r = .slice none 0 0 ∧ L = []) := by
  refine Fn.intro (args := [.slice none 0 0]) (RR := Ret1 2 _) Tryd.func24 rfl rfl Tryd.ntmps24 (res1 Tryd.results24) ?_
  refine C.reenv (env2 := [(0, .slice none 0 0)]) rfl ?_
  refine C.seq ?_
  refine C.region ?_
  refine E.pure (S.assign rfl) rfl ?_
  refine E.keep [0, 2] (env1 := [(0, _), (2, _)]) rfl ?_
  refine C.seq ?_
  refine C.seq ?_
  refine C.region ?_
  refine E.pure (S.move rfl) rfl ?_
  refine E.pure (S.eqSlNil rfl Tryd.underlying22) rfl ?_
  refine E.keep [0, 2, 4] (env1 := [(0, _), (2, _), (4, _)]) rfl ?_
  refine C.yes rfl (rfl) ?_
  refine C.seq ?_
  refine C.region ?_
  refine E.pure (S.assign rfl) rfl ?_
  refine E.keep [0, 2, 4] (env1 := [(0, _), (2, _), (4, _)]) rfl ?_
  refine C.ret ?_
  exact ⟨_, rfl, rfl, rfl⟩
/-- A slice of bytes of one's own. -/
def Own (data : List UInt8) (v : Value) (g : Frag) : Prop := ∃ b o c cs, v = .slice (some ⟨b, o, none⟩) data.length c ∧ g = ⟨b, o, bytesV data ++ cs⟩ ∧ data.length ≤ c

theorem clone_empty {K : Known} (a : Addr) (c : Nat) : Fn Tryd.prog K 24 #[.slice (some a) 0 c] [] (fun r L => ∃ g, Own [] r g ∧ L = [g]) := by
  refine Fn.intro (args := [.slice (some a) 0 c]) (RR := Ret1 2 _) Tryd.func24 rfl rfl Tryd.ntmps24 (res1 Tryd.results24) ?_
  refine C.reenv (env2 := [(0, .slice (some a) 0 c)]) rfl ?_
  refine C.seq ?_
  refine C.region ?_
  refine E.pure (S.assign rfl) rfl ?_
  refine E.keep [0, 2] (env1 := [(0, _), (2, _)]) rfl ?_
  refine C.seq ?_
  refine C.seq ?_
  refine C.region ?_
  refine E.pure (S.move rfl) rfl ?_
  refine E.pure (S.eqSlNil rfl Tryd.underlying22) rfl ?_
  refine E.keep [0, 2, 4] (env1 := [(0, _), (2, _), (4, _)]) rfl ?_
  refine C.no rfl (rfl) ?_
  refine C.skip ?_
  refine C.seq ?_
  refine C.region ?_
  refine E.loud1 (X.buildSlice (vs := []) (e := 5) (i := Tryd.t5) (z := .int .u8 0) (fun w => by simp [Instr.buildSlice, Instr.fill, newRow, Tryd.runUnderlying22, Tryd.typeInfo5]; rw [show Array.map (fun _ => (default : Value)) (Array.range 0) = #[] from Array.eq_empty_of_size_eq_zero (by simp)]) rfl) rfl ?_; rintro _ _ ⟨nb, rfl, rfl⟩; refine E.relist (L2 := [_]) rfl ?_
  refine E.pure (S.move rfl) rfl ?_
  refine E.loud1 (X.appendNone rfl rfl (Nat.le_refl 0)) rfl ?_; rintro _ _ ⟨rfl, rfl⟩; refine E.relist (L2 := [_]) rfl ?_
  refine E.pure (S.assign rfl) rfl ?_
  refine E.keep [0, 2, 4] (env1 := [(0, _), (2, _), (4, _)]) rfl ?_
  refine C.ret ?_
  exact ⟨_, rfl, _, ⟨_, _, _, [], rfl, rfl, Nat.le_refl 0⟩, rfl⟩
theorem clone_full {K : Known} (db o c : Nat) (data : List UInt8) (hp : KB K db o data) (hl : data.length ≤ 140737488355328) (hne : 0 < data.length) : Fn Tryd.prog K 24 #[.slice (some ⟨db, o, none⟩) (data.length) (c)] [] (fun r L => ∃ g, Own data r g ∧ L = [g]) := by
  refine Fn.intro (args := [.slice (some ⟨db, o, none⟩) (data.length) (c)]) (RR := Ret1 2 _) Tryd.func24 rfl rfl Tryd.ntmps24 (res1 Tryd.results24) ?_
  refine C.reenv (env2 := [(0, .slice (some ⟨db, o, none⟩) (data.length) (c))]) rfl ?_
  refine C.seq ?_
  refine C.region ?_
  refine E.pure (S.assign rfl) rfl ?_
  refine E.keep [0, 2] (env1 := [(0, _), (2, _)]) rfl ?_
  refine C.seq ?_
  refine C.seq ?_
  refine C.region ?_
  refine E.pure (S.move rfl) rfl ?_
  refine E.pure (S.eqSlNil rfl Tryd.underlying22) rfl ?_
  refine E.keep [0, 2, 4] (env1 := [(0, _), (2, _), (4, _)]) rfl ?_
  refine C.no rfl (rfl) ?_
  refine C.skip ?_
  refine C.seq ?_
  refine C.region ?_
  refine E.loud1 (X.buildSlice (vs := []) (e := 5) (i := Tryd.t5) (z := .int .u8 0) (fun w => by simp [Instr.buildSlice, Instr.fill, newRow, Tryd.runUnderlying22, Tryd.typeInfo5]; rw [show Array.map (fun _ => (default : Value)) (Array.range 0) = #[] from Array.eq_empty_of_size_eq_zero (by simp)]) rfl) rfl ?_; rintro _ _ ⟨nb, rfl, rfl⟩; refine E.relist (L2 := [_]) rfl ?_
  refine E.pure (S.move rfl) rfl ?_
  refine E.loud1 (X.appendB (L := []) (xs := []) (ys := data) (Lf := [⟨nb, 0, []⟩]) rfl rfl ⟨rfl, .inr ⟨nb, 0, 0, [], rfl, rfl, rfl, Nat.le_refl 0, by decide, rfl⟩⟩ rfl (.inr ⟨_, _, rfl, hp.reads⟩) (by simpa using hl)) rfl ?_
  rintro r _ ⟨Lf, hsl, rfl⟩
  obtain ⟨b5, o5, c5, cs5, rfl, rfl, hcl, hlc, _, htk⟩ := hsl.one (by simpa using hne)
  rw [List.nil_append] at hlc htk
  rw [Nat.mul_one] at htk
  refine E.relist (L2 := [⟨b5, o5, cs5⟩]) rfl ?_
  refine E.reslot (v := .slice (some ⟨b5, o5, none⟩) data.length c5) rfl ?_
  refine E.pure (S.assign rfl) rfl ?_
  refine E.keep [0, 2, 4] (env1 := [(0, _), (2, _), (4, _)]) rfl ?_
  refine C.ret ?_
  exact ⟨_, rfl, _, ⟨b5, o5, c5, cs5.drop data.length, rfl, by rw [← htk]; simp, hlc⟩, rfl⟩
/-- bytes.Clone of bytes that can be read. -/
theorem clone_spec {K : Known} {L : Frags} (db o c : Nat) (data : List UInt8) (hr : Reads K L db o (bytesV data)) (hl : data.length ≤ 140737488355328) :
    Fn Tryd.prog K 24 #[.slice (some ⟨db, o, none⟩) (data.length) (c)] L (fun r L' => ∃ g, Own data r g ∧ L' = g :: L) := by
  refine Fn.mono (Fn.still (R := fun r L => ∃ g, Own data r g ∧ L = [g]) fun w hw => ?_) ?_
  · cases data with
    | nil => exact clone_empty _ _
    | cons x t => exact clone_full db o c (x :: t) (hr.kb hw) hl (by simp)
  · rintro v L' ⟨L1, ⟨g, h1, rfl⟩, rfl⟩
    exact ⟨g, h1, rfl⟩

end Go.Eng
