/-
  Walks of package flate: how a reader is made.
-/
import Derived.Test.YtbjbmpcgiokdaaaDoorWGz1
set_option linter.unusedVariables false
set_option linter.unusedSimpArgs false
namespace Go.Eng
open Go Go.Proofs
set_option maxRecDepth 100000

theorem zcBits : (Value.agg Tryd.zeroCells155).cells.toList = List.replicate 316 (.int .i64 0) := by kernel_rfl
theorem zcDec : (Value.agg Tryd.zeroCells153).cells.toList = ([[.nilIface, .pointer none, .int .i64 0, .int .u32 0, .int .u64 0], [.int .i64 0], List.replicate 512 (.int .u32 0), [.slice none 0 0, .int .u32 0], [.int .i64 0], List.replicate 512 (.int .u32 0), [.slice none 0 0, .int .u32 0],
  [.pointer none, .pointer none], [.slice none 0 0, .int .i64 0, .int .i64 0, .bool false], [.int .u8 0, .int .u8 0, .int .u8 0, .int .u8 0], [.nilFunc, .int .i64 0, .bool false, .nilIface, .slice none 0 0, .pointer none, .pointer none, .int .i64 0, .int .i64 0]] : List (List Value)).flatten := by kernel_rfl

/-- The parts of a decompressor. -/
def decParts (b : Nat) (p0 p1 p2 p3 p4 p5 p6 p7 p8 p9 p10 : List Value) : Frags := [⟨b, 0, p0⟩, ⟨b, 5, p1⟩, ⟨b, 6, p2⟩, ⟨b, 518, p3⟩, ⟨b, 520, p4⟩, ⟨b, 521, p5⟩, ⟨b, 1033, p6⟩, ⟨b, 1035, p7⟩, ⟨b, 1037, p8⟩, ⟨b, 1041, p9⟩, ⟨b, 1045, p10⟩]

theorem decSame (b : Nat) (F : Frags) (p0 p1 p2 p3 p4 p5 p6 p7 p8 p9 p10 : List Value) (h0 : p0.length = 5) (h1 : p1.length = 1) (h2 : p2.length = 512) (h3 : p3.length = 2) (h4 : p4.length = 1) (h5 : p5.length = 512) (h6 : p6.length = 2) (h7 : p7.length = 2)
    (h8 : p8.length = 4) (h9 : p9.length = 4) : Same (⟨b, 0, [p0, p1, p2, p3, p4, p5, p6, p7, p8, p9, p10].flatten⟩ :: F) (decParts b p0 p1 p2 p3 p4 p5 p6 p7 p8 p9 p10 ++ F) :=
  Same.chunks b F [(0, p0), (5, p1), (6, p2), (518, p3), (520, p4), (521, p5), (1033, p6), (1035, p7), (1037, p8), (1041, p9), (1045, p10)] 0 (by simp [chunksOk, h0, h1, h2, h3, h4, h5, h6, h7, h8, h9])

theorem makeReader_spec {K : Known} {ea : Fin 5 → Addr} (src : Src K ea) (fb : Nat) (c0 c1 c2 c3 c4 : Value) : Fn Tryd.prog K 66 #[.pointer (some ⟨fb, 0, none⟩), .iface src.t src.v] [⟨fb, 0, [c0, c1, c2, c3, c4]⟩] (fun r L => r = .tuple #[] ∧ L = [⟨fb, 0, [.iface src.t src.v, .pointer none, c2, c3, c4]⟩]) := by
  refine Fn.intro (args := [.pointer (some ⟨fb, 0, none⟩), .iface src.t src.v]) (RR := Ret0 _) Tryd.func66 rfl rfl Tryd.ntmps66 (res0 Tryd.results66) ?_
  refine C.reenv (env2 := [(0, .pointer (some ⟨fb, 0, none⟩)), (1, .iface src.t src.v)]) rfl ?_
  refine C.seq ?_
  refine C.seq ?_
  refine C.region ?_
  refine E.pure (S.move rfl) rfl ?_
  refine E.pure (S.assertHas rfl Tryd.underlying71 (src.both _ Tryd.underlying71)) rfl ?_
  refine E.pure (S.move rfl) rfl ?_
  refine E.pure (S.extract rfl rfl) rfl ?_
  refine E.pure (S.extract rfl rfl) rfl ?_
  refine E.pure (S.assign rfl) rfl ?_
  refine E.pure (S.assign rfl) rfl ?_
  refine E.keep [0, 1, 4, 5] (env1 := [(0, _), (1, _), (4, _), (5, _)]) rfl ?_
  refine C.seq ?_
  refine C.region ?_
  refine E.pure (S.move rfl) rfl ?_
  refine E.keep [0, 1, 4, 5, 11] (env1 := [(0, _), (1, _), (4, _), (5, _), (11, _)]) rfl ?_
  refine C.yes rfl (rfl) ?_
  refine C.seq ?_
  refine C.region ?_
  refine E.pure (S.move rfl) rfl ?_
  refine E.pure (S.nilPtr rfl) rfl ?_
  refine E.pure (S.field rfl fa153_1) rfl ?_
  refine E.loud0 (X.store 0 (k := 1) rfl rfl rfl rfl rfl Tryd.sizeOf112) ?_; rintro _ _ ⟨rfl, rfl⟩; refine E.relist (L2 := [_]) rfl ?_
  refine E.keep [0, 1, 4, 5, 11] (env1 := [(0, _), (1, _), (4, _), (5, _), (11, _)]) rfl ?_
  refine C.seq ?_
  refine C.region ?_
  refine E.pure (S.move rfl) rfl ?_
  refine E.pure (S.move rfl) rfl ?_
  refine E.pure (S.nilPtr rfl) rfl ?_
  refine E.pure (S.field rfl fa153_0) rfl ?_
  refine E.loud0 (X.store 0 (k := 0) rfl rfl rfl rfl rfl Tryd.sizeOf71) ?_; rintro _ _ ⟨rfl, rfl⟩; refine E.relist (L2 := [_]) rfl ?_
  refine E.keep [0, 1, 4, 5, 11] (env1 := [(0, _), (1, _), (4, _), (5, _), (11, _)]) rfl ?_
  refine C.ret ?_
  exact ⟨rfl, rfl⟩
theorem dictInit_new {K : Known} (fb o : Nat) (c1 c2 c3 : Value) : Fn Tryd.prog K 68 #[.pointer (some ⟨fb, o, none⟩), .int .i64 ((32768 : Nat) : Int), .slice none 0 0] [⟨fb, o, [.slice none 0 0, c1, c2, c3]⟩] (fun r L => ∃ hb, r = .tuple #[] ∧ L = [⟨hb, 0, List.replicate 32768 (.int .u8 0)⟩, ⟨fb, o, [.slice (some ⟨hb, 0, none⟩) 32768 32768, .int .i64 0, .int .i64 0, .bool false]⟩]) := by
  refine Fn.intro (args := [.pointer (some ⟨fb, o, none⟩), .int .i64 ((32768 : Nat) : Int), .slice none 0 0]) (RR := Ret0 _) Tryd.func68 rfl rfl Tryd.ntmps68 (res0 Tryd.results68) ?_
  refine C.reenv (env2 := [(0, .pointer (some ⟨fb, o, none⟩)), (1, .int .i64 ((32768 : Nat) : Int)), (2, .slice none 0 0)]) rfl ?_
  refine C.seq ?_
  refine C.region ?_
  refine E.pure (S.move rfl) rfl ?_
  refine E.pure (S.move rfl) rfl ?_
  refine E.pure (S.nilPtr rfl) rfl ?_
  refine E.pure (S.field rfl fa148_0) rfl ?_
  refine E.still (S.load 0 (k := 0) rfl rfl rfl Tryd.isAgg22) rfl ?_
  refine E.pure (S.buildV (v := .agg #[.slice none 0 0, .int .i64 0, .int .i64 0, .bool false]) [(0, .slice none 0 0)] rfl (fun w => by simp [Instr.build, Instr.fill, Value.cells, Tryd.zeroValue148])) rfl ?_
  refine E.pure (S.nilPtr rfl) rfl ?_
  refine E.loud0 (X.storeA 0 (k := 0) rfl rfl rfl rfl rfl rfl Tryd.sizeOf148 rfl) ?_; rintro _ _ ⟨rfl, rfl⟩; refine E.relist (L2 := [_]) rfl ?_
  refine E.keep [0, 1, 2] (env1 := [(0, _), (1, _), (2, _)]) rfl ?_
  refine C.seq ?_
  refine C.seq ?_
  refine C.region ?_
  refine E.pure (S.move rfl) rfl ?_
  refine E.pure (S.nilPtr rfl) rfl ?_
  refine E.pure (S.field rfl fa148_0) rfl ?_
  refine E.still (S.load 0 (k := 0) rfl rfl rfl Tryd.isAgg22) rfl ?_
  refine E.pure (S.capSl rfl Tryd.underlying22) rfl ?_
  refine E.pure (S.move rfl) rfl ?_
  refine E.pure (S.lt rfl rfl) rfl ?_
  refine E.reslot (v := .bool true) (congrArg Value.bool (by decide)) ?_
  refine E.keep [0, 1, 2, 19] (env1 := [(0, _), (1, _), (2, _), (19, _)]) rfl ?_
  refine C.yes rfl (rfl) ?_
  refine C.region ?_
  refine E.pure (S.move rfl) rfl ?_
  refine E.pure (S.move rfl) rfl ?_
  refine E.loud1 (X.make (l := 32768) (c := 32768) (bytes := 1) Tryd.underlying22 infoB (z := .int .u8 0) rfl rfl rfl rfl rfl rfl (Nat.le_refl _) (by decide) (by decide)) rfl ?_; rintro _ _ ⟨hb, rfl, rfl⟩; refine E.relist (L2 := [_, _]) rfl ?_
  refine E.pure (S.nilPtr rfl) rfl ?_
  refine E.pure (S.field rfl fa148_0) rfl ?_
  refine E.loud0 (X.store 1 (k := 0) rfl rfl rfl rfl rfl Tryd.sizeOf22) ?_; rintro _ _ ⟨rfl, rfl⟩; refine E.relist (L2 := [_, _]) rfl ?_
  refine E.keep [0, 1, 2, 19] (env1 := [(0, _), (1, _), (2, _), (19, _)]) rfl ?_
  refine C.seq ?_
  refine C.region ?_
  refine E.pure (S.move rfl) rfl ?_
  refine E.pure (S.move rfl) rfl ?_
  refine E.pure (S.nilPtr rfl) rfl ?_
  refine E.pure (S.field rfl fa148_0) rfl ?_
  refine E.still (S.load 1 (k := 0) rfl rfl rfl Tryd.isAgg22) rfl ?_
  refine E.pure (S.move rfl) rfl ?_
  refine E.pure (S.slH rfl rfl (by omega) Tryd.underlying22 Tryd.sizeOf5) rfl ?_
  refine E.pure (S.nilPtr rfl) rfl ?_
  refine E.pure (S.field rfl fa148_0) rfl ?_
  refine E.loud0 (X.store 1 (k := 0) rfl rfl rfl rfl rfl Tryd.sizeOf22) ?_; rintro _ _ ⟨rfl, rfl⟩; refine E.relist (L2 := [_, _]) rfl ?_
  refine E.keep [0, 1, 2, 19] (env1 := [(0, _), (1, _), (2, _), (19, _)]) rfl ?_
  refine C.seq ?_
  refine C.seq ?_
  refine C.region ?_
  refine E.pure (S.move rfl) rfl ?_
  refine E.pure (S.lenSl rfl Tryd.underlying22) rfl ?_
  refine E.pure (S.move rfl) rfl ?_
  refine E.pure (S.nilPtr rfl) rfl ?_
  refine E.pure (S.field rfl fa148_0) rfl ?_
  refine E.still (S.load 1 (k := 0) rfl rfl rfl Tryd.isAgg22) rfl ?_
  refine E.pure (S.lenSl rfl Tryd.underlying22) rfl ?_
  refine E.pure (S.gt rfl rfl) rfl ?_
  refine E.reslot (v := .bool false) (congrArg Value.bool (by decide)) ?_
  refine E.keep [0, 1, 2, 19, 41] (env1 := [(0, _), (1, _), (2, _), (19, _), (41, _)]) rfl ?_
  refine C.no rfl (rfl) ?_
  refine C.skip ?_
  refine C.seq ?_
  refine C.region ?_
  refine E.pure (S.move rfl) rfl ?_
  refine E.pure (S.move rfl) rfl ?_
  refine E.pure (S.nilPtr rfl) rfl ?_
  refine E.pure (S.field rfl fa148_0) rfl ?_
  refine E.still (S.load 1 (k := 0) rfl rfl rfl Tryd.isAgg22) rfl ?_
  refine E.pure (S.move rfl) rfl ?_
  refine E.loud1 (X.copyB 0 (l := []) rfl rfl rfl rfl (.inl rfl) (by rw [List.length_replicate]; exact Nat.le_refl _)) rfl ?_; rintro _ _ ⟨rfl, rfl⟩; refine E.relist (L2 := [_, _]) rfl ?_
  refine E.pure (S.nilPtr rfl) rfl ?_
  refine E.pure (S.field rfl fa148_1) rfl ?_
  refine E.loud0 (X.store 1 (k := 1) rfl rfl rfl rfl rfl Tryd.sizeOf3) ?_; rintro _ _ ⟨rfl, rfl⟩; refine E.relist (L2 := [_, _]) rfl ?_
  refine E.keep [0, 1, 2, 19, 41] (env1 := [(0, _), (1, _), (2, _), (19, _), (41, _)]) rfl ?_
  refine C.seq ?_
  refine C.seq ?_
  refine C.draw [0, 1, 2, 4, 0, 16, 32, 64, 128, 264] (.pure 0 496 (.pure 1 497 (.pure 2 499 (.pure 4 15 (.pure 5 31 (.pure 6 63 (.seg [(3, 503), (7, 127), (8, 255), (9, 511)] .done))))))) mixed (by decide +kernel) ?_
  refine D.pure rfl (S.move rfl) rfl ?_
  refine D.pure rfl (S.nilPtr rfl) rfl ?_
  refine D.pure rfl (S.field rfl fa148_1) rfl ?_
  refine D.pure rfl (S.move rfl) rfl ?_
  refine D.pure rfl (S.nilPtr rfl) rfl ?_
  refine D.pure rfl (S.field rfl fa148_0) rfl ?_
  refine D.seg (by decide) ?_
  refine W.still rfl (S.load 1 (k := 1) rfl rfl rfl Tryd.isAgg3) rfl ?_
  refine W.still rfl (S.load 1 (k := 0) rfl rfl rfl Tryd.isAgg22) rfl ?_
  refine W.pure rfl (S.lenSl rfl Tryd.underlying22) rfl ?_
  refine W.pure rfl (S.eq rfl rfl) rfl ?_
  refine W.reslot (v := .bool false) (congrArg Value.bool (by decide)) ?_
  refine W.nil ?_
  refine D.keep [0, 1, 2, 19, 41, 70] (env1 := [(0, _), (1, _), (2, _), (19, _), (41, _), (70, _)]) rfl ?_
  refine C.no rfl (rfl) ?_
  refine C.skip ?_
  refine C.region ?_
  refine E.pure (S.move rfl) rfl ?_
  refine E.pure (S.move rfl) rfl ?_
  refine E.pure (S.nilPtr rfl) rfl ?_
  refine E.pure (S.field rfl fa148_1) rfl ?_
  refine E.still (S.load 1 (k := 1) rfl rfl rfl Tryd.isAgg3) rfl ?_
  refine E.pure (S.nilPtr rfl) rfl ?_
  refine E.pure (S.field rfl fa148_2) rfl ?_
  refine E.loud0 (X.store 1 (k := 2) rfl rfl rfl rfl rfl Tryd.sizeOf3) ?_; rintro _ _ ⟨rfl, rfl⟩; refine E.relist (L2 := [_, _]) rfl ?_
  refine E.keep [0, 1, 2, 19, 41, 70] (env1 := [(0, _), (1, _), (2, _), (19, _), (41, _), (70, _)]) rfl ?_
  exact ⟨hb, rfl, rfl⟩
/-- What NewReader makes. -/
def newDec {K : Known} {ea : Fin 5 → Addr} (src : Src K ea) (fb ab cb hb : Nat) : Frags :=
  decParts fb [.iface src.t src.v, .pointer none, .int .i64 0, .int .u32 0, .int .u64 0] [.int .i64 0] (List.replicate 512 (.int .u32 0)) [.slice none 0 0, .int .u32 0] [.int .i64 0] (List.replicate 512 (.int .u32 0)) [.slice none 0 0, .int .u32 0]
    [.pointer (some ⟨ab, 0, none⟩), .pointer (some ⟨cb, 0, none⟩)] [.slice (some ⟨hb, 0, none⟩) 32768 32768, .int .i64 0, .int .i64 0, .bool false] [.int .u8 0, .int .u8 0, .int .u8 0, .int .u8 0] [.func (.func 67) #[] #[], .int .i64 0, .bool false, .nilIface, .slice none 0 0, .pointer none, .pointer none, .int .i64 0, .int .i64 0] ++
  [⟨ab, 0, List.replicate 316 (.int .i64 0)⟩, ⟨cb, 0, List.replicate 19 (.int .i64 0)⟩, ⟨hb, 0, List.replicate 32768 (.int .u8 0)⟩]

theorem flateNewReader_spec {K : Known} {ea : Fin 5 → Addr} (src : Src K ea) : Fn Tryd.prog K 59 #[.iface src.t src.v] [] (fun r L => ∃ fb ab cb hb, r = .iface 157 (.pointer (some ⟨fb, 0, none⟩)) ∧ Same L (newDec src fb ab cb hb)) := by
  refine Fn.intro (args := [.iface src.t src.v]) (RR := Ret1 2 _) Tryd.func59 rfl rfl Tryd.ntmps59 (res1 Tryd.results59) ?_
  refine C.reenv (env2 := [(0, .iface src.t src.v)]) rfl ?_
  refine C.seq ?_
  refine C.region ?_
  refine E.pure (S.assign rfl) rfl ?_
  refine E.keep [0, 2] (env1 := [(0, _), (2, _)]) rfl ?_
  refine C.seq ?_
  refine C.region ?_
  refine E.loud1 (X.alloc Tryd.zeroValue153) rfl ?_; rintro _ _ ⟨b3, rfl, rfl⟩; refine E.relist (L2 := [_]) rfl ?_
  refine E.relist (congrArg (fun x => [(⟨b3, 0, x⟩ : Frag)]) zcDec) ?_
  refine E.same (decSame b3 [] _ _ _ _ _ _ _ _ _ _ _ rfl rfl List.length_replicate rfl rfl List.length_replicate rfl rfl rfl rfl) ?_
  refine E.relist (L2 := [⟨b3, 0, _⟩, ⟨b3, 5, _⟩, ⟨b3, 6, _⟩, ⟨b3, 518, _⟩, ⟨b3, 520, _⟩, ⟨b3, 521, _⟩, ⟨b3, 1033, _⟩, ⟨b3, 1035, _⟩, ⟨b3, 1037, _⟩, ⟨b3, 1041, _⟩, ⟨b3, 1045, _⟩]) rfl ?_
  refine E.keep [0, 2, 3] (env1 := [(0, _), (2, _), (3, _)]) rfl ?_
  refine C.seq ?_
  refine C.region ?_
  refine E.pure (S.move rfl) rfl ?_
  refine E.loud1 (OpX.pick [0] (F := [_, _, _, _, _, _, _, _, _, _]) rfl (X.call rfl Tryd.call66 (makeReader_spec src b3 _ _ _ _ _))) rfl ?_; rintro _ _ ⟨_, ⟨rfl, rfl⟩, rfl⟩; refine E.relist (L2 := [_, _, _, _, _, _, _, _, _, _, _]) rfl ?_
  refine E.keep [2, 3] (env1 := [(2, _), (3, _)]) rfl ?_
  refine C.seq ?_
  refine C.region ?_
  refine E.loud1 (X.alloc Tryd.zeroValue155) rfl ?_; rintro _ _ ⟨b6, rfl, rfl⟩; refine E.relist (L2 := [_, _, _, _, _, _, _, _, _, _, _, _]) rfl ?_
  refine E.relist (L2 := [⟨b6, 0, List.replicate 316 (.int .i64 0)⟩, ⟨b3, 0, _⟩, ⟨b3, 5, _⟩, ⟨b3, 6, _⟩, ⟨b3, 518, _⟩, ⟨b3, 520, _⟩, ⟨b3, 521, _⟩, ⟨b3, 1033, _⟩, ⟨b3, 1035, _⟩, ⟨b3, 1037, _⟩, ⟨b3, 1041, _⟩, ⟨b3, 1045, _⟩]) (by rw [zcBits]) ?_
  refine E.pure (S.field rfl fa153_7) rfl ?_
  refine E.loud0 (X.store 8 (k := 0) rfl rfl rfl rfl rfl Tryd.sizeOf145) ?_; rintro _ _ ⟨rfl, rfl⟩; refine E.relist (L2 := [_, _, _, _, _, _, _, _, _, _, _, _]) rfl ?_
  refine E.keep [2, 3] (env1 := [(2, _), (3, _)]) rfl ?_
  refine C.seq ?_
  refine C.region ?_
  refine E.loud1 (X.alloc Tryd.zeroValue156) rfl ?_; rintro _ _ ⟨b8, rfl, rfl⟩; refine E.relist (L2 := [_, _, _, _, _, _, _, _, _, _, _, _, _]) rfl ?_
  refine E.pure (S.field rfl fa153_8) rfl ?_
  refine E.loud0 (X.store 9 (k := 1) rfl rfl rfl rfl rfl Tryd.sizeOf146) ?_; rintro _ _ ⟨rfl, rfl⟩; refine E.relist (L2 := [_, _, _, _, _, _, _, _, _, _, _, _, _]) rfl ?_
  refine E.keep [2, 3] (env1 := [(2, _), (3, _)]) rfl ?_
  refine C.seq ?_
  refine C.region ?_
  refine E.pure (S.field rfl fa153_11) rfl ?_
  refine E.loud0 (X.store 12 (k := 0) rfl rfl rfl rfl rfl Tryd.sizeOf150) ?_; rintro _ _ ⟨rfl, rfl⟩; refine E.relist (L2 := [_, _, _, _, _, _, _, _, _, _, _, _, _]) rfl ?_
  refine E.keep [2, 3] (env1 := [(2, _), (3, _)]) rfl ?_
  refine C.seq ?_
  refine C.region ?_
  refine E.pure (S.field rfl fa153_9) rfl ?_
  refine E.loud1 (OpX.pick [10] (F := [_, _, _, _, _, _, _, _, _, _, _, _]) rfl (X.call rfl Tryd.call68 (dictInit_new b3 1037 _ _ _))) rfl ?_; rintro _ _ ⟨_, ⟨hb, rfl, rfl⟩, rfl⟩; refine E.relist (L2 := [_, _, _, _, _, _, _, _, _, _, _, _, _, _]) rfl ?_
  refine E.keep [2, 3] (env1 := [(2, _), (3, _)]) rfl ?_
  refine C.seq ?_
  refine C.region ?_
  refine E.pure (S.mkIface rfl conc157) rfl ?_
  refine E.pure (S.assign rfl) rfl ?_
  refine E.keep [2, 3] (env1 := [(2, _), (3, _)]) rfl ?_
  refine C.ret ?_
  exact ⟨_, rfl, b3, b6, b8, hb, rfl, (Same.perm (picks_perm (A := newDec src b3 b6 b8 hb) (F := []) (is := [4, 4, 4, 4, 4, 4, 4, 4, 1, 3, 3, 2, 1, 0]) rfl)).trans (Same.of_eq (List.append_nil _))⟩
theorem flateNew_spec {K : Known} {ea : Fin 5 → Addr} (src : Src K ea) : Fn Tryd.prog K 59 #[.iface src.t src.v] [] (fun r L => ∃ fb ab cb hb, r = .iface 157 (.pointer (some ⟨fb, 0, none⟩)) ∧ L = newDec src fb ab cb hb) :=
  Fn.sameR (flateNewReader_spec src) fun v L' h => by
    obtain ⟨fb, ab, cb, hb, h1, h2⟩ := h
    exact ⟨_, h2, fb, ab, cb, hb, h1, rfl⟩

end Go.Eng
