/-
  Walks of gzip: Reset and NewReader, the first time; of the thin package: kinds, headers, Open.
-/
import Derived.Test.YtbjbmpcgiokdaaaDoorZip
set_option linter.unusedVariables false
set_option linter.unusedSimpArgs false
namespace Go.Eng
open Go Go.Proofs
set_option maxRecDepth 100000

/-- A gzip.Reader behind Reset on a source: it holds the first header; and the error. -/
def ZipAt {K : Known} {ea : Fin 5 → Addr} (src : Src K ea) (zb : Nat) (h : Hd) (e : Er) (ms : Bool) (rest : List UInt8) (L : Frags) : Prop :=
  ∃ f1 f2 f3 bs xa xn X fb ab cb wb, src.At rest f1 f2 f3 ∧ bs.length = 512 ∧ ExAt h.extra xa xn X ∧
    L = newDec src fb ab cb wb ++ [f1, f2, f3, ⟨zb, 0, [.string h.comment, .slice xa xn xn, .int .u64 0, .int .i64 (timeV h.mod), .string h.name, .int .u8 ((h.os : Nat) : Int), .iface src.t src.v, .iface 157 (.pointer (some ⟨fb, 0, none⟩)), .int .u32 ((0 : Nat) : Int), .int .u32 0]⟩, ⟨zb, 10, bs⟩, X, ⟨zb, 522, [Er.val ea e, .bool ms]⟩]

/-- How Reset and NewReader end. -/
def OpenEnd {K : Known} {ea : Fin 5 → Addr} (src : Src K ea) (zb : Nat) (l : List UInt8) (L : Frags) : Prop :=
  ((readHead l).1 ≠ .none ∧ ∃ f1 f2 f3 T, src.At (readHead l).2.1 f1 f2 f3 ∧ L = [f1, f2, f3] ++ T) ∨ ((readHead l).1 = .none ∧ ZipAt src zb (readHead l).2.2 .none true (readHead l).2.1 L)

theorem reset_first {K : Known} {ea : Fin 5 → Addr} (hs : Sents K ea) (src : Src K ea) (l : List UInt8) (x1 x2 x3 : Frag) (zb : Nat) (hA : src.At l x1 x2 x3) : Fn Tryd.prog K 38 #[.pointer (some ⟨zb, 0, none⟩), .iface src.t src.v] [x1, x2, x3, ⟨zb, 0, zip10 .nilIface .nilIface ++ (buf0 ++ zipEnd .nilIface false)⟩] (fun r L => r = Er.val ea (readHead l).1 ∧ OpenEnd src zb l L) := by
  refine Fn.intro (args := [.pointer (some ⟨zb, 0, none⟩), .iface src.t src.v]) (RR := Ret1 4 _) Tryd.func38 rfl rfl Tryd.ntmps38 (res1 Tryd.results38) ?_
  refine C.reenv (env2 := [(0, .pointer (some ⟨zb, 0, none⟩)), (1, .iface src.t src.v)]) rfl ?_
  refine C.seq ?_
  refine C.region ?_
  refine E.pure (S.assign (v := Er.val ea .none) rfl) rfl ?_
  refine E.keep [0, 1, 4] (env1 := [(0, _), (1, _), (4, _)]) rfl ?_
  refine C.seq ?_
  refine C.region ?_
  refine E.pure (S.move rfl) rfl ?_
  refine E.pure (S.move rfl) rfl ?_
  refine E.pure (S.nilPtr rfl) rfl ?_
  refine E.pure (S.field rfl fa76_2) rfl ?_
  refine E.still (S.load 3 (k := 7) rfl rfl rfl Tryd.isAgg73) rfl ?_
  refine E.pure (S.buildV [(2, .nilIface), (7, .bool true)] rfl (zipBuild .nilIface rfl)) rfl ?_
  refine E.pure (S.nilPtr rfl) rfl ?_
  refine E.loud0 (X.storeA 3 (k := 0) rfl rfl rfl (zip_one .nilIface rfl) (zip_len .nilIface) (by kernel_rfl) Tryd.sizeOf76 rfl) ?_
  rintro _ _ ⟨rfl, rfl⟩
  refine E.relist (L2 := [x1, x2, x3, ⟨zb, 0, zip10 .nilIface .nilIface ++ (buf0 ++ zipEnd .nilIface true)⟩]) (zipStore zb x1 x2 x3) ?_
  refine E.keep [0, 1, 4] (env1 := [(0, _), (1, _), (4, _)]) rfl ?_
  refine C.perml [3, 0, 0, 0] (A := [_, _, _, _]) (F := []) rfl ?_
  refine C.same (Same.of_eq (L' := ⟨zb, 0, zip10 .nilIface .nilIface ++ (buf0 ++ zipEnd .nilIface true)⟩ :: [x1, x2, x3]) rfl) ?_
  refine C.same (zipSame zb [x1, x2, x3] _ _ _ rfl buf0_length) ?_
  refine C.relist (L2 := [⟨zb, 0, [.string ⟨#[]⟩, .slice none 0 0, .int .u64 0, .int .i64 0, .string ⟨#[]⟩, .int .u8 0, .nilIface, .nilIface, .int .u32 0, .int .u32 0]⟩, ⟨zb, 10, buf0⟩, ⟨zb, 522, [.nilIface, .bool true]⟩, x1, x2, x3]) rfl ?_
  refine C.seq ?_
  refine C.seq ?_
  refine C.region ?_
  refine E.pure (S.move rfl) rfl ?_
  refine E.pure (S.assertHas rfl Tryd.underlying71 (src.both _ Tryd.underlying71)) rfl ?_
  refine E.pure (S.move rfl) rfl ?_
  refine E.pure (S.extract rfl rfl) rfl ?_
  refine E.pure (S.extract rfl rfl) rfl ?_
  refine E.pure (S.assign rfl) rfl ?_
  refine E.pure (S.assign rfl) rfl ?_
  refine E.keep [0, 1, 4, 5, 6] (env1 := [(0, _), (1, _), (4, _), (5, _), (6, _)]) rfl ?_
  refine C.seq ?_
  refine C.region ?_
  refine E.pure (S.move rfl) rfl ?_
  refine E.keep [0, 1, 4, 5, 6, 19] (env1 := [(0, _), (1, _), (4, _), (5, _), (6, _), (19, _)]) rfl ?_
  refine C.yes rfl (rfl) ?_
  refine C.region ?_
  refine E.pure (S.move rfl) rfl ?_
  refine E.pure (S.move rfl) rfl ?_
  refine E.pure (S.nilPtr rfl) rfl ?_
  refine E.pure (S.field rfl fa76_1) rfl ?_
  refine E.loud0 (X.store 0 (k := 6) rfl rfl rfl rfl rfl Tryd.sizeOf71) ?_; rintro _ _ ⟨rfl, rfl⟩; refine E.relist (L2 := [_, _, _, _, _, _]) rfl ?_
  refine E.keep [0, 1, 4, 5, 6, 19] (env1 := [(0, _), (1, _), (4, _), (5, _), (6, _), (19, _)]) rfl ?_
  refine C.seq ?_
  refine C.region ?_
  refine E.pure (S.move rfl) rfl ?_
  refine E.pure (S.move rfl) rfl ?_
  refine E.pure (S.move rfl) rfl ?_
  refine E.loud1 (OpX.pick [3, 3, 3, 0, 0] (F := [_]) rfl (X.call rfl Tryd.call48 (readHeader_spec hs src l x1 x2 x3 zb 0 _ _ _ _ _ _ (.int .u32 0) buf0 hA buf0_length (by decide)))) rfl ?_
  rintro _ _ ⟨_, ⟨hs6, f1, f2, f3, d2, bs2, h6, h7, rfl, hF, hb2, hd2, ⟨hne, rfl⟩ | ⟨hno, xa, xn, xf, fb, ab, cb, wb, hX, rfl, rfl, rfl⟩⟩, rfl⟩
  ·
    refine E.relist (L2 := [_, _, _, _, _, _]) rfl ?_
    obtain ⟨a0, a1, a2, a3, a4, a5, rfl⟩ := six h6
    refine E.pure (S.move rfl) rfl ?_
    refine E.pure (S.extract rfl rfl) rfl ?_
    refine E.pure (S.extract rfl rfl) rfl ?_
    refine E.pure (S.nilPtr rfl) rfl ?_
    refine E.pure (S.field rfl fa76_0) rfl ?_
    refine E.loud0 (X.storeA 3 (k := 0) rfl rfl rfl h7 rfl rfl Tryd.sizeOf69 rfl) ?_; rintro _ _ ⟨rfl, rfl⟩; refine E.relist (L2 := [_, _, _, _, _, _]) rfl ?_
    refine E.pure (S.nilPtr rfl) rfl ?_
    refine E.pure (S.field rfl fa76_6) rfl ?_
    refine E.loud0 (X.store 5 (k := 0) rfl rfl rfl (one_er _) rfl Tryd.sizeOf59) ?_; rintro _ _ ⟨rfl, rfl⟩; refine E.relist (L2 := [_, _, _, _, _, _]) rfl ?_
    refine E.keep [0, 1, 4, 5, 6, 19] (env1 := [(0, _), (1, _), (4, _), (5, _), (6, _), (19, _)]) rfl ?_
    refine C.seq ?_
    refine C.region ?_
    refine E.pure (S.move rfl) rfl ?_
    refine E.pure (S.nilPtr rfl) rfl ?_
    refine E.pure (S.field rfl fa76_6) rfl ?_
    refine E.still (S.load 5 (k := 0) rfl rfl rfl Tryd.isAgg59) rfl ?_
    refine E.pure (S.assign rfl) rfl ?_
    refine E.keep [0, 1, 4, 5, 6, 19] (env1 := [(0, _), (1, _), (4, _), (5, _), (6, _), (19, _)]) rfl ?_
    refine C.ret ?_
    refine ⟨_, rfl, rfl, .inl ⟨hne, f1, f2, f3, _, hF, rfl⟩⟩
  ·
    refine E.relist (L2 := [_, _, _, _, _, _, _, _, _, _, _, _, _, _, _, _, _, _, _, _, _]) rfl ?_
    refine E.pure (S.move rfl) rfl ?_
    refine E.pure (S.extract rfl rfl) rfl ?_
    refine E.pure (S.extract rfl rfl) rfl ?_
    refine E.pure (S.nilPtr rfl) rfl ?_
    refine E.pure (S.field rfl fa76_0) rfl ?_
    refine E.loud0 (X.storeA 17 (k := 0) rfl rfl rfl rfl rfl rfl Tryd.sizeOf69 rfl) ?_; rintro _ _ ⟨rfl, rfl⟩; refine E.relist (L2 := [_, _, _, _, _, _, _, _, _, _, _, _, _, _, _, _, _, _, _, _, _]) rfl ?_
    refine E.pure (S.nilPtr rfl) rfl ?_
    refine E.pure (S.field rfl fa76_6) rfl ?_
    refine E.loud0 (X.store 20 (k := 0) rfl rfl rfl (one_er _) rfl Tryd.sizeOf59) ?_; rintro _ _ ⟨rfl, rfl⟩; refine E.relist (L2 := [_, _, _, _, _, _, _, _, _, _, _, _, _, _, _, _, _, _, _, _, _]) rfl ?_
    refine E.keep [0, 1, 4, 5, 6, 19] (env1 := [(0, _), (1, _), (4, _), (5, _), (6, _), (19, _)]) rfl ?_
    refine C.seq ?_
    refine C.region ?_
    refine E.pure (S.move rfl) rfl ?_
    refine E.pure (S.nilPtr rfl) rfl ?_
    refine E.pure (S.field rfl fa76_6) rfl ?_
    refine E.still (S.load 20 (k := 0) rfl rfl rfl Tryd.isAgg59) rfl ?_
    refine E.pure (S.assign rfl) rfl ?_
    refine E.keep [0, 1, 4, 5, 6, 19] (env1 := [(0, _), (1, _), (4, _), (5, _), (6, _), (19, _)]) rfl ?_
    refine C.ret ?_
    refine ⟨_, rfl, rfl, .inr ⟨hno, f1, f2, f3, bs2, xa, xn, xf, fb, ab, cb, wb, hF, hb2, hX, ?_⟩⟩
    rw [← hno]
    rfl
theorem newReader_first {K : Known} {ea : Fin 5 → Addr} (hs : Sents K ea) (src : Src K ea) (l : List UInt8) (x1 x2 x3 : Frag) (hA : src.At l x1 x2 x3) : Fn Tryd.prog K 25 #[.iface src.t src.v] [x1, x2, x3] (fun r L => ((readHead l).1 ≠ .none ∧ r = .tuple #[.pointer none, Er.val ea (readHead l).1] ∧ ∃ f1 f2 f3 T, src.At (readHead l).2.1 f1 f2 f3 ∧ L = [f1, f2, f3] ++ T) ∨ ((readHead l).1 = .none ∧ ∃ zb, r = .tuple #[.pointer (some ⟨zb, 0, none⟩), Er.val ea .none] ∧ ZipAt src zb (readHead l).2.2 .none true (readHead l).2.1 L)) := by
  refine Fn.intro (args := [.iface src.t src.v]) (RR := Ret2 2 3 _) Tryd.func25 rfl rfl Tryd.ntmps25 (res2 Tryd.results25) ?_
  refine C.reenv (env2 := [(0, .iface src.t src.v)]) rfl ?_
  refine C.seq ?_
  refine C.region ?_
  refine E.pure (S.assign rfl) rfl ?_
  refine E.pure (S.assign (v := Er.val ea .none) rfl) rfl ?_
  refine E.keep [0, 2, 3] (env1 := [(0, _), (2, _), (3, _)]) rfl ?_
  refine C.seq ?_
  refine C.region ?_
  refine E.loud1 (X.alloc Tryd.zeroValue76) rfl ?_; rintro _ _ ⟨b6, rfl, rfl⟩; refine E.relist (L2 := [_, _, _, _]) rfl ?_
  refine E.perml [1, 1, 1, 0] (A := [_, _, _, _]) (F := []) rfl ?_
  refine E.relist (L2 := [x1, x2, x3, ⟨b6, 0, zip10 .nilIface .nilIface ++ (buf0 ++ zipEnd .nilIface false)⟩]) (by rw [zipZero]; rfl) ?_
  refine E.pure (S.assign rfl) rfl ?_
  refine E.keep [0, 2, 3, 4] (env1 := [(0, _), (2, _), (3, _), (4, _)]) rfl ?_
  refine C.seq ?_
  refine C.seq ?_
  refine C.region ?_
  refine E.pure (S.move rfl) rfl ?_
  refine E.pure (S.move rfl) rfl ?_
  refine E.loud1 (X.call rfl Tryd.call38 (reset_first hs src l x1 x2 x3 b6 hA)) rfl ?_
  rintro _ L2 ⟨rfl, hE⟩
  refine E.pure (S.assign rfl) rfl ?_
  refine E.keep [2, 3, 4, 5] (env1 := [(2, _), (3, _), (4, _), (5, _)]) rfl ?_
  refine C.seq ?_
  refine C.region ?_
  refine E.pure (S.move rfl) rfl ?_
  refine E.still (S.neErNil rfl) rfl ?_
  refine E.keep [2, 3, 4, 5, 11] (env1 := [(2, _), (3, _), (4, _), (5, _), (11, _)]) rfl ?_
  first | refine C.ifp rfl (fun h11 => ?_) (fun h11 => ?_) | refine C.ifNone rfl (fun h11 => ?_) (fun h11 => ?_) | refine C.ifSome rfl (fun h11 => ?_) (fun h11 => ?_) | refine C.ifSe rfl (fun h11 => ?_) (fun h11 => ?_) | refine C.ifNotSe rfl (fun h11 => ?_) (fun h11 => ?_) | refine C.cond rfl (fun h11 => ?_) (fun h11 => ?_)
  ·
    have hE2 := hE.resolve_right (fun h => h11 h.1)
    refine C.seq ?_
    refine C.region ?_
    refine E.pure (S.move rfl) rfl ?_
    refine E.pure (S.assign rfl) rfl ?_
    refine E.pure (S.assign rfl) rfl ?_
    refine E.keep [2, 3, 4, 5, 11] (env1 := [(2, _), (3, _), (4, _), (5, _), (11, _)]) rfl ?_
    refine C.ret ?_
    exact ⟨_, _, rfl, rfl, .inl ⟨h11, rfl, hE2.2⟩⟩
  ·
    have hE2 := hE.resolve_left (fun h => h.1 h11)
    refine C.skip ?_
    refine C.seq ?_
    refine C.region ?_
    refine E.pure (S.move rfl) rfl ?_
    refine E.pure (S.assign rfl) rfl ?_
    refine E.pure (S.assign (v := Er.val ea .none) rfl) rfl ?_
    refine E.keep [2, 3, 4, 5, 11] (env1 := [(2, _), (3, _), (4, _), (5, _), (11, _)]) rfl ?_
    refine C.ret ?_
    exact ⟨_, _, rfl, rfl, .inr ⟨h11, b6, rfl, hE2.2⟩⟩
theorem kind_spec {K : Known} {ea : Fin 5 → Addr} (hs : Sents K ea) (e : Er) : Fn Tryd.prog K 27 #[Er.val ea e] [] (fun r L => r = .int .i64 ((kindOf e : Nat) : Int) ∧ L = []) := by
  refine Fn.intro (args := [Er.val ea e]) (RR := Ret1 2 _) Tryd.func27 rfl rfl Tryd.ntmps27 (res1 Tryd.results27) ?_
  refine C.reenv (env2 := [(0, Er.val ea e)]) rfl ?_
  refine C.seq ?_
  refine C.region ?_
  refine E.pure (S.assign rfl) rfl ?_
  refine E.keep [0, 2] (env1 := [(0, _), (2, _)]) rfl ?_
  refine C.seq ?_
  refine C.block ?_
  refine C.seq ?_
  refine C.region ?_
  refine E.pure (S.move rfl) rfl ?_
  refine E.still (S.eqErNil rfl) rfl ?_
  refine E.pure (S.assign rfl) rfl ?_
  refine E.keep [0, 2, 3] (env1 := [(0, _), (2, _), (3, _)]) rfl ?_
  first | refine C.ifp rfl (fun h3 => ?_) (fun h3 => ?_) | refine C.ifNone rfl (fun h3 => ?_) (fun h3 => ?_) | refine C.ifSome rfl (fun h3 => ?_) (fun h3 => ?_) | refine C.ifSe rfl (fun h3 => ?_) (fun h3 => ?_) | refine C.ifNotSe rfl (fun h3 => ?_) (fun h3 => ?_) | refine C.cond rfl (fun h3 => ?_) (fun h3 => ?_)
  ·
    refine C.seq ?_
    refine C.region ?_
    refine E.pure (S.assign rfl) rfl ?_
    refine E.keep [0, 2, 3] (env1 := [(0, _), (2, _), (3, _)]) rfl ?_
    refine C.ret ?_
    first | exact ⟨_, rfl, by rw [h3]; rfl, rfl⟩ | exact ⟨_, rfl, by rw [h6]; rfl, rfl⟩ | exact ⟨_, rfl, by rw [h10]; rfl, rfl⟩ | exact ⟨_, rfl, by rw [h14]; rfl, rfl⟩ | exact ⟨_, rfl, by rw [kindOf_other h3 h6 h10 h14]; rfl, rfl⟩
  ·
    refine C.seq ?_
    refine C.region ?_
    refine E.pure (S.move rfl) rfl ?_
    refine E.still (S.loadBase rfl hs.g0 Tryd.isAgg59) rfl ?_
    refine E.still (S.eqEr hs rfl rfl) rfl ?_
    refine E.pure (S.assign rfl) rfl ?_
    refine E.keep [0, 2, 3, 6] (env1 := [(0, _), (2, _), (3, _), (6, _)]) rfl ?_
    first | refine C.ifp rfl (fun h6 => ?_) (fun h6 => ?_) | refine C.ifNone rfl (fun h6 => ?_) (fun h6 => ?_) | refine C.ifSome rfl (fun h6 => ?_) (fun h6 => ?_) | refine C.ifSe rfl (fun h6 => ?_) (fun h6 => ?_) | refine C.ifNotSe rfl (fun h6 => ?_) (fun h6 => ?_) | refine C.cond rfl (fun h6 => ?_) (fun h6 => ?_)
    ·
      refine C.seq ?_
      refine C.region ?_
      refine E.pure (S.assign rfl) rfl ?_
      refine E.keep [0, 2, 3, 6] (env1 := [(0, _), (2, _), (3, _), (6, _)]) rfl ?_
      refine C.ret ?_
      first | exact ⟨_, rfl, by rw [h3]; rfl, rfl⟩ | exact ⟨_, rfl, by rw [h6]; rfl, rfl⟩ | exact ⟨_, rfl, by rw [h10]; rfl, rfl⟩ | exact ⟨_, rfl, by rw [h14]; rfl, rfl⟩ | exact ⟨_, rfl, by rw [kindOf_other h3 h6 h10 h14]; rfl, rfl⟩
    ·
      refine C.seq ?_
      refine C.region ?_
      refine E.pure (S.move rfl) rfl ?_
      refine E.still (S.loadBase rfl hs.g1 Tryd.isAgg59) rfl ?_
      refine E.still (S.eqEr hs rfl rfl) rfl ?_
      refine E.pure (S.assign rfl) rfl ?_
      refine E.keep [0, 2, 3, 6, 10] (env1 := [(0, _), (2, _), (3, _), (6, _), (10, _)]) rfl ?_
      first | refine C.ifp rfl (fun h10 => ?_) (fun h10 => ?_) | refine C.ifNone rfl (fun h10 => ?_) (fun h10 => ?_) | refine C.ifSome rfl (fun h10 => ?_) (fun h10 => ?_) | refine C.ifSe rfl (fun h10 => ?_) (fun h10 => ?_) | refine C.ifNotSe rfl (fun h10 => ?_) (fun h10 => ?_) | refine C.cond rfl (fun h10 => ?_) (fun h10 => ?_)
      ·
        refine C.seq ?_
        refine C.region ?_
        refine E.pure (S.assign rfl) rfl ?_
        refine E.keep [0, 2, 3, 6, 10] (env1 := [(0, _), (2, _), (3, _), (6, _), (10, _)]) rfl ?_
        refine C.ret ?_
        first | exact ⟨_, rfl, by rw [h3]; rfl, rfl⟩ | exact ⟨_, rfl, by rw [h6]; rfl, rfl⟩ | exact ⟨_, rfl, by rw [h10]; rfl, rfl⟩ | exact ⟨_, rfl, by rw [h14]; rfl, rfl⟩ | exact ⟨_, rfl, by rw [kindOf_other h3 h6 h10 h14]; rfl, rfl⟩
      ·
        refine C.seq ?_
        refine C.region ?_
        refine E.pure (S.move rfl) rfl ?_
        refine E.still (S.loadBase rfl hs.g2 Tryd.isAgg59) rfl ?_
        refine E.still (S.eqEr hs rfl rfl) rfl ?_
        refine E.pure (S.assign rfl) rfl ?_
        refine E.keep [0, 2, 3, 6, 10, 14] (env1 := [(0, _), (2, _), (3, _), (6, _), (10, _), (14, _)]) rfl ?_
        first | refine C.ifp rfl (fun h14 => ?_) (fun h14 => ?_) | refine C.ifNone rfl (fun h14 => ?_) (fun h14 => ?_) | refine C.ifSome rfl (fun h14 => ?_) (fun h14 => ?_) | refine C.ifSe rfl (fun h14 => ?_) (fun h14 => ?_) | refine C.ifNotSe rfl (fun h14 => ?_) (fun h14 => ?_) | refine C.cond rfl (fun h14 => ?_) (fun h14 => ?_)
        ·
          refine C.seq ?_
          refine C.region ?_
          refine E.pure (S.assign rfl) rfl ?_
          refine E.keep [0, 2, 3, 6, 10, 14] (env1 := [(0, _), (2, _), (3, _), (6, _), (10, _), (14, _)]) rfl ?_
          refine C.ret ?_
          first | exact ⟨_, rfl, by rw [h3]; rfl, rfl⟩ | exact ⟨_, rfl, by rw [h6]; rfl, rfl⟩ | exact ⟨_, rfl, by rw [h10]; rfl, rfl⟩ | exact ⟨_, rfl, by rw [h14]; rfl, rfl⟩ | exact ⟨_, rfl, by rw [kindOf_other h3 h6 h10 h14]; rfl, rfl⟩
        ·
          refine C.seq ?_
          refine C.region ?_
          refine E.pure (S.move rfl) rfl ?_
          refine E.pure (S.buildV (v := .agg #[]) [] rfl (fun w => by simp [Instr.build, Instr.fill, Value.cells, Tryd.zeroValue99])) rfl ?_
          refine E.pure (S.mkIface rfl conc99) rfl ?_
          refine E.still (S.eqErOther rfl rfl rfl rfl rfl) rfl ?_
          refine E.pure (S.assign rfl) rfl ?_
          refine E.keep [0, 2, 3, 6, 10, 14, 18] (env1 := [(0, _), (2, _), (3, _), (6, _), (10, _), (14, _), (18, _)]) rfl ?_
          refine C.no rfl (rfl) ?_
          refine C.skip ?_
          refine C.seq ?_
          refine C.region ?_
          refine E.pure (S.assign rfl) rfl ?_
          refine E.keep [0, 2, 3, 6, 10, 14, 18] (env1 := [(0, _), (2, _), (3, _), (6, _), (10, _), (14, _), (18, _)]) rfl ?_
          refine C.ret ?_
          first | exact ⟨_, rfl, by rw [h3]; rfl, rfl⟩ | exact ⟨_, rfl, by rw [h6]; rfl, rfl⟩ | exact ⟨_, rfl, by rw [h10]; rfl, rfl⟩ | exact ⟨_, rfl, by rw [h14]; rfl, rfl⟩ | exact ⟨_, rfl, by rw [kindOf_other h3 h6 h10 h14]; rfl, rfl⟩
end Go.Eng
