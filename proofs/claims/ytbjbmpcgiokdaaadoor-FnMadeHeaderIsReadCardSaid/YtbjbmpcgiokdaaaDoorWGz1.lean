/-
  Walks of small functions of gzip and time.
-/
import Derived.Test.YtbjbmpcgiokdaaaDoorWIo
import Derived.Test.YtbjbmpcgiokdaaaDoorEng7
import Derived.Test.YtbjbmpcgiokdaaaDoorWCrc
set_option linter.unusedVariables false
set_option linter.unusedSimpArgs false
namespace Go.Eng
open Go Go.Proofs
set_option maxRecDepth 100000


/-- noEOF. -/
def noEof (e : Er) : Er := bif e.isSe 0 then .unexp else e
theorem noEof_eof {e : Er} (h : e = .se 0) : noEof e = .unexp := by rw [h]; rfl
theorem noEof_other {e : Er} (h : e ≠ .se 0) : noEof e = e := by rw [noEof, Er.isSe_not.2 h]; rfl

def le16 (a b : Nat) : Nat := a ||| ((b <<< 8) % 65536)
theorem le16_val {a b : Nat} (ha : a < 256) (hb : b < 256) : le16 a b = a + 256 * b := by
  unfold le16
  rw [show (b <<< 8) % 65536 = b <<< 8 by rw [Nat.shiftLeft_eq]; omega]
  have := Nat.shiftLeft_add_eq_or_of_lt (b := a) (i := 8) (by omega) b
  rw [Nat.or_comm, ← this, Nat.shiftLeft_eq]; omega
theorem le16_lt {a b : Nat} (ha : a < 256) (hb : b < 256) : le16 a b < 65536 := by rw [le16_val ha hb]; omega

theorem gogzip_noEOF {K : Known} {L : Frags} {ea : Fin 5 → Addr} (hs : Sents K ea) (e : Er) : Fn Tryd.prog K 46 #[Er.val ea e] [] (fun r L => r = Er.val ea (noEof e) ∧ L = []) := by
  refine Fn.intro (args := [Er.val ea e]) (RR := Ret1 2 _) Tryd.func46 rfl rfl Tryd.ntmps46 (res1 Tryd.results46) ?_
  refine C.reenv (env2 := [(0, Er.val ea e)]) rfl ?_
  refine C.seq ?_
  refine C.region ?_
  refine E.pure (S.assign (v := Er.val ea .none) rfl) rfl ?_
  refine E.keep [0, 2] (env1 := [(0, _), (2, _)]) rfl ?_
  refine C.seq ?_
  refine C.seq ?_
  refine C.region ?_
  refine E.pure (S.move rfl) rfl ?_
  refine E.still (S.loadBase rfl hs.g0 Tryd.isAgg59) rfl ?_
  refine E.still (S.eqEr hs rfl rfl) rfl ?_
  refine E.keep [0, 2, 5] (env1 := [(0, _), (2, _), (5, _)]) rfl ?_
  first | refine C.ifp rfl (fun h5 => ?_) (fun h5 => ?_) | refine C.ifNone rfl (fun h5 => ?_) (fun h5 => ?_) | refine C.ifSome rfl (fun h5 => ?_) (fun h5 => ?_) | refine C.ifSe rfl (fun h5 => ?_) (fun h5 => ?_) | refine C.ifNotSe rfl (fun h5 => ?_) (fun h5 => ?_) | refine C.cond rfl (fun h5 => ?_) (fun h5 => ?_)
  ·
    refine C.seq ?_
    refine C.region ?_
    refine E.still (S.loadBase rfl hs.g3 Tryd.isAgg59) rfl ?_
    refine E.pure (S.assign rfl) rfl ?_
    refine E.keep [0, 2, 5] (env1 := [(0, _), (2, _), (5, _)]) rfl ?_
    refine C.ret ?_
    first | exact ⟨_, rfl, by rw [noEof_eof h5], rfl⟩ | exact ⟨_, rfl, by rw [noEof_other h5], rfl⟩
  ·
    refine C.skip ?_
    refine C.seq ?_
    refine C.region ?_
    refine E.pure (S.move rfl) rfl ?_
    refine E.pure (S.assign rfl) rfl ?_
    refine E.keep [0, 2, 5] (env1 := [(0, _), (2, _), (5, _)]) rfl ?_
    refine C.ret ?_
    first | exact ⟨_, rfl, by rw [noEof_eof h5], rfl⟩ | exact ⟨_, rfl, by rw [noEof_other h5], rfl⟩
theorem flate_noEOF {K : Known} {L : Frags} {ea : Fin 5 → Addr} (hs : Sents K ea) (e : Er) : Fn Tryd.prog K 76 #[Er.val ea e] [] (fun r L => r = Er.val ea (noEof e) ∧ L = []) := by
  refine Fn.intro (args := [Er.val ea e]) (RR := Ret1 2 _) Tryd.func76 rfl rfl Tryd.ntmps76 (res1 Tryd.results76) ?_
  refine C.reenv (env2 := [(0, Er.val ea e)]) rfl ?_
  refine C.seq ?_
  refine C.region ?_
  refine E.pure (S.assign (v := Er.val ea .none) rfl) rfl ?_
  refine E.keep [0, 2] (env1 := [(0, _), (2, _)]) rfl ?_
  refine C.seq ?_
  refine C.seq ?_
  refine C.region ?_
  refine E.pure (S.move rfl) rfl ?_
  refine E.still (S.loadBase rfl hs.g0 Tryd.isAgg59) rfl ?_
  refine E.still (S.eqEr hs rfl rfl) rfl ?_
  refine E.keep [0, 2, 5] (env1 := [(0, _), (2, _), (5, _)]) rfl ?_
  first | refine C.ifp rfl (fun h5 => ?_) (fun h5 => ?_) | refine C.ifNone rfl (fun h5 => ?_) (fun h5 => ?_) | refine C.ifSome rfl (fun h5 => ?_) (fun h5 => ?_) | refine C.ifSe rfl (fun h5 => ?_) (fun h5 => ?_) | refine C.ifNotSe rfl (fun h5 => ?_) (fun h5 => ?_) | refine C.cond rfl (fun h5 => ?_) (fun h5 => ?_)
  ·
    refine C.seq ?_
    refine C.region ?_
    refine E.still (S.loadBase rfl hs.g3 Tryd.isAgg59) rfl ?_
    refine E.pure (S.assign rfl) rfl ?_
    refine E.keep [0, 2, 5] (env1 := [(0, _), (2, _), (5, _)]) rfl ?_
    refine C.ret ?_
    first | exact ⟨_, rfl, by rw [noEof_eof h5], rfl⟩ | exact ⟨_, rfl, by rw [noEof_other h5], rfl⟩
  ·
    refine C.skip ?_
    refine C.seq ?_
    refine C.region ?_
    refine E.pure (S.move rfl) rfl ?_
    refine E.pure (S.assign rfl) rfl ?_
    refine E.keep [0, 2, 5] (env1 := [(0, _), (2, _), (5, _)]) rfl ?_
    refine C.ret ?_
    first | exact ⟨_, rfl, by rw [noEof_eof h5], rfl⟩ | exact ⟨_, rfl, by rw [noEof_other h5], rfl⟩
theorem le16_known {K : Known} (pb po n cap : Nat) (v0 v1 : UInt8) (l : List UInt8) (hn : 2 ≤ n) (hp : KB K pb po (v0 :: v1 :: l)) : Fn Tryd.prog K 57 #[.slice (some ⟨pb, po, none⟩) (n) (cap)] [] (fun v _ => v = .int .u16 ((le16 v0.toNat v1.toNat : Nat) : Int)) := by
  refine Fn.intro (args := [.slice (some ⟨pb, po, none⟩) (n) (cap)]) (RR := Ret1 2 _) Tryd.func57 rfl rfl Tryd.ntmps57 (res1 Tryd.results57) ?_
  refine C.reenv (env2 := [(0, .slice (some ⟨pb, po, none⟩) (n) (cap))]) rfl ?_
  refine C.seq ?_
  refine C.region ?_
  have g0 : cellAt K pb (po + 0 * 1) = some (u8 v0) := hp.at (j := 0) (by simp only [List.length_cons]; omega)
  have g1 : cellAt K pb (po + 1 * 1) = some (u8 v1) := hp.at (j := 1) (by simp only [List.length_cons]; omega)
  have e0 := v0.toNat_lt
  have e1 := v1.toNat_lt
  refine E.pure (S.assign rfl) rfl ?_
  refine E.keep [0, 2] (env1 := [(0, _), (2, _)]) rfl ?_
  refine C.seq ?_
  refine C.region ?_
  refine E.pure (S.move rfl) rfl ?_
  refine E.pure (S.ixSl (i := 1) rfl rfl (by omega) Tryd.underlying22 Tryd.sizeOf5) rfl ?_
  refine E.still (S.loadBase rfl (by assumption) Tryd.isAgg5) rfl ?_
  refine E.keep [0, 2] (env1 := [(0, _), (2, _)]) rfl ?_
  refine C.seq ?_
  refine C.draw [0, 1, 2, 4, 0, 16, 32, 64, 128, 264, 1023] (.pure 0 496 (.pure 1 497 (.pure 4 15 (.pure 5 31 (.seg [(2, 499), (3, 503), (6, 63), (7, 127), (8, 255), (9, 511), (10, 1023)] .done))))) mixed (by decide +kernel) ?_
  refine D.pure rfl (S.move rfl) rfl ?_
  refine D.pure rfl (S.ixSl (i := 0) rfl rfl (by omega) Tryd.underlying22 Tryd.sizeOf5) rfl ?_
  refine D.pure rfl (S.move rfl) rfl ?_
  refine D.pure rfl (S.ixSl (i := 1) rfl rfl (by omega) Tryd.underlying22 Tryd.sizeOf5) rfl ?_
  refine D.seg (by decide) ?_
  refine W.still rfl (S.loadBase rfl (by assumption) Tryd.isAgg5) rfl ?_
  first | refine W.pure rfl (S.conv rfl Tryd.underlying5 Tryd.underlying120 (N.in_u16 (by omega))) rfl ?_ | refine W.pure rfl (S.conv rfl Tryd.underlying5 Tryd.underlying120 (N.mod_u16 _)) rfl ?_
  refine W.still rfl (S.loadBase rfl (by assumption) Tryd.isAgg5) rfl ?_
  first | refine W.pure rfl (S.conv rfl Tryd.underlying5 Tryd.underlying120 (N.in_u16 (by omega))) rfl ?_ | refine W.pure rfl (S.conv rfl Tryd.underlying5 Tryd.underlying120 (N.mod_u16 _)) rfl ?_
  refine W.pure rfl (S.shl (b := ((8 : Nat) : Int)) rfl rfl (by omega) (N.shl_u16 _ _)) rfl ?_
  refine W.pure rfl (S.or rfl rfl (N.or_u16 (by omega) (by omega))) rfl ?_
  refine W.pure rfl (S.assign rfl) rfl ?_
  refine W.nil ?_
  refine D.keep [0, 2] (env1 := [(0, _), (2, _)]) rfl ?_
  refine C.ret ?_
  exact ⟨_, rfl, rfl⟩
theorem le32_known {K : Known} (pb po n cap : Nat) (v0 v1 v2 v3 : UInt8) (l : List UInt8) (hn : 4 ≤ n) (hp : KB K pb po (v0 :: v1 :: v2 :: v3 :: l)) : Fn Tryd.prog K 47 #[.slice (some ⟨pb, po, none⟩) (n) (cap)] [] (fun v _ => v = u32 (le32 v0.toNat v1.toNat v2.toNat v3.toNat)) := by
  refine Fn.intro (args := [.slice (some ⟨pb, po, none⟩) (n) (cap)]) (RR := Ret1 2 _) Tryd.func47 rfl rfl Tryd.ntmps47 (res1 Tryd.results47) ?_
  refine C.reenv (env2 := [(0, .slice (some ⟨pb, po, none⟩) (n) (cap))]) rfl ?_
  refine C.seq ?_
  refine C.region ?_
  have g0 : cellAt K pb (po + 0 * 1) = some (u8 v0) := hp.at (j := 0) (by simp only [List.length_cons]; omega)
  have g1 : cellAt K pb (po + 1 * 1) = some (u8 v1) := hp.at (j := 1) (by simp only [List.length_cons]; omega)
  have g2 : cellAt K pb (po + 2 * 1) = some (u8 v2) := hp.at (j := 2) (by simp only [List.length_cons]; omega)
  have g3 : cellAt K pb (po + 3 * 1) = some (u8 v3) := hp.at (j := 3) (by simp only [List.length_cons]; omega)
  have e0 := v0.toNat_lt
  have e1 := v1.toNat_lt
  have e2 := v2.toNat_lt
  have e3 := v3.toNat_lt
  have f1 := or_lt (a := v0.toNat) (b := v1.toNat <<< 8 % 4294967296) (k := 32) (by omega) (by omega)
  have f2 := or_lt (b := v2.toNat <<< 16 % 4294967296) (k := 32) f1 (by omega)
  rw [show (2 : Nat) ^ 32 = 4294967296 from rfl] at f1 f2
  refine E.pure (S.assign rfl) rfl ?_
  refine E.keep [0, 2] (env1 := [(0, _), (2, _)]) rfl ?_
  refine C.seq ?_
  refine C.region ?_
  refine E.pure (S.move rfl) rfl ?_
  refine E.pure (S.ixSl (i := 3) rfl rfl (by omega) Tryd.underlying22 Tryd.sizeOf5) rfl ?_
  refine E.still (S.loadBase rfl (by assumption) Tryd.isAgg5) rfl ?_
  refine E.keep [0, 2] (env1 := [(0, _), (2, _)]) rfl ?_
  refine C.seq ?_
  refine C.draw [0, 1, 2, 4, 0, 16, 32, 64, 128, 264, 0, 1024, 2048, 4096, 8192, 16896, 0, 65536, 131072, 262144, 524288, 1081344, 4194303] (.pure 0 2063856 (.pure 1 2063857 (.pure 4 2063375 (.pure 5 2063391 (.pure 10 2032639 (.pure 11 2033663 (.pure 16 65535 (.pure 17 131071 (.seg [(2, 2063859), (3, 2063863), (6, 2063423), (7, 2063487), (8, 2063615), (9, 2063871), (12, 2035711), (13, 2039807), (14, 2047999), (15, 2064383), (18, 262143), (19, 524287), (20, 1048575), (21, 2097151), (22, 4194303)] .done))))))))) mixed (by decide +kernel) ?_
  refine D.pure rfl (S.move rfl) rfl ?_
  refine D.pure rfl (S.ixSl (i := 0) rfl rfl (by omega) Tryd.underlying22 Tryd.sizeOf5) rfl ?_
  refine D.pure rfl (S.move rfl) rfl ?_
  refine D.pure rfl (S.ixSl (i := 1) rfl rfl (by omega) Tryd.underlying22 Tryd.sizeOf5) rfl ?_
  refine D.pure rfl (S.move rfl) rfl ?_
  refine D.pure rfl (S.ixSl (i := 2) rfl rfl (by omega) Tryd.underlying22 Tryd.sizeOf5) rfl ?_
  refine D.pure rfl (S.move rfl) rfl ?_
  refine D.pure rfl (S.ixSl (i := 3) rfl rfl (by omega) Tryd.underlying22 Tryd.sizeOf5) rfl ?_
  refine D.seg (by decide) ?_
  refine W.still rfl (S.loadBase rfl (by assumption) Tryd.isAgg5) rfl ?_
  first | refine W.pure rfl (S.conv rfl Tryd.underlying5 Tryd.underlying52 (N.in_u32 (by omega))) rfl ?_ | refine W.pure rfl (S.conv rfl Tryd.underlying5 Tryd.underlying52 (N.mod_u32 _)) rfl ?_
  refine W.still rfl (S.loadBase rfl (by assumption) Tryd.isAgg5) rfl ?_
  first | refine W.pure rfl (S.conv rfl Tryd.underlying5 Tryd.underlying52 (N.in_u32 (by omega))) rfl ?_ | refine W.pure rfl (S.conv rfl Tryd.underlying5 Tryd.underlying52 (N.mod_u32 _)) rfl ?_
  refine W.pure rfl (S.shl (b := ((8 : Nat) : Int)) rfl rfl (by omega) (N.shl_u32 _ _)) rfl ?_
  refine W.pure rfl (S.or rfl rfl (N.or_u32 (by omega) (by omega))) rfl ?_
  refine W.still rfl (S.loadBase rfl (by assumption) Tryd.isAgg5) rfl ?_
  first | refine W.pure rfl (S.conv rfl Tryd.underlying5 Tryd.underlying52 (N.in_u32 (by omega))) rfl ?_ | refine W.pure rfl (S.conv rfl Tryd.underlying5 Tryd.underlying52 (N.mod_u32 _)) rfl ?_
  refine W.pure rfl (S.shl (b := ((16 : Nat) : Int)) rfl rfl (by omega) (N.shl_u32 _ _)) rfl ?_
  refine W.pure rfl (S.or rfl rfl (N.or_u32 (by omega) (by omega))) rfl ?_
  refine W.still rfl (S.loadBase rfl (by assumption) Tryd.isAgg5) rfl ?_
  first | refine W.pure rfl (S.conv rfl Tryd.underlying5 Tryd.underlying52 (N.in_u32 (by omega))) rfl ?_ | refine W.pure rfl (S.conv rfl Tryd.underlying5 Tryd.underlying52 (N.mod_u32 _)) rfl ?_
  refine W.pure rfl (S.shl (b := ((24 : Nat) : Int)) rfl rfl (by omega) (N.shl_u32 _ _)) rfl ?_
  refine W.pure rfl (S.or rfl rfl (N.or_u32 (by omega) (by omega))) rfl ?_
  refine W.pure rfl (S.assign rfl) rfl ?_
  refine W.nil ?_
  refine D.keep [0, 2] (env1 := [(0, _), (2, _)]) rfl ?_
  refine C.ret ?_
  exact ⟨_, rfl, rfl⟩
theorem le16_spec {K : Known} {L : Frags} (pb po n cap : Nat) (v0 v1 : UInt8) (l : List UInt8) (hn : 2 ≤ n) (hr : Reads K L pb po (bytesV (v0 :: v1 :: l))) :
    Fn Tryd.prog K 57 #[.slice (some ⟨pb, po, none⟩) (n) (cap)] L (fun v L' => v = .int .u16 ((le16 v0.toNat v1.toNat : Nat) : Int) ∧ L' = L) :=
  Fn.stillR fun w hw => le16_known pb po n cap v0 v1 l hn (hr.kb hw)

theorem le32_spec {K : Known} {L : Frags} (pb po n cap : Nat) (v0 v1 v2 v3 : UInt8) (l : List UInt8) (hn : 4 ≤ n) (hr : Reads K L pb po (bytesV (v0 :: v1 :: v2 :: v3 :: l))) :
    Fn Tryd.prog K 47 #[.slice (some ⟨pb, po, none⟩) (n) (cap)] L (fun v L' => v = u32 (le32 v0.toNat v1.toNat v2.toNat v3.toNat) ∧ L' = L) :=
  Fn.stillR fun w hw => le32_known pb po n cap v0 v1 v2 v3 l hn (hr.kb hw)

theorem unixTime_spec {K : Known} (t : Nat) (ht : t ≤ 4611686018427387904) : Fn Tryd.prog K 65 #[.int .i64 ((t : Nat) : Int), .int .i32 0] [] (fun r L => ∃ g, r = .agg #[.int .u64 0, .int .i64 ((t + 62135596800 : Nat) : Int)] ∧ L = [g]) := by
  refine Fn.intro (args := [.int .i64 ((t : Nat) : Int), .int .i32 0]) (RR := RetC 4 2  _) Tryd.func65 rfl rfl Tryd.ntmps65 (resC Tryd.results65 Tryd.isAgg67 Tryd.sizeOf67) ?_
  refine C.reenv (env2 := [(0, .int .i64 ((t : Nat) : Int)), (1, .int .i32 0)]) rfl ?_
  refine C.seq ?_
  refine C.region ?_
  refine E.loud1 (X.alloc Tryd.zeroValue67) rfl ?_; rintro _ _ ⟨b4, rfl, rfl⟩; refine E.relist (L2 := [_]) rfl ?_
  refine E.keep [0, 1, 4] (env1 := [(0, _), (1, _), (4, _)]) rfl ?_
  refine C.seq ?_
  refine C.region ?_
  refine E.pure (S.move rfl) rfl ?_
  refine E.pure (S.conv (r := 0) rfl Tryd.underlying21 Tryd.underlying65 (by decide)) rfl ?_
  refine E.pure (S.move rfl) rfl ?_
  first | refine E.pure (S.add (b := ((62135596800 : Nat) : Int)) rfl rfl (N.add64 (by omega))) rfl ?_ | refine E.pure (S.add (b := ((62135596800 : Nat) : Int)) rfl rfl (N.addZ (by omega))) rfl ?_
  refine E.pure (S.buildV (v := .agg #[.int .u64 0, .int .i64 ((t + 62135596800 : Nat) : Int)]) [(0, .int .u64 0), (1, .int .i64 ((t + 62135596800 : Nat) : Int))] rfl (fun w => by simp [Instr.build, Instr.fill, Value.cells, Tryd.zeroValue67])) rfl ?_
  refine E.loud0 (X.storeA 0 (k := 0) rfl rfl rfl rfl rfl rfl Tryd.sizeOf67 rfl) ?_; rintro _ _ ⟨rfl, rfl⟩; refine E.relist (L2 := [_]) rfl ?_
  refine E.keep [4] (env1 := [(4, _)]) rfl ?_
  refine C.ret ?_
  exact ⟨_, ⟨_, _, 0, rfl, rfl, rfl⟩, _, rfl, rfl⟩
theorem unix_spec {K : Known} (t : Nat) (ht : t ≤ 4611686018427387904) : Fn Tryd.prog K 55 #[.int .i64 ((t : Nat) : Int), .int .i64 0] [] (fun r L => ∃ g1 g2, r = .agg #[.int .u64 0, .int .i64 ((t + 62135596800 : Nat) : Int)] ∧ L = [g1, g2]) := by
  refine Fn.intro (args := [.int .i64 ((t : Nat) : Int), .int .i64 0]) (RR := RetC 4 2  _) Tryd.func55 rfl rfl Tryd.ntmps55 (resC Tryd.results55 Tryd.isAgg67 Tryd.sizeOf67) ?_
  refine C.reenv (env2 := [(0, .int .i64 ((t : Nat) : Int)), (1, .int .i64 0)]) rfl ?_
  refine C.seq ?_
  refine C.region ?_
  refine E.loud1 (X.alloc Tryd.zeroValue67) rfl ?_; rintro _ _ ⟨b4, rfl, rfl⟩; refine E.relist (L2 := [_]) rfl ?_
  refine E.keep [0, 1, 4] (env1 := [(0, _), (1, _), (4, _)]) rfl ?_
  refine C.seq ?_
  refine C.seq ?_
  refine C.region ?_
  refine E.pure (S.move rfl) rfl ?_
  refine E.pure (S.lt (b := ((0 : Nat) : Int)) rfl rfl) rfl ?_
  refine E.reslot (v := .bool false) (congrArg Value.bool (by decide)) ?_
  refine E.pure (S.move rfl) rfl ?_
  refine E.wanted 8 rfl rfl ?_
  refine E.pure (S.move rfl) rfl ?_
  refine E.wanted 8 rfl rfl ?_
  refine E.pure (S.ge (b := ((1000000000 : Nat) : Int)) rfl rfl) rfl ?_
  refine E.reslot (v := .bool false) (congrArg Value.bool (by decide)) ?_
  refine E.pure (S.pickF rfl rfl) rfl ?_
  refine E.keep [0, 1, 4, 11] (env1 := [(0, _), (1, _), (4, _), (11, _)]) rfl ?_
  refine C.no rfl (rfl) ?_
  refine C.skip ?_
  refine C.seq ?_
  refine C.region ?_
  refine E.pure (S.move rfl) rfl ?_
  refine E.pure (S.move rfl) rfl ?_
  refine E.pure (S.conv (r := 0) rfl Tryd.underlying2 Tryd.underlying21 (by decide)) rfl ?_
  refine E.loud1 (OpX.pick [] (F := [_]) rfl (X.call rfl Tryd.call65 (unixTime_spec t ht))) rfl ?_; rintro _ _ ⟨_, ⟨g2, rfl, rfl⟩, rfl⟩; refine E.relist (L2 := [_, _]) rfl ?_
  refine E.loud0 (X.storeA 1 (k := 0) rfl rfl rfl rfl rfl rfl Tryd.sizeOf67 rfl) ?_; rintro _ _ ⟨rfl, rfl⟩; refine E.relist (L2 := [_, _]) rfl ?_
  refine E.keep [0, 1, 4, 11] (env1 := [(0, _), (1, _), (4, _), (11, _)]) rfl ?_
  refine C.ret ?_
  exact ⟨_, ⟨_, _, 1, rfl, rfl, rfl⟩, _, _, rfl, rfl⟩
theorem isZero_spec {K : Known} (s : Nat) : Fn Tryd.prog K 40 #[.agg #[.int .u64 0, .int .i64 (s : Int)]] [] (fun r L => ∃ g, r = .bool (decide (s = 0)) ∧ L = [g]) := by
  refine Fn.intro (args := [.agg #[.int .u64 0, .int .i64 (s : Int)]]) (RR := Ret1 2 _) Tryd.func40 rfl rfl Tryd.ntmps40 (res1 Tryd.results40) ?_
  refine C.reenv (env2 := [(0, .agg #[.int .u64 0, .int .i64 (s : Int)])]) rfl ?_
  refine C.seq ?_
  refine C.region ?_
  refine E.loud1 (X.box rfl) rfl ?_; rintro _ _ ⟨b1, rfl, rfl⟩; refine E.relist (L2 := [_]) rfl ?_
  refine E.pure (S.assign rfl) rfl ?_
  refine E.keep [1, 2] (env1 := [(1, _), (2, _)]) rfl ?_
  refine C.seq ?_
  refine C.region ?_
  refine E.pure (S.field rfl fa67_0) rfl ?_
  refine E.still (S.load 0 (k := 0) rfl rfl rfl Tryd.isAgg65) rfl ?_
  refine E.pure (S.eq (b := ((0 : Nat) : Int)) rfl rfl) rfl ?_
  refine E.reslot (v := .bool true) (congrArg Value.bool (by decide)) ?_
  refine E.pure (S.move rfl) rfl ?_
  refine E.wanted 6 rfl rfl ?_
  refine E.pure (S.field rfl fa67_1) rfl ?_
  refine E.wanted 6 rfl rfl ?_
  refine E.still (S.load 0 (k := 1) rfl rfl rfl Tryd.isAgg2) rfl ?_
  refine E.wanted 6 rfl rfl ?_
  refine E.pure (S.eq (b := ((0 : Nat) : Int)) rfl rfl) rfl ?_
  refine E.pure (S.pickT rfl rfl) rfl ?_
  refine E.pure (S.assign rfl) rfl ?_
  refine E.keep [1, 2] (env1 := [(1, _), (2, _)]) rfl ?_
  refine C.ret ?_
  exact ⟨_, rfl, _, congrArg Value.bool (decide_eq_decide.2 (by constructor <;> intro h <;> omega)), rfl⟩
theorem timeSec_spec {K : Known} (b s : Nat) : Fn Tryd.prog K 61 #[.pointer (some ⟨b, 0, none⟩)] [⟨b, 0, [.int .u64 0, .int .i64 (s : Int)]⟩] (fun r L => r = .int .i64 (s : Int) ∧ L = [⟨b, 0, [.int .u64 0, .int .i64 (s : Int)]⟩]) := by
  refine Fn.intro (args := [.pointer (some ⟨b, 0, none⟩)]) (RR := Ret1 2 _) Tryd.func61 rfl rfl Tryd.ntmps61 (res1 Tryd.results61) ?_
  refine C.reenv (env2 := [(0, .pointer (some ⟨b, 0, none⟩))]) rfl ?_
  refine C.seq ?_
  refine C.region ?_
  refine E.pure (S.assign rfl) rfl ?_
  refine E.keep [0, 2] (env1 := [(0, _), (2, _)]) rfl ?_
  refine C.seq ?_
  refine C.seq ?_
  refine C.region ?_
  refine E.pure (S.move rfl) rfl ?_
  refine E.pure (S.nilPtr rfl) rfl ?_
  refine E.pure (S.field rfl fa67_0) rfl ?_
  refine E.still (S.load 0 (k := 0) rfl rfl rfl Tryd.isAgg65) rfl ?_
  refine E.pure (S.and (r := 0) rfl rfl (by decide)) rfl ?_
  refine E.pure (S.ne (b := ((0 : Nat) : Int)) rfl rfl) rfl ?_
  refine E.reslot (v := .bool false) (congrArg Value.bool (by decide)) ?_
  refine E.keep [0, 2, 8] (env1 := [(0, _), (2, _), (8, _)]) rfl ?_
  refine C.no rfl (rfl) ?_
  refine C.skip ?_
  refine C.seq ?_
  refine C.region ?_
  refine E.pure (S.move rfl) rfl ?_
  refine E.pure (S.nilPtr rfl) rfl ?_
  refine E.pure (S.field rfl fa67_1) rfl ?_
  refine E.still (S.load 0 (k := 1) rfl rfl rfl Tryd.isAgg2) rfl ?_
  refine E.pure (S.assign rfl) rfl ?_
  refine E.keep [0, 2, 8] (env1 := [(0, _), (2, _), (8, _)]) rfl ?_
  refine C.ret ?_
  exact ⟨_, rfl, rfl, rfl⟩
theorem unixSec_spec {K : Known} (b t : Nat) (ht : t ≤ 4611686018427387904) : Fn Tryd.prog K 51 #[.pointer (some ⟨b, 0, none⟩)] [⟨b, 0, [.int .u64 0, .int .i64 ((t + 62135596800 : Nat) : Int)]⟩] (fun r L => r = .int .i64 (t : Int) ∧ L = [⟨b, 0, [.int .u64 0, .int .i64 ((t + 62135596800 : Nat) : Int)]⟩]) := by
  refine Fn.intro (args := [.pointer (some ⟨b, 0, none⟩)]) (RR := Ret1 2 _) Tryd.func51 rfl rfl Tryd.ntmps51 (res1 Tryd.results51) ?_
  refine C.reenv (env2 := [(0, .pointer (some ⟨b, 0, none⟩))]) rfl ?_
  refine C.seq ?_
  refine C.region ?_
  refine E.pure (S.assign rfl) rfl ?_
  refine E.keep [0, 2] (env1 := [(0, _), (2, _)]) rfl ?_
  refine C.seq ?_
  refine C.region ?_
  refine E.pure (S.move rfl) rfl ?_
  refine E.loud1 (OpX.pick [0] (F := []) rfl (X.call rfl Tryd.call61 (timeSec_spec b (t + 62135596800)))) rfl ?_; rintro _ _ ⟨_, ⟨rfl, rfl⟩, rfl⟩; refine E.relist (L2 := [_]) rfl ?_
  refine E.pure (S.add (r := (t : Int)) rfl rfl (by rw [N.addZ (by omega)]; omega)) rfl ?_
  refine E.pure (S.assign rfl) rfl ?_
  refine E.keep [2] (env1 := [(2, _)]) rfl ?_
  refine C.ret ?_
  exact ⟨_, rfl, rfl, rfl⟩
theorem timeUnix_spec {K : Known} (t : Nat) (ht : t ≤ 4611686018427387904) : Fn Tryd.prog K 41 #[.agg #[.int .u64 0, .int .i64 ((t + 62135596800 : Nat) : Int)]] [] (fun r L => ∃ g, r = .int .i64 (t : Int) ∧ L = [g]) := by
  refine Fn.intro (args := [.agg #[.int .u64 0, .int .i64 ((t + 62135596800 : Nat) : Int)]]) (RR := Ret1 2 _) Tryd.func41 rfl rfl Tryd.ntmps41 (res1 Tryd.results41) ?_
  refine C.reenv (env2 := [(0, .agg #[.int .u64 0, .int .i64 ((t + 62135596800 : Nat) : Int)])]) rfl ?_
  refine C.seq ?_
  refine C.region ?_
  refine E.loud1 (X.box rfl) rfl ?_; rintro _ _ ⟨b1, rfl, rfl⟩; refine E.relist (L2 := [_]) rfl ?_
  refine E.pure (S.assign rfl) rfl ?_
  refine E.keep [1, 2] (env1 := [(1, _), (2, _)]) rfl ?_
  refine C.seq ?_
  refine C.region ?_
  refine E.loud1 (OpX.pick [0] (F := []) rfl (X.call rfl Tryd.call51 (unixSec_spec b1 t ht))) rfl ?_; rintro _ _ ⟨_, ⟨rfl, rfl⟩, rfl⟩; refine E.relist (L2 := [_]) rfl ?_
  refine E.pure (S.assign rfl) rfl ?_
  refine E.keep [1, 2] (env1 := [(1, _), (2, _)]) rfl ?_
  refine C.ret ?_
  exact ⟨_, rfl, _, rfl, rfl⟩
end Go.Eng
