/-
  Walk of gzip: readHeader, the first time.
-/
import Derived.Test.YtbjbmpcgiokdaaaDoorHead
set_option linter.unusedVariables false
set_option linter.unusedSimpArgs false
namespace Go.Eng
open Go Go.Proofs
set_option maxRecDepth 100000


/-- How readHeader ends where the decompressor is none yet. -/
def HeadEnd {K : Known} {ea : Fin 5 → Addr} (src : Src K ea) (l : List UInt8) (zb : Nat) (c0 c1 c2 c3 c4 c5 c9 : Value) (r : Value) (L : Frags) : Prop :=
  ∃ hs f1 f2 f3 d2 bs2 hb, hs.length = 6 ∧ hs.all one = true ∧ r = .tuple #[.agg hs.toArray, Er.val ea (readHead l).1] ∧ src.At (readHead l).2.1 f1 f2 f3 ∧ bs2.length = 512 ∧ d2 < 4294967296 ∧
    (((readHead l).1 ≠ .none ∧ ∃ T, L = [f1, f2, f3, ⟨zb, 0, [c0, c1, c2, c3, c4, c5, .iface src.t src.v, .nilIface, .int .u32 ((d2 : Nat) : Int), c9]⟩, ⟨zb, 10, bs2⟩] ++ (⟨hb, 0, hs⟩ :: T)) ∨
     ((readHead l).1 = .none ∧ ∃ xa xn X fb ab cb wb, ExAt (readHead l).2.2.extra xa xn X ∧ hs = headV (readHead l).2.2 xa xn ∧ d2 = 0 ∧
        L = newDec src fb ab cb wb ++ [f1, f2, f3, ⟨zb, 0, [c0, c1, c2, c3, c4, c5, .iface src.t src.v, .iface 157 (.pointer (some ⟨fb, 0, none⟩)), .int .u32 ((d2 : Nat) : Int), c9]⟩, ⟨zb, 10, bs2⟩, ⟨hb, 0, hs⟩, X]))

theorem readHeader_first {K : Known} {ea : Fin 5 → Addr} (hs : Sents K ea) (src : Src K ea) (l : List UInt8) (x1 x2 x3 : Frag) (zb d0 : Nat) (c0 c1 c2 c3 c4 c5 c9 : Value) (bs0 : List Value) (hA : src.At l x1 x2 x3) (hbs0 : bs0.length = 512) (hd0 : d0 < 4294967296) : Fn Tryd.prog K 48 #[.pointer (some ⟨zb, 0, none⟩)] [x1, x2, x3, ⟨zb, 0, [c0, c1, c2, c3, c4, c5, .iface src.t src.v, .nilIface, .int .u32 ((d0 : Nat) : Int), c9]⟩, ⟨zb, 10, bs0⟩] (HeadEnd src l zb c0 c1 c2 c3 c4 c5 c9) := by
  refine Fn.intro (args := [.pointer (some ⟨zb, 0, none⟩)]) (RR := RetC1 2 6 3 _) Tryd.func48 rfl rfl Tryd.ntmps48 (resC1 Tryd.results48 Tryd.isAgg69 Tryd.sizeOf69) ?_
  refine C.reenv (env2 := [(0, .pointer (some ⟨zb, 0, none⟩))]) rfl ?_
  refine C.seq ?_
  refine C.region ?_
  refine E.loud1 (X.alloc Tryd.zeroValue69) rfl ?_; rintro _ _ ⟨b2, rfl, rfl⟩; refine E.relist (L2 := [_, _, _, _, _, _]) rfl ?_
  refine E.pure (S.assign (v := Er.val ea .none) rfl) rfl ?_
  refine E.same (Same.addEmpty (f := ⟨zb, 10, bs0⟩) (by simp) 0) ?_
  refine E.perml [2, 2, 2, 2, 2, 1, 0] (A := [_, _, _, _, _, _, _]) (F := []) rfl ?_
  refine E.relist (L2 := [x1, x2, x3, ⟨zb, 0, [c0, c1, c2, c3, c4, c5, .iface src.t src.v, .nilIface, .int .u32 ((d0 : Nat) : Int), c9]⟩, ⟨zb, 10, bs0⟩, ⟨b2, 0, [.string ⟨#[]⟩, .slice none 0 0, .int .u64 0, .int .i64 (0), .string ⟨#[]⟩, .int .u8 0]⟩, ⟨zb, 0, []⟩]) rfl ?_
  refine E.keep [0, 2, 3] (env1 := [(0, _), (2, _), (3, _)]) rfl ?_
  refine C.seq ?_
  refine C.seq ?_
  refine C.same (Same.splitAt (k := 10) 4 rfl rfl (List.take_append_drop 10 _).symm (by rw [List.length_take]; omega) rfl) ?_
  refine C.relist (L2 := [_, _, _, _, _, _, _, _]) rfl ?_
  refine C.draw [0, 1, 2, 4, 0, 16, 32, 64, 136, 256, 512, 512, 4095] (.pure 0 240 (.pure 1 241 (.pure 2 243 (.pure 4 15 (.pure 5 31 (.pure 6 63 (.pure 7 127 (.seg [(3, 247)] (.alt 8 (.pure 9 511 (.pure 10 3071 (.pure 11 2047 (.pure 12 4095 .done)))) .stop))))))))) mixed (by decide +kernel) ?_
  refine D.pure rfl (S.move rfl) rfl ?_
  refine D.pure rfl (S.nilPtr rfl) rfl ?_
  refine D.pure rfl (S.field rfl fa76_1) rfl ?_
  refine D.pure rfl (S.move rfl) rfl ?_
  refine D.pure rfl (S.nilPtr rfl) rfl ?_
  refine D.pure rfl (S.field rfl fa76_5) rfl ?_
  refine D.pure rfl (S.slArr (l := 0) (k := .i64) (h := 10) rfl rfl rfl (by omega) (by omega) Tryd.underlying74 Tryd.sizeOf5) rfl ?_
  refine D.reslot (v := .slice (some ⟨zb, 10, none⟩) (10) (512)) (slice_to (by simp [part]) rfl rfl) ?_
  refine D.seg (by decide) ?_
  refine W.still rfl (S.load 5 (k := 6) rfl rfl rfl Tryd.isAgg71) rfl ?_
  refine W.nil ?_
  refine D.one ?_
  refine O.loud1 rfl (OpX.pick [2, 2, 2, 0] (F := [_, _, _, _]) rfl (X.call rfl Tryd.call45 (readFull_spec hs src l x1 x2 x3 zb 10 10 512 (List.take 10 _) hA (by rw [List.length_take]; omega) (by omega) (by omega)))) rfl ?_; rintro _ _ ⟨_, ⟨f1, f2, f3, hF, rfl, rfl⟩, rfl⟩; refine D.relist (L2 := [_, _, _, _, _, _, _, _]) rfl ?_
  refine D.pure rfl (S.move rfl) rfl ?_
  refine D.pure rfl (S.extract rfl rfl) rfl ?_
  refine D.pure rfl (S.extract rfl rfl) rfl ?_
  refine D.pure rfl (S.assign rfl) rfl ?_
  refine D.keep [0, 2, 3] (env1 := [(0, _), (2, _), (3, _)]) rfl ?_
  refine C.same (Same.joinAt 3 3 rfl rfl (by rw [show 10 + 10 = 10 + (10 : Nat) from rfl]; congr 1; simp only [List.length_append, bytesV_length, List.length_take, List.length_drop, min_i]; omega)) ?_
  refine C.perml [1, 1, 1, 1, 0, 0, 0] (A := [_, _, _, _, _, _, _]) (F := []) rfl ?_
  refine C.relist (L2 := [_, _, _, _, _, _, _]) rfl ?_
  refine C.seq ?_
  refine C.region ?_
  refine E.pure (S.move rfl) rfl ?_
  refine E.still (S.neErNil rfl) rfl ?_
  refine E.keep [0, 2, 3, 22] (env1 := [(0, _), (2, _), (3, _), (22, _)]) rfl ?_
  first | refine C.ifp rfl (fun h22 => ?_) (fun h22 => ?_) | refine C.ifNone rfl (fun h22 => ?_) (fun h22 => ?_) | refine C.ifSome rfl (fun h22 => ?_) (fun h22 => ?_) | refine C.ifSe rfl (fun h22 => ?_) (fun h22 => ?_) | refine C.ifNotSe rfl (fun h22 => ?_) (fun h22 => ?_) | refine C.cond rfl (fun h22 => ?_) (fun h22 => ?_)
  ·
    refine C.seq ?_
    refine C.region ?_
    refine E.still (S.loadA 5 (k := 0) rfl rfl rfl rfl Tryd.isAgg69 Tryd.sizeOf69) rfl ?_
    refine E.pure (S.move rfl) rfl ?_
    refine E.loud0 (X.storeA 5 (k := 0) rfl rfl rfl rfl rfl rfl Tryd.sizeOf69 rfl) ?_; rintro _ _ ⟨rfl, rfl⟩; refine E.relist (L2 := [_, _, _, _, _, _, _]) rfl ?_
    refine E.pure (S.assign rfl) rfl ?_
    refine E.keep [0, 2, 3, 22] (env1 := [(0, _), (2, _), (3, _), (22, _)]) rfl ?_
    refine C.ret ?_
    have hRR := readHead_bad h22
    refine ⟨_, _, ⟨_, _, 5, rfl, rfl, rfl⟩, rfl, _, _, _, _, _, _, _, rfl, rfl, ?_, ?_, ?_, ?_, .inl ⟨?_, _, rfl⟩⟩
    · first | (rw [hRR]; done) | (rw [hRR]; rfl)
    · rw [hRR]; exact hF
    · rw [buf_join (by omega)]; exact hbs0
    · assumption
    · rw [hRR]; first | assumption | (exact noEof_ne (by assumption)) | simp
  ·
    rw [h22]
    obtain ⟨v0, v1, v2, v3, v4, v5, v6, v7, v8, v9, r, hl⟩ := ten h22
    have hv0 := v0.toNat_lt
    have hv1 := v1.toNat_lt
    have hv2 := v2.toNat_lt
    have hv3 := v3.toNat_lt
    have hv4 := v4.toNat_lt
    have hv5 := v5.toNat_lt
    have hv6 := v6.toNat_lt
    have hv7 := v7.toNat_lt
    have hv8 := v8.toNat_lt
    have hv9 := v9.toNat_lt
    have hle := le32_lt hv4 hv5 hv6 hv7
    refine C.relist (L2 := [f1, f2, f3, ⟨zb, 0, [c0, c1, c2, c3, c4, c5, .iface src.t src.v, .nilIface, .int .u32 ((d0 : Nat) : Int), c9]⟩, ⟨zb, 10, u8 v0 :: u8 v1 :: u8 v2 :: u8 v3 :: u8 v4 :: u8 v5 :: u8 v6 :: u8 v7 :: u8 v8 :: u8 v9 :: bs0.drop 10⟩, ⟨b2, 0, [.string ⟨#[]⟩, .slice none 0 0, .int .u64 0, .int .i64 (0), .string ⟨#[]⟩, .int .u8 0]⟩, ⟨zb, 0, []⟩]) (by rw [buf_full (full_len h22), hl]; rfl) ?_
    rw [show l.drop 10 = r by rw [hl]; rfl] at hF
    refine C.skip ?_
    refine C.seq ?_
    refine C.seq ?_
    refine C.region ?_
    refine E.pure (S.move rfl) rfl ?_
    refine E.pure (S.nilPtr rfl) rfl ?_
    refine E.pure (S.field rfl fa76_5) rfl ?_
    refine E.pure (S.ixArr (i := 0) rfl rfl (by omega) Tryd.underlying74 Tryd.sizeOf5) rfl ?_
    refine E.still (S.load 4 (k := 0) rfl rfl rfl Tryd.isAgg5) rfl ?_
    refine E.pure (S.ne (b := ((31 : Nat) : Int)) rfl rfl) rfl ?_
    refine E.pure (S.move rfl) rfl ?_
    first | refine E.fork (fun g31 => ?_) (fun g31 => ?_) | refine E.forkB (fun g31 => ?_) (fun g31 => ?_)
    ·
      refine E.guardNo 31 true rfl rfl rfl rfl ?_
      refine E.guardNo 31 true rfl rfl rfl rfl ?_
      refine E.guardNo 31 true rfl rfl rfl rfl ?_
      refine E.guardNo 31 true rfl rfl rfl rfl ?_
      refine E.guardNo 31 true rfl rfl rfl rfl ?_
      refine E.guardNo 31 true rfl rfl rfl rfl ?_
      refine E.pure (S.pickT rfl rfl) rfl ?_
      refine E.pure (S.move rfl) rfl ?_
      refine E.guardNo 39 true rfl rfl rfl rfl ?_
      refine E.guardNo 39 true rfl rfl rfl rfl ?_
      refine E.guardNo 39 true rfl rfl rfl rfl ?_
      refine E.guardNo 39 true rfl rfl rfl rfl ?_
      refine E.guardNo 39 true rfl rfl rfl rfl ?_
      refine E.guardNo 39 true rfl rfl rfl rfl ?_
      refine E.pure (S.pickT rfl rfl) rfl ?_
      refine E.keep [0, 2, 3, 22, 46] (env1 := [(0, _), (2, _), (3, _), (22, _), (46, _)]) rfl ?_
      refine C.yes rfl (rfl) ?_
      refine C.seq ?_
      refine C.draw [0, 0, 1, 7] (.alt 0 (.alt 1 (.alt 2 (.pure 3 7 .done) .stop) (.alt 2 (.seg [(1, 5), (3, 7)] .done) .stop)) (.alt 1 (.seg [(0, 2)] (.alt 2 (.pure 3 7 .done) .stop)) .stop)) mixed (by decide +kernel) ?_
      refine D.alt ?_ ⟨?_, trivial⟩
      ·
        refine O.still rfl (S.loadA 5 (k := 0) rfl rfl rfl rfl Tryd.isAgg69 Tryd.sizeOf69) rfl ?_
        refine D.alt ?_ ⟨?_, trivial⟩
        ·
          refine O.still rfl (S.loadBase rfl hs.g1 Tryd.isAgg59) rfl ?_
          refine D.one ?_
          refine O.loud0 rfl (X.storeA 5 (k := 0) rfl rfl rfl rfl rfl rfl Tryd.sizeOf69 rfl) ?_; rintro _ _ ⟨rfl, rfl⟩; refine D.relist (L2 := [_, _, _, _, _, _, _]) rfl ?_
          refine D.pure rfl (S.assign rfl) rfl ?_
          refine D.keep [0, 2, 3, 22, 46] (env1 := [(0, _), (2, _), (3, _), (22, _), (46, _)]) rfl ?_
          refine C.ret ?_
          have hRR : readHead l = (.header, r, noHd) := by rw [hl, readHead_cons, if_neg (by omega)]
          refine ⟨_, _, ⟨_, _, 5, rfl, rfl, rfl⟩, rfl, _, _, _, _, _, _, _, rfl, rfl, ?_, ?_, ?_, ?_, .inl ⟨?_, _, rfl⟩⟩
          · first | (rw [hRR]; done) | (rw [hRR]; rfl)
          · rw [hRR]; exact hF
          · simp only [List.length_cons, List.length_drop]; omega
          · assumption
          · rw [hRR]; first | assumption | (exact noEof_ne (by assumption)) | simp
        ·
          refine O.loud0 rfl (X.storeA 5 (k := 0) rfl rfl rfl rfl rfl rfl Tryd.sizeOf69 rfl) ?_; rintro _ _ ⟨rfl, rfl⟩; refine D.relist (L2 := [_, _, _, _, _, _, _]) rfl ?_
          refine D.seg (by decide) ?_
          refine W.still rfl (S.loadBase rfl hs.g1 Tryd.isAgg59) rfl ?_
          refine W.pure rfl (S.assign rfl) rfl ?_
          refine W.nil ?_
          refine D.keep [0, 2, 3, 22, 46] (env1 := [(0, _), (2, _), (3, _), (22, _), (46, _)]) rfl ?_
          refine C.ret ?_
          have hRR : readHead l = (.header, r, noHd) := by rw [hl, readHead_cons, if_neg (by omega)]
          refine ⟨_, _, ⟨_, _, 5, rfl, rfl, rfl⟩, rfl, _, _, _, _, _, _, _, rfl, rfl, ?_, ?_, ?_, ?_, .inl ⟨?_, _, rfl⟩⟩
          · first | (rw [hRR]; done) | (rw [hRR]; rfl)
          · rw [hRR]; exact hF
          · simp only [List.length_cons, List.length_drop]; omega
          · assumption
          · rw [hRR]; first | assumption | (exact noEof_ne (by assumption)) | simp
      ·
        refine O.still rfl (S.loadBase rfl hs.g1 Tryd.isAgg59) rfl ?_
        refine D.seg (by decide) ?_
        refine W.still rfl (S.loadA 5 (k := 0) rfl rfl rfl rfl Tryd.isAgg69 Tryd.sizeOf69) rfl ?_
        refine W.nil ?_
        refine D.one ?_
        refine O.loud0 rfl (X.storeA 5 (k := 0) rfl rfl rfl rfl rfl rfl Tryd.sizeOf69 rfl) ?_; rintro _ _ ⟨rfl, rfl⟩; refine D.relist (L2 := [_, _, _, _, _, _, _]) rfl ?_
        refine D.pure rfl (S.assign rfl) rfl ?_
        refine D.keep [0, 2, 3, 22, 46] (env1 := [(0, _), (2, _), (3, _), (22, _), (46, _)]) rfl ?_
        refine C.ret ?_
        have hRR : readHead l = (.header, r, noHd) := by rw [hl, readHead_cons, if_neg (by omega)]
        refine ⟨_, _, ⟨_, _, 5, rfl, rfl, rfl⟩, rfl, _, _, _, _, _, _, _, rfl, rfl, ?_, ?_, ?_, ?_, .inl ⟨?_, _, rfl⟩⟩
        · first | (rw [hRR]; done) | (rw [hRR]; rfl)
        · rw [hRR]; exact hF
        · simp only [List.length_cons, List.length_drop]; omega
        · assumption
        · rw [hRR]; first | assumption | (exact noEof_ne (by assumption)) | simp
    ·
      refine E.wanted 31 rfl rfl ?_
      refine E.pure (S.move rfl) rfl ?_
      refine E.wanted 31 rfl rfl ?_
      refine E.pure (S.nilPtr rfl) rfl ?_
      refine E.wanted 31 rfl rfl ?_
      refine E.pure (S.field rfl fa76_5) rfl ?_
      refine E.wanted 31 rfl rfl ?_
      refine E.pure (S.ixArr (i := 1) rfl rfl (by omega) Tryd.underlying74 Tryd.sizeOf5) rfl ?_
      refine E.wanted 31 rfl rfl ?_
      refine E.still (S.load 4 (k := 1) rfl rfl rfl Tryd.isAgg5) rfl ?_
      refine E.wanted 31 rfl rfl ?_
      refine E.pure (S.ne (b := ((139 : Nat) : Int)) rfl rfl) rfl ?_
      refine E.pure (S.pickF rfl rfl) rfl ?_
      refine E.pure (S.move rfl) rfl ?_
      first | refine E.fork (fun g39 => ?_) (fun g39 => ?_) | refine E.forkB (fun g39 => ?_) (fun g39 => ?_)
      ·
        refine E.guardNo 39 true rfl rfl rfl rfl ?_
        refine E.guardNo 39 true rfl rfl rfl rfl ?_
        refine E.guardNo 39 true rfl rfl rfl rfl ?_
        refine E.guardNo 39 true rfl rfl rfl rfl ?_
        refine E.guardNo 39 true rfl rfl rfl rfl ?_
        refine E.guardNo 39 true rfl rfl rfl rfl ?_
        refine E.pure (S.pickT rfl rfl) rfl ?_
        refine E.keep [0, 2, 3, 22, 46] (env1 := [(0, _), (2, _), (3, _), (22, _), (46, _)]) rfl ?_
        refine C.yes rfl (rfl) ?_
        refine C.seq ?_
        refine C.draw [0, 0, 1, 7] (.alt 0 (.alt 1 (.alt 2 (.pure 3 7 .done) .stop) (.alt 2 (.seg [(1, 5), (3, 7)] .done) .stop)) (.alt 1 (.seg [(0, 2)] (.alt 2 (.pure 3 7 .done) .stop)) .stop)) mixed (by decide +kernel) ?_
        refine D.alt ?_ ⟨?_, trivial⟩
        ·
          refine O.still rfl (S.loadA 5 (k := 0) rfl rfl rfl rfl Tryd.isAgg69 Tryd.sizeOf69) rfl ?_
          refine D.alt ?_ ⟨?_, trivial⟩
          ·
            refine O.still rfl (S.loadBase rfl hs.g1 Tryd.isAgg59) rfl ?_
            refine D.one ?_
            refine O.loud0 rfl (X.storeA 5 (k := 0) rfl rfl rfl rfl rfl rfl Tryd.sizeOf69 rfl) ?_; rintro _ _ ⟨rfl, rfl⟩; refine D.relist (L2 := [_, _, _, _, _, _, _]) rfl ?_
            refine D.pure rfl (S.assign rfl) rfl ?_
            refine D.keep [0, 2, 3, 22, 46] (env1 := [(0, _), (2, _), (3, _), (22, _), (46, _)]) rfl ?_
            refine C.ret ?_
            have hRR : readHead l = (.header, r, noHd) := by rw [hl, readHead_cons, if_neg (by omega)]
            refine ⟨_, _, ⟨_, _, 5, rfl, rfl, rfl⟩, rfl, _, _, _, _, _, _, _, rfl, rfl, ?_, ?_, ?_, ?_, .inl ⟨?_, _, rfl⟩⟩
            · first | (rw [hRR]; done) | (rw [hRR]; rfl)
            · rw [hRR]; exact hF
            · simp only [List.length_cons, List.length_drop]; omega
            · assumption
            · rw [hRR]; first | assumption | (exact noEof_ne (by assumption)) | simp
          ·
            refine O.loud0 rfl (X.storeA 5 (k := 0) rfl rfl rfl rfl rfl rfl Tryd.sizeOf69 rfl) ?_; rintro _ _ ⟨rfl, rfl⟩; refine D.relist (L2 := [_, _, _, _, _, _, _]) rfl ?_
            refine D.seg (by decide) ?_
            refine W.still rfl (S.loadBase rfl hs.g1 Tryd.isAgg59) rfl ?_
            refine W.pure rfl (S.assign rfl) rfl ?_
            refine W.nil ?_
            refine D.keep [0, 2, 3, 22, 46] (env1 := [(0, _), (2, _), (3, _), (22, _), (46, _)]) rfl ?_
            refine C.ret ?_
            have hRR : readHead l = (.header, r, noHd) := by rw [hl, readHead_cons, if_neg (by omega)]
            refine ⟨_, _, ⟨_, _, 5, rfl, rfl, rfl⟩, rfl, _, _, _, _, _, _, _, rfl, rfl, ?_, ?_, ?_, ?_, .inl ⟨?_, _, rfl⟩⟩
            · first | (rw [hRR]; done) | (rw [hRR]; rfl)
            · rw [hRR]; exact hF
            · simp only [List.length_cons, List.length_drop]; omega
            · assumption
            · rw [hRR]; first | assumption | (exact noEof_ne (by assumption)) | simp
        ·
          refine O.still rfl (S.loadBase rfl hs.g1 Tryd.isAgg59) rfl ?_
          refine D.seg (by decide) ?_
          refine W.still rfl (S.loadA 5 (k := 0) rfl rfl rfl rfl Tryd.isAgg69 Tryd.sizeOf69) rfl ?_
          refine W.nil ?_
          refine D.one ?_
          refine O.loud0 rfl (X.storeA 5 (k := 0) rfl rfl rfl rfl rfl rfl Tryd.sizeOf69 rfl) ?_; rintro _ _ ⟨rfl, rfl⟩; refine D.relist (L2 := [_, _, _, _, _, _, _]) rfl ?_
          refine D.pure rfl (S.assign rfl) rfl ?_
          refine D.keep [0, 2, 3, 22, 46] (env1 := [(0, _), (2, _), (3, _), (22, _), (46, _)]) rfl ?_
          refine C.ret ?_
          have hRR : readHead l = (.header, r, noHd) := by rw [hl, readHead_cons, if_neg (by omega)]
          refine ⟨_, _, ⟨_, _, 5, rfl, rfl, rfl⟩, rfl, _, _, _, _, _, _, _, rfl, rfl, ?_, ?_, ?_, ?_, .inl ⟨?_, _, rfl⟩⟩
          · first | (rw [hRR]; done) | (rw [hRR]; rfl)
          · rw [hRR]; exact hF
          · simp only [List.length_cons, List.length_drop]; omega
          · assumption
          · rw [hRR]; first | assumption | (exact noEof_ne (by assumption)) | simp
      ·
        refine E.wanted 39 rfl rfl ?_
        refine E.pure (S.move rfl) rfl ?_
        refine E.wanted 39 rfl rfl ?_
        refine E.pure (S.nilPtr rfl) rfl ?_
        refine E.wanted 39 rfl rfl ?_
        refine E.pure (S.field rfl fa76_5) rfl ?_
        refine E.wanted 39 rfl rfl ?_
        refine E.pure (S.ixArr (i := 2) rfl rfl (by omega) Tryd.underlying74 Tryd.sizeOf5) rfl ?_
        refine E.wanted 39 rfl rfl ?_
        refine E.still (S.load 4 (k := 2) rfl rfl rfl Tryd.isAgg5) rfl ?_
        refine E.wanted 39 rfl rfl ?_
        refine E.pure (S.ne (b := ((8 : Nat) : Int)) rfl rfl) rfl ?_
        refine E.pure (S.pickF rfl rfl) rfl ?_
        refine E.keep [0, 2, 3, 22, 46] (env1 := [(0, _), (2, _), (3, _), (22, _), (46, _)]) rfl ?_
        first | refine C.ifp rfl (fun h46 => ?_) (fun h46 => ?_) | refine C.ifNone rfl (fun h46 => ?_) (fun h46 => ?_) | refine C.ifSome rfl (fun h46 => ?_) (fun h46 => ?_) | refine C.ifSe rfl (fun h46 => ?_) (fun h46 => ?_) | refine C.ifNotSe rfl (fun h46 => ?_) (fun h46 => ?_) | refine C.cond rfl (fun h46 => ?_) (fun h46 => ?_)
        ·
          refine C.seq ?_
          refine C.draw [0, 0, 1, 7] (.alt 0 (.alt 1 (.alt 2 (.pure 3 7 .done) .stop) (.alt 2 (.seg [(1, 5), (3, 7)] .done) .stop)) (.alt 1 (.seg [(0, 2)] (.alt 2 (.pure 3 7 .done) .stop)) .stop)) mixed (by decide +kernel) ?_
          refine D.alt ?_ ⟨?_, trivial⟩
          ·
            refine O.still rfl (S.loadA 5 (k := 0) rfl rfl rfl rfl Tryd.isAgg69 Tryd.sizeOf69) rfl ?_
            refine D.alt ?_ ⟨?_, trivial⟩
            ·
              refine O.still rfl (S.loadBase rfl hs.g1 Tryd.isAgg59) rfl ?_
              refine D.one ?_
              refine O.loud0 rfl (X.storeA 5 (k := 0) rfl rfl rfl rfl rfl rfl Tryd.sizeOf69 rfl) ?_; rintro _ _ ⟨rfl, rfl⟩; refine D.relist (L2 := [_, _, _, _, _, _, _]) rfl ?_
              refine D.pure rfl (S.assign rfl) rfl ?_
              refine D.keep [0, 2, 3, 22, 46] (env1 := [(0, _), (2, _), (3, _), (22, _), (46, _)]) rfl ?_
              refine C.ret ?_
              have hRR : readHead l = (.header, r, noHd) := by rw [hl, readHead_cons, if_neg (by omega)]
              refine ⟨_, _, ⟨_, _, 5, rfl, rfl, rfl⟩, rfl, _, _, _, _, _, _, _, rfl, rfl, ?_, ?_, ?_, ?_, .inl ⟨?_, _, rfl⟩⟩
              · first | (rw [hRR]; done) | (rw [hRR]; rfl)
              · rw [hRR]; exact hF
              · simp only [List.length_cons, List.length_drop]; omega
              · assumption
              · rw [hRR]; first | assumption | (exact noEof_ne (by assumption)) | simp
            ·
              refine O.loud0 rfl (X.storeA 5 (k := 0) rfl rfl rfl rfl rfl rfl Tryd.sizeOf69 rfl) ?_; rintro _ _ ⟨rfl, rfl⟩; refine D.relist (L2 := [_, _, _, _, _, _, _]) rfl ?_
              refine D.seg (by decide) ?_
              refine W.still rfl (S.loadBase rfl hs.g1 Tryd.isAgg59) rfl ?_
              refine W.pure rfl (S.assign rfl) rfl ?_
              refine W.nil ?_
              refine D.keep [0, 2, 3, 22, 46] (env1 := [(0, _), (2, _), (3, _), (22, _), (46, _)]) rfl ?_
              refine C.ret ?_
              have hRR : readHead l = (.header, r, noHd) := by rw [hl, readHead_cons, if_neg (by omega)]
              refine ⟨_, _, ⟨_, _, 5, rfl, rfl, rfl⟩, rfl, _, _, _, _, _, _, _, rfl, rfl, ?_, ?_, ?_, ?_, .inl ⟨?_, _, rfl⟩⟩
              · first | (rw [hRR]; done) | (rw [hRR]; rfl)
              · rw [hRR]; exact hF
              · simp only [List.length_cons, List.length_drop]; omega
              · assumption
              · rw [hRR]; first | assumption | (exact noEof_ne (by assumption)) | simp
          ·
            refine O.still rfl (S.loadBase rfl hs.g1 Tryd.isAgg59) rfl ?_
            refine D.seg (by decide) ?_
            refine W.still rfl (S.loadA 5 (k := 0) rfl rfl rfl rfl Tryd.isAgg69 Tryd.sizeOf69) rfl ?_
            refine W.nil ?_
            refine D.one ?_
            refine O.loud0 rfl (X.storeA 5 (k := 0) rfl rfl rfl rfl rfl rfl Tryd.sizeOf69 rfl) ?_; rintro _ _ ⟨rfl, rfl⟩; refine D.relist (L2 := [_, _, _, _, _, _, _]) rfl ?_
            refine D.pure rfl (S.assign rfl) rfl ?_
            refine D.keep [0, 2, 3, 22, 46] (env1 := [(0, _), (2, _), (3, _), (22, _), (46, _)]) rfl ?_
            refine C.ret ?_
            have hRR : readHead l = (.header, r, noHd) := by rw [hl, readHead_cons, if_neg (by omega)]
            refine ⟨_, _, ⟨_, _, 5, rfl, rfl, rfl⟩, rfl, _, _, _, _, _, _, _, rfl, rfl, ?_, ?_, ?_, ?_, .inl ⟨?_, _, rfl⟩⟩
            · first | (rw [hRR]; done) | (rw [hRR]; rfl)
            · rw [hRR]; exact hF
            · simp only [List.length_cons, List.length_drop]; omega
            · assumption
            · rw [hRR]; first | assumption | (exact noEof_ne (by assumption)) | simp
        ·
          refine C.skip ?_
          refine C.seq ?_
          refine C.region ?_
          refine E.pure (S.move rfl) rfl ?_
          refine E.pure (S.nilPtr rfl) rfl ?_
          refine E.pure (S.field rfl fa76_5) rfl ?_
          refine E.pure (S.ixArr (i := 3) rfl rfl (by omega) Tryd.underlying74 Tryd.sizeOf5) rfl ?_
          refine E.still (S.load 4 (k := 3) rfl rfl rfl Tryd.isAgg5) rfl ?_
          refine E.pure (S.assign rfl) rfl ?_
          refine E.keep [0, 2, 3, 4, 22, 46] (env1 := [(0, _), (2, _), (3, _), (4, _), (22, _), (46, _)]) rfl ?_
          refine C.cut (M := fun ee ll => keeps ee [0, 2, 3, 4] = some [(0, .pointer (some ⟨zb, 0, none⟩)), (2, .pointer (some ⟨b2, 0, none⟩)), (3, Er.val ea .none), (4, .int .u8 ((v3.toNat : Nat) : Int))] ∧ ll = [f1, f2, f3, ⟨zb, 0, [c0, c1, c2, c3, c4, c5, .iface src.t src.v, .nilIface, .int .u32 ((d0 : Nat) : Int), c9]⟩, ⟨zb, 10, u8 v0 :: u8 v1 :: u8 v2 :: u8 v3 :: u8 v4 :: u8 v5 :: u8 v6 :: u8 v7 :: u8 v8 :: u8 v9 :: bs0.drop 10⟩, ⟨b2, 0, [.string ⟨#[]⟩, .slice none 0 0, .int .u64 0, .int .i64 (timeV (le32 v4.toNat v5.toNat v6.toNat v7.toNat)), .string ⟨#[]⟩, .int .u8 0]⟩, ⟨zb, 0, []⟩]) ?_ ?_
          ·
            refine C.seq ?_
            refine C.region ?_
            refine E.pure (S.move rfl) rfl ?_
            refine E.pure (S.nilPtr rfl) rfl ?_
            refine E.pure (S.field rfl fa76_5) rfl ?_
            refine E.pure (S.slArr (l := 4) (h := 8) rfl rfl rfl (by omega) (by omega) Tryd.underlying74 Tryd.sizeOf5) rfl ?_
            refine E.reslot (v := .slice (some ⟨zb, 14, none⟩) (4) (508)) (slice_to (by simp [part]) rfl rfl) ?_
            refine E.loud1 (X.call rfl Tryd.call47 (le32_spec zb 14 4 508 v4 v5 v6 v7 [] (by omega) (Reads.frag (i := 4) (k := 4) rfl rfl))) rfl ?_; rintro _ _ ⟨rfl, rfl⟩; refine E.relist (L2 := [_, _, _, _, _, _, _]) rfl ?_
            refine E.pure (S.conv rfl Tryd.underlying52 Tryd.underlying2 (N.i64n (by omega))) rfl ?_
            refine E.pure (S.assign rfl) rfl ?_
            refine E.keep [0, 2, 3, 4, 5, 22, 46] (env1 := [(0, _), (2, _), (3, _), (4, _), (5, _), (22, _), (46, _)]) rfl ?_
            refine C.seq ?_
            refine C.region ?_
            refine E.pure (S.move rfl) rfl ?_
            refine E.pure (S.gt (b := ((0 : Nat) : Int)) rfl rfl) rfl ?_
            refine E.keep [0, 2, 3, 4, 5, 22, 46, 61] (env1 := [(0, _), (2, _), (3, _), (4, _), (5, _), (22, _), (46, _), (61, _)]) rfl ?_
            first | refine C.ifp rfl (fun h61 => ?_) (fun h61 => ?_) | refine C.ifNone rfl (fun h61 => ?_) (fun h61 => ?_) | refine C.ifSome rfl (fun h61 => ?_) (fun h61 => ?_) | refine C.ifSe rfl (fun h61 => ?_) (fun h61 => ?_) | refine C.ifNotSe rfl (fun h61 => ?_) (fun h61 => ?_) | refine C.cond rfl (fun h61 => ?_) (fun h61 => ?_)
            ·
              refine C.region ?_
              refine E.pure (S.move rfl) rfl ?_
              refine E.loud1 (OpX.pick [] (F := [_, _, _, _, _, _, _]) rfl (X.call rfl Tryd.call55 (unix_spec (le32 v4.toNat v5.toNat v6.toNat v7.toNat) (by omega)))) rfl ?_; rintro _ _ ⟨_, ⟨q1, q2, rfl, rfl⟩, rfl⟩; refine E.relist (L2 := [_, _, _, _, _, _, _, _, _]) rfl ?_
              refine E.forget [2, 2, 2, 2, 2, 2, 2] (A := [_, _, _, _, _, _, _]) rfl ?_
              refine E.pure (S.field rfl fa69_2) rfl ?_
              refine E.loud0 (X.storeA 5 (k := 2) rfl rfl rfl rfl rfl rfl Tryd.sizeOf67 rfl) ?_; rintro _ _ ⟨rfl, rfl⟩; refine E.relist (L2 := [_, _, _, _, _, _, _]) rfl ?_
              refine E.keep [0, 2, 3, 4, 5, 22, 46, 61] (env1 := [(0, _), (2, _), (3, _), (4, _), (5, _), (22, _), (46, _), (61, _)]) rfl ?_
              first | exact ⟨rfl, congrArg (fun x : Int => [f1, f2, f3, ⟨zb, 0, [c0, c1, c2, c3, c4, c5, .iface src.t src.v, .nilIface, .int .u32 ((d0 : Nat) : Int), c9]⟩, ⟨zb, 10, u8 v0 :: u8 v1 :: u8 v2 :: u8 v3 :: u8 v4 :: u8 v5 :: u8 v6 :: u8 v7 :: u8 v8 :: u8 v9 :: bs0.drop 10⟩, (⟨b2, 0, [.string ⟨#[]⟩, .slice none 0 0, .int .u64 0, .int .i64 (x), .string ⟨#[]⟩, .int .u8 0]⟩ : Frag), ⟨zb, 0, []⟩]) (timeV_pos h61)⟩ | exact ⟨rfl, congrArg (fun x : Int => [f1, f2, f3, ⟨zb, 0, [c0, c1, c2, c3, c4, c5, .iface src.t src.v, .nilIface, .int .u32 ((d0 : Nat) : Int), c9]⟩, ⟨zb, 10, u8 v0 :: u8 v1 :: u8 v2 :: u8 v3 :: u8 v4 :: u8 v5 :: u8 v6 :: u8 v7 :: u8 v8 :: u8 v9 :: bs0.drop 10⟩, (⟨b2, 0, [.string ⟨#[]⟩, .slice none 0 0, .int .u64 0, .int .i64 (x), .string ⟨#[]⟩, .int .u8 0]⟩ : Frag), ⟨zb, 0, []⟩]) (timeV_zero h61)⟩
            ·
              refine C.skip ?_
              first | exact ⟨rfl, congrArg (fun x : Int => [f1, f2, f3, ⟨zb, 0, [c0, c1, c2, c3, c4, c5, .iface src.t src.v, .nilIface, .int .u32 ((d0 : Nat) : Int), c9]⟩, ⟨zb, 10, u8 v0 :: u8 v1 :: u8 v2 :: u8 v3 :: u8 v4 :: u8 v5 :: u8 v6 :: u8 v7 :: u8 v8 :: u8 v9 :: bs0.drop 10⟩, (⟨b2, 0, [.string ⟨#[]⟩, .slice none 0 0, .int .u64 0, .int .i64 (x), .string ⟨#[]⟩, .int .u8 0]⟩ : Frag), ⟨zb, 0, []⟩]) (timeV_pos h61)⟩ | exact ⟨rfl, congrArg (fun x : Int => [f1, f2, f3, ⟨zb, 0, [c0, c1, c2, c3, c4, c5, .iface src.t src.v, .nilIface, .int .u32 ((d0 : Nat) : Int), c9]⟩, ⟨zb, 10, u8 v0 :: u8 v1 :: u8 v2 :: u8 v3 :: u8 v4 :: u8 v5 :: u8 v6 :: u8 v7 :: u8 v8 :: u8 v9 :: bs0.drop 10⟩, (⟨b2, 0, [.string ⟨#[]⟩, .slice none 0 0, .int .u64 0, .int .i64 (x), .string ⟨#[]⟩, .int .u8 0]⟩ : Frag), ⟨zb, 0, []⟩]) (timeV_zero h61)⟩
          ·
            rintro _ _ ⟨hq10, rfl⟩
            refine C.weaken _ hq10 ?_
            refine C.seq ?_
            refine C.region ?_
            refine E.pure (S.move rfl) rfl ?_
            refine E.pure (S.nilPtr rfl) rfl ?_
            refine E.pure (S.field rfl fa76_5) rfl ?_
            refine E.pure (S.ixArr (i := 9) rfl rfl (by omega) Tryd.underlying74 Tryd.sizeOf5) rfl ?_
            refine E.still (S.load 4 (k := 9) rfl rfl rfl Tryd.isAgg5) rfl ?_
            refine E.pure (S.field rfl fa69_4) rfl ?_
            refine E.loud0 (X.store 5 (k := 5) rfl rfl rfl rfl rfl Tryd.sizeOf5) ?_; rintro _ _ ⟨rfl, rfl⟩; refine E.relist (L2 := [_, _, _, _, _, _, _]) rfl ?_
            refine E.keep [0, 2, 3, 4] (env1 := [(0, _), (2, _), (3, _), (4, _)]) rfl ?_
            refine C.cut (M := fun ee ll => ∃ (l2 : List UInt8), ∃ (d : Nat), ∃ (h : Hd), ∃ (bs : List Value), ∃ (hb : Nat), ∃ (xa : Option Addr), ∃ (xn : Nat), ∃ (xf : Frag), ∃ (f1 : Frag), ∃ (f2 : Frag), ∃ (f3 : Frag), keeps ee [0, 2, 3, 4] = some [(0, .pointer (some ⟨zb, 0, none⟩)), (2, .pointer (some ⟨hb, 0, none⟩)), (3, Er.val ea .none), (4, .int .u8 ((v3.toNat : Nat) : Int))] ∧ ll = [f1, f2, f3, ⟨zb, 0, [c0, c1, c2, c3, c4, c5, .iface src.t src.v, .nilIface, .int .u32 ((d : Nat) : Int), c9]⟩, ⟨zb, 10, bs⟩, ⟨hb, 0, [.string h.comment, .slice xa xn xn, .int .u64 0, .int .i64 (timeV h.mod), .string h.name, .int .u8 ((h.os : Nat) : Int)]⟩, xf] ∧ (readHead l = rd1 l2 v3.toNat d h) ∧ (src.At l2 f1 f2 f3) ∧ (bs.length = 512) ∧ (d < 4294967296) ∧ (ExAt h.extra xa xn xf)) ?_ ?_
            ·
              refine C.region ?_
              refine E.pure (S.move rfl) rfl ?_
              refine E.pure (S.move rfl) rfl ?_
              refine E.pure (S.nilPtr rfl) rfl ?_
              refine E.pure (S.field rfl fa76_5) rfl ?_
              refine E.pure (S.slArr (l := 0) (k := .i64) (h := 10) rfl rfl rfl (by omega) (by omega) Tryd.underlying74 Tryd.sizeOf5) rfl ?_
              refine E.reslot (v := .slice (some ⟨zb, 10, none⟩) (10) (512)) (slice_to (by simp [part]) rfl rfl) ?_
              refine E.loud1 (X.call rfl Tryd.call56 (ChecksumIEEE_spec zb 10 512 [v0, v1, v2, v3, v4, v5, v6, v7, v8, v9] (Reads.frag (i := 4) (k := 0) rfl rfl) (by simp) (by simp))) rfl ?_; rintro _ _ ⟨rfl, rfl⟩; refine E.relist (L2 := [_, _, _, _, _, _, _]) rfl ?_
              refine E.pure (S.nilPtr rfl) rfl ?_
              refine E.pure (S.field rfl fa76_3) rfl ?_
              refine E.loud0 (X.store 3 (k := 8) rfl rfl rfl rfl rfl Tryd.sizeOf52) ?_; rintro _ _ ⟨rfl, rfl⟩; refine E.relist (L2 := [_, _, _, _, _, _, _]) rfl ?_
              refine E.keep [0, 2, 3, 4] (env1 := [(0, _), (2, _), (3, _), (4, _)]) rfl ?_
              exact ⟨r, crcOn IEEE 0 [v0, v1, v2, v3, v4, v5, v6, v7, v8, v9], { noHd with mod := le32 v4.toNat v5.toNat v6.toNat v7.toNat, os := v9.toNat }, _, b2, none, 0, ⟨zb, 0, []⟩, f1, f2, f3, rfl, rfl, by rw [hl, readHead_cons, if_pos (by omega)], hF, by simp only [List.length_cons, List.length_drop]; omega, crcOn_lt (by decide) (by decide) _, ⟨rfl, rfl, rfl⟩⟩
            ·
              rintro _ _ ⟨l2, d, h, bs, hb, xa, xn, xf, f1, f2, f3, hq12, rfl, hR, hG, hbs, hd, hX⟩
              refine C.weaken _ hq12 ?_
              refine C.cut (M := fun ee ll => ∃ (l2 : List UInt8), ∃ (d : Nat), ∃ (h : Hd), ∃ (bs : List Value), ∃ (hb : Nat), ∃ (xa : Option Addr), ∃ (xn : Nat), ∃ (xf : Frag), ∃ (f1 : Frag), ∃ (f2 : Frag), ∃ (f3 : Frag), keeps ee [0, 2, 3, 4] = some [(0, .pointer (some ⟨zb, 0, none⟩)), (2, .pointer (some ⟨hb, 0, none⟩)), (3, Er.val ea .none), (4, .int .u8 ((v3.toNat : Nat) : Int))] ∧ ll = [f1, f2, f3, ⟨zb, 0, [c0, c1, c2, c3, c4, c5, .iface src.t src.v, .nilIface, .int .u32 ((d : Nat) : Int), c9]⟩, ⟨zb, 10, bs⟩, ⟨hb, 0, [.string h.comment, .slice xa xn xn, .int .u64 0, .int .i64 (timeV h.mod), .string h.name, .int .u8 ((h.os : Nat) : Int)]⟩, xf] ∧ (readHead l = rd2 l2 v3.toNat d h) ∧ (src.At l2 f1 f2 f3) ∧ (bs.length = 512) ∧ (d < 4294967296) ∧ (ExAt h.extra xa xn xf)) ?_ ?_
              ·
                refine C.seq ?_
                refine C.region ?_
                refine E.pure (S.move rfl) rfl ?_
                refine E.pure (S.and (b := ((4 : Nat) : Int)) rfl rfl (N.and_u8 (by omega) (by omega))) rfl ?_
                refine E.pure (S.ne (b := ((0 : Nat) : Int)) rfl rfl) rfl ?_
                refine E.keep [0, 2, 3, 4, 81] (env1 := [(0, _), (2, _), (3, _), (4, _), (81, _)]) rfl ?_
                first | refine C.ifp rfl (fun h81 => ?_) (fun h81 => ?_) | refine C.ifNone rfl (fun h81 => ?_) (fun h81 => ?_) | refine C.ifSome rfl (fun h81 => ?_) (fun h81 => ?_) | refine C.ifSe rfl (fun h81 => ?_) (fun h81 => ?_) | refine C.ifNotSe rfl (fun h81 => ?_) (fun h81 => ?_) | refine C.cond rfl (fun h81 => ?_) (fun h81 => ?_)
                ·
                  refine C.seq ?_
                  refine C.seq ?_
                  refine C.same (Same.splitAt (k := 2) 4 rfl rfl (List.take_append_drop 2 _).symm (by rw [List.length_take]; omega) rfl) ?_
                  refine C.relist (L2 := [_, _, _, _, _, _, _, _]) rfl ?_
                  refine C.draw [0, 1, 2, 4, 0, 16, 32, 64, 136, 256, 512, 512, 4095] (.pure 0 240 (.pure 1 241 (.pure 2 243 (.pure 4 15 (.pure 5 31 (.pure 6 63 (.pure 7 127 (.seg [(3, 247)] (.alt 8 (.pure 9 511 (.pure 10 3071 (.pure 11 2047 (.pure 12 4095 .done)))) .stop))))))))) mixed (by decide +kernel) ?_
                  refine D.pure rfl (S.move rfl) rfl ?_
                  refine D.pure rfl (S.nilPtr rfl) rfl ?_
                  refine D.pure rfl (S.field rfl fa76_1) rfl ?_
                  refine D.pure rfl (S.move rfl) rfl ?_
                  refine D.pure rfl (S.nilPtr rfl) rfl ?_
                  refine D.pure rfl (S.field rfl fa76_5) rfl ?_
                  refine D.pure rfl (S.slArr (l := 0) (k := .i64) (h := 2) rfl rfl rfl (by omega) (by omega) Tryd.underlying74 Tryd.sizeOf5) rfl ?_
                  refine D.reslot (v := .slice (some ⟨zb, 10, none⟩) (2) (512)) (slice_to (by simp [part]) rfl rfl) ?_
                  refine D.seg (by decide) ?_
                  refine W.still rfl (S.load 5 (k := 6) rfl rfl rfl Tryd.isAgg71) rfl ?_
                  refine W.nil ?_
                  refine D.one ?_
                  refine O.loud1 rfl (OpX.pick [2, 2, 2, 0] (F := [_, _, _, _]) rfl (X.call rfl Tryd.call45 (readFull_spec hs src l2 f1 f2 f3 zb 10 2 512 (List.take 2 _) hG (by rw [List.length_take]; omega) (by omega) (by omega)))) rfl ?_; rintro _ _ ⟨_, ⟨k1, k2, k3, hF, rfl, rfl⟩, rfl⟩; refine D.relist (L2 := [_, _, _, _, _, _, _, _]) rfl ?_
                  refine D.pure rfl (S.move rfl) rfl ?_
                  refine D.pure rfl (S.extract rfl rfl) rfl ?_
                  refine D.pure rfl (S.extract rfl rfl) rfl ?_
                  refine D.pure rfl (S.assign rfl) rfl ?_
                  refine D.keep [0, 2, 3, 4, 81] (env1 := [(0, _), (2, _), (3, _), (4, _), (81, _)]) rfl ?_
                  refine C.same (Same.joinAt 3 3 rfl rfl (by rw [show 10 + 2 = 10 + (2 : Nat) from rfl]; congr 1; simp only [List.length_append, bytesV_length, List.length_take, List.length_drop, min_i]; omega)) ?_
                  refine C.perml [1, 1, 1, 1, 0, 0, 0] (A := [_, _, _, _, _, _, _]) (F := []) rfl ?_
                  refine C.relist (L2 := [_, _, _, _, _, _, _]) rfl ?_
                  refine C.seq ?_
                  refine C.region ?_
                  refine E.pure (S.move rfl) rfl ?_
                  refine E.still (S.neErNil rfl) rfl ?_
                  refine E.keep [0, 2, 3, 4, 81, 95] (env1 := [(0, _), (2, _), (3, _), (4, _), (81, _), (95, _)]) rfl ?_
                  first | refine C.ifp rfl (fun h95 => ?_) (fun h95 => ?_) | refine C.ifNone rfl (fun h95 => ?_) (fun h95 => ?_) | refine C.ifSome rfl (fun h95 => ?_) (fun h95 => ?_) | refine C.ifSe rfl (fun h95 => ?_) (fun h95 => ?_) | refine C.ifNotSe rfl (fun h95 => ?_) (fun h95 => ?_) | refine C.cond rfl (fun h95 => ?_) (fun h95 => ?_)
                  ·
                    refine C.seq ?_
                    refine C.draw [0, 0, 2, 5, 15] (.pure 1 1 (.alt 0 (.alt 2 (.alt 3 (.pure 4 15 .done) .stop) .stop) (.alt 2 (.seg [(0, 6)] (.alt 3 (.pure 4 15 .done) .stop)) .stop))) mixed (by decide +kernel) ?_
                    refine D.pure rfl (S.move rfl) rfl ?_
                    refine D.alt ?_ ⟨?_, trivial⟩
                    ·
                      refine O.still rfl (S.loadA 5 (k := 0) rfl rfl rfl rfl Tryd.isAgg69 Tryd.sizeOf69) rfl ?_
                      refine D.one ?_
                      refine O.loud1 rfl (OpX.pick [] (F := [_, _, _, _, _, _, _]) rfl (X.call rfl Tryd.call46 (gogzip_noEOF (L := []) hs _))) rfl ?_; rintro _ _ ⟨_, ⟨rfl, rfl⟩, rfl⟩; refine D.relist (L2 := [_, _, _, _, _, _, _]) rfl ?_
                      refine D.one ?_
                      refine O.loud0 rfl (X.storeA 5 (k := 0) rfl rfl rfl rfl rfl rfl Tryd.sizeOf69 rfl) ?_; rintro _ _ ⟨rfl, rfl⟩; refine D.relist (L2 := [_, _, _, _, _, _, _]) rfl ?_
                      refine D.pure rfl (S.assign rfl) rfl ?_
                      refine D.keep [0, 2, 3, 4, 81, 95] (env1 := [(0, _), (2, _), (3, _), (4, _), (81, _), (95, _)]) rfl ?_
                      refine C.ret ?_
                      have hRR : readHead l = (noEof (fullErr l2 2), l2.drop 2, h) := by rw [hR, rd1, if_neg (by omega), if_pos h95]
                      refine ⟨_, _, ⟨_, _, 5, rfl, rfl, rfl⟩, rfl, _, _, _, _, _, _, _, rfl, rfl, ?_, ?_, ?_, ?_, .inl ⟨?_, _, rfl⟩⟩
                      · first | (rw [hRR]; done) | (rw [hRR]; rfl)
                      · rw [hRR]; exact hF
                      · rw [buf_join (by omega)]; exact hbs
                      · assumption
                      · rw [hRR]; first | assumption | (exact noEof_ne (by assumption)) | simp
                    ·
                      refine O.loud1 rfl (OpX.pick [] (F := [_, _, _, _, _, _, _]) rfl (X.call rfl Tryd.call46 (gogzip_noEOF (L := []) hs _))) rfl ?_; rintro _ _ ⟨_, ⟨rfl, rfl⟩, rfl⟩; refine D.relist (L2 := [_, _, _, _, _, _, _]) rfl ?_
                      refine D.seg (by decide) ?_
                      refine W.still rfl (S.loadA 5 (k := 0) rfl rfl rfl rfl Tryd.isAgg69 Tryd.sizeOf69) rfl ?_
                      refine W.nil ?_
                      refine D.one ?_
                      refine O.loud0 rfl (X.storeA 5 (k := 0) rfl rfl rfl rfl rfl rfl Tryd.sizeOf69 rfl) ?_; rintro _ _ ⟨rfl, rfl⟩; refine D.relist (L2 := [_, _, _, _, _, _, _]) rfl ?_
                      refine D.pure rfl (S.assign rfl) rfl ?_
                      refine D.keep [0, 2, 3, 4, 81, 95] (env1 := [(0, _), (2, _), (3, _), (4, _), (81, _), (95, _)]) rfl ?_
                      refine C.ret ?_
                      have hRR : readHead l = (noEof (fullErr l2 2), l2.drop 2, h) := by rw [hR, rd1, if_neg (by omega), if_pos h95]
                      refine ⟨_, _, ⟨_, _, 5, rfl, rfl, rfl⟩, rfl, _, _, _, _, _, _, _, rfl, rfl, ?_, ?_, ?_, ?_, .inl ⟨?_, _, rfl⟩⟩
                      · first | (rw [hRR]; done) | (rw [hRR]; rfl)
                      · rw [hRR]; exact hF
                      · rw [buf_join (by omega)]; exact hbs
                      · assumption
                      · rw [hRR]; first | assumption | (exact noEof_ne (by assumption)) | simp
                  ·
                    rw [h95]
                    obtain ⟨w0, w1, r2, hl2⟩ := two h95
                    have hw0 := w0.toNat_lt
                    have hw1 := w1.toNat_lt
                    have h16 := le16_lt hw0 hw1
                    have e1 : l2.drop 2 = r2 := by rw [hl2]; rfl
                    have e2 : le16of l2 = le16 w0.toNat w1.toNat := by rw [hl2]; rfl
                    refine C.relist (L2 := [k1, k2, k3, ⟨zb, 0, [c0, c1, c2, c3, c4, c5, .iface src.t src.v, .nilIface, .int .u32 ((d : Nat) : Int), c9]⟩, ⟨zb, 10, u8 w0 :: u8 w1 :: bs.drop 2⟩, ⟨hb, 0, [.string h.comment, .slice xa xn xn, .int .u64 0, .int .i64 (timeV h.mod), .string h.name, .int .u8 ((h.os : Nat) : Int)]⟩, xf]) (by rw [buf_full (full_len h95), hl2]; rfl) ?_
                    rw [e1] at hF
                    refine C.skip ?_
                    refine C.seq ?_
                    refine C.draw [0, 0, 2, 4, 8, 0, 32, 64, 128, 272, 1023, 2047, 3071] (.pure 0 1022 (.pure 1 481 (.pure 2 483 (.pure 3 487 (.pure 5 31 (.pure 6 63 (.pure 7 127 (.pure 8 255 (.seg [(4, 495)] (.alt 9 (.pure 10 1023 (.pure 11 2047 (.alt 12 .done .stop))) .stop)))))))))) mixed (by decide +kernel) ?_
                    refine D.pure rfl (S.move rfl) rfl ?_
                    refine D.pure rfl (S.move rfl) rfl ?_
                    refine D.pure rfl (S.nilPtr rfl) rfl ?_
                    refine D.pure rfl (S.field rfl fa76_3) rfl ?_
                    refine D.pure rfl (S.move rfl) rfl ?_
                    refine D.pure rfl (S.nilPtr rfl) rfl ?_
                    refine D.pure rfl (S.field rfl fa76_5) rfl ?_
                    refine D.pure rfl (S.slArr (l := 0) (k := .i64) (h := 2) rfl rfl rfl (by omega) (by omega) Tryd.underlying74 Tryd.sizeOf5) rfl ?_
                    refine D.reslot (v := .slice (some ⟨zb, 10, none⟩) (2) (512)) (slice_to (by simp [part]) rfl rfl) ?_
                    refine D.seg (by decide) ?_
                    refine W.still rfl (S.load 3 (k := 8) rfl rfl rfl Tryd.isAgg52) rfl ?_
                    refine W.nil ?_
                    refine D.one ?_
                    refine O.loud1 rfl (X.call rfl Tryd.call44 (UpdateIEEE_spec d zb 10 512 [w0, w1] hd (Reads.frag (i := 4) (k := 0) rfl rfl) (by simp) (by simp))) rfl ?_; rintro _ _ ⟨rfl, rfl⟩; refine D.relist (L2 := [_, _, _, _, _, _, _]) rfl ?_
                    refine D.pure rfl (S.nilPtr rfl) rfl ?_
                    refine D.pure rfl (S.field rfl fa76_3) rfl ?_
                    refine D.one ?_
                    refine O.loud0 rfl (X.store 3 (k := 8) rfl rfl rfl rfl rfl Tryd.sizeOf52) ?_; rintro _ _ ⟨rfl, rfl⟩; refine D.relist (L2 := [_, _, _, _, _, _, _]) rfl ?_
                    refine D.keep [0, 2, 3, 4, 81, 95] (env1 := [(0, _), (2, _), (3, _), (4, _), (81, _), (95, _)]) rfl ?_
                    refine C.seq ?_
                    refine C.region ?_
                    refine E.pure (S.move rfl) rfl ?_
                    refine E.pure (S.nilPtr rfl) rfl ?_
                    refine E.pure (S.field rfl fa76_5) rfl ?_
                    refine E.pure (S.slArr (l := 0) (k := .i64) (h := 2) rfl rfl rfl (by omega) (by omega) Tryd.underlying74 Tryd.sizeOf5) rfl ?_
                    refine E.reslot (v := .slice (some ⟨zb, 10, none⟩) (2) (512)) (slice_to (by simp [part]) rfl rfl) ?_
                    refine E.loud1 (X.call rfl Tryd.call57 (le16_spec zb 10 2 512 w0 w1 [] (by omega) (Reads.frag (i := 4) (k := 0) rfl rfl))) rfl ?_; rintro _ _ ⟨rfl, rfl⟩; refine E.relist (L2 := [_, _, _, _, _, _, _]) rfl ?_
                    refine E.loud1 (X.make (l := le16 w0.toNat w1.toNat) (c := le16 w0.toNat w1.toNat) (bytes := 1) Tryd.underlying22 infoB (z := .int .u8 0) rfl rfl rfl rfl rfl rfl (Nat.le_refl _) (by omega) (by omega)) rfl ?_; rintro _ _ ⟨eb, rfl, rfl⟩; refine E.relist (L2 := [_, _, _, _, _, _, _, _]) rfl ?_
                    refine E.forget [1, 1, 1, 1, 1, 1, 0] (A := [_, _, _, _, _, _, _]) rfl ?_
                    refine E.pure (S.assign rfl) rfl ?_
                    refine E.keep [0, 2, 3, 4, 6, 81, 95] (env1 := [(0, _), (2, _), (3, _), (4, _), (6, _), (81, _), (95, _)]) rfl ?_
                    refine C.seq ?_
                    refine C.seq ?_
                    refine C.region ?_
                    refine E.pure (S.move rfl) rfl ?_
                    refine E.pure (S.nilPtr rfl) rfl ?_
                    refine E.pure (S.field rfl fa76_1) rfl ?_
                    refine E.still (S.load 3 (k := 6) rfl rfl rfl Tryd.isAgg71) rfl ?_
                    refine E.pure (S.move rfl) rfl ?_
                    refine E.loud1 (OpX.pick [0, 0, 0, 3] (F := [_, _, _]) rfl (X.call rfl Tryd.call45 (readFull_spec hs src r2 k1 k2 k3 eb 0 (le16 w0.toNat w1.toNat) (le16 w0.toNat w1.toNat) (List.replicate (le16 w0.toNat w1.toNat) (.int .u8 0)) hF (by rw [List.length_replicate]) (Nat.le_refl _) (by omega)))) rfl ?_; rintro _ _ ⟨_, ⟨j1, j2, j3, hJ, rfl, rfl⟩, rfl⟩; refine E.relist (L2 := [_, _, _, _, _, _, _]) rfl ?_
                    refine E.perml [0, 0, 0, 1, 1, 1, 0] (A := [_, _, _, _, _, _, _]) (F := []) rfl ?_
                    refine E.relist (L2 := [_, _, _, _, _, _, _]) rfl ?_
                    refine E.pure (S.move rfl) rfl ?_
                    refine E.pure (S.extract rfl rfl) rfl ?_
                    refine E.pure (S.extract rfl rfl) rfl ?_
                    refine E.pure (S.assign rfl) rfl ?_
                    refine E.keep [0, 2, 3, 4, 6, 81, 95] (env1 := [(0, _), (2, _), (3, _), (4, _), (6, _), (81, _), (95, _)]) rfl ?_
                    refine C.seq ?_
                    refine C.region ?_
                    refine E.pure (S.move rfl) rfl ?_
                    refine E.still (S.neErNil rfl) rfl ?_
                    refine E.keep [0, 2, 3, 4, 6, 81, 95, 127] (env1 := [(0, _), (2, _), (3, _), (4, _), (6, _), (81, _), (95, _), (127, _)]) rfl ?_
                    first | refine C.ifp rfl (fun h127 => ?_) (fun h127 => ?_) | refine C.ifNone rfl (fun h127 => ?_) (fun h127 => ?_) | refine C.ifSome rfl (fun h127 => ?_) (fun h127 => ?_) | refine C.ifSe rfl (fun h127 => ?_) (fun h127 => ?_) | refine C.ifNotSe rfl (fun h127 => ?_) (fun h127 => ?_) | refine C.cond rfl (fun h127 => ?_) (fun h127 => ?_)
                    ·
                      refine C.seq ?_
                      refine C.draw [0, 0, 2, 5, 15] (.pure 1 1 (.alt 0 (.alt 2 (.alt 3 (.pure 4 15 .done) .stop) .stop) (.alt 2 (.seg [(0, 6)] (.alt 3 (.pure 4 15 .done) .stop)) .stop))) mixed (by decide +kernel) ?_
                      refine D.pure rfl (S.move rfl) rfl ?_
                      refine D.alt ?_ ⟨?_, trivial⟩
                      ·
                        refine O.still rfl (S.loadA 5 (k := 0) rfl rfl rfl rfl Tryd.isAgg69 Tryd.sizeOf69) rfl ?_
                        refine D.one ?_
                        refine O.loud1 rfl (OpX.pick [] (F := [_, _, _, _, _, _, _]) rfl (X.call rfl Tryd.call46 (gogzip_noEOF (L := []) hs _))) rfl ?_; rintro _ _ ⟨_, ⟨rfl, rfl⟩, rfl⟩; refine D.relist (L2 := [_, _, _, _, _, _, _]) rfl ?_
                        refine D.one ?_
                        refine O.loud0 rfl (X.storeA 5 (k := 0) rfl rfl rfl rfl rfl rfl Tryd.sizeOf69 rfl) ?_; rintro _ _ ⟨rfl, rfl⟩; refine D.relist (L2 := [_, _, _, _, _, _, _]) rfl ?_
                        refine D.pure rfl (S.assign rfl) rfl ?_
                        refine D.keep [0, 2, 3, 4, 6, 81, 95, 127] (env1 := [(0, _), (2, _), (3, _), (4, _), (6, _), (81, _), (95, _), (127, _)]) rfl ?_
                        refine C.ret ?_
                        have hRR : readHead l = (noEof (fullErr r2 (le16 w0.toNat w1.toNat)), r2.drop (le16 w0.toNat w1.toNat), h) := by rw [hR, rd1, if_neg (by omega), if_neg (by simpa using h95), e1, e2, if_pos h127]
                        refine ⟨_, _, ⟨_, _, 5, rfl, rfl, rfl⟩, rfl, _, _, _, _, _, _, _, rfl, rfl, ?_, ?_, ?_, ?_, .inl ⟨?_, _, rfl⟩⟩
                        · first | (rw [hRR]; done) | (rw [hRR]; rfl)
                        · rw [hRR]; exact hJ
                        · simp only [List.length_cons, List.length_drop]; omega
                        · exact crcOn_lt (by decide) hd _
                        · rw [hRR]; first | assumption | (exact noEof_ne (by assumption)) | simp
                      ·
                        refine O.loud1 rfl (OpX.pick [] (F := [_, _, _, _, _, _, _]) rfl (X.call rfl Tryd.call46 (gogzip_noEOF (L := []) hs _))) rfl ?_; rintro _ _ ⟨_, ⟨rfl, rfl⟩, rfl⟩; refine D.relist (L2 := [_, _, _, _, _, _, _]) rfl ?_
                        refine D.seg (by decide) ?_
                        refine W.still rfl (S.loadA 5 (k := 0) rfl rfl rfl rfl Tryd.isAgg69 Tryd.sizeOf69) rfl ?_
                        refine W.nil ?_
                        refine D.one ?_
                        refine O.loud0 rfl (X.storeA 5 (k := 0) rfl rfl rfl rfl rfl rfl Tryd.sizeOf69 rfl) ?_; rintro _ _ ⟨rfl, rfl⟩; refine D.relist (L2 := [_, _, _, _, _, _, _]) rfl ?_
                        refine D.pure rfl (S.assign rfl) rfl ?_
                        refine D.keep [0, 2, 3, 4, 6, 81, 95, 127] (env1 := [(0, _), (2, _), (3, _), (4, _), (6, _), (81, _), (95, _), (127, _)]) rfl ?_
                        refine C.ret ?_
                        have hRR : readHead l = (noEof (fullErr r2 (le16 w0.toNat w1.toNat)), r2.drop (le16 w0.toNat w1.toNat), h) := by rw [hR, rd1, if_neg (by omega), if_neg (by simpa using h95), e1, e2, if_pos h127]
                        refine ⟨_, _, ⟨_, _, 5, rfl, rfl, rfl⟩, rfl, _, _, _, _, _, _, _, rfl, rfl, ?_, ?_, ?_, ?_, .inl ⟨?_, _, rfl⟩⟩
                        · first | (rw [hRR]; done) | (rw [hRR]; rfl)
                        · rw [hRR]; exact hJ
                        · simp only [List.length_cons, List.length_drop]; omega
                        · exact crcOn_lt (by decide) hd _
                        · rw [hRR]; first | assumption | (exact noEof_ne (by assumption)) | simp
                    ·
                      rw [h127]
                      have hn := full_len h127
                      refine C.relist (L2 := [j1, j2, j3, ⟨zb, 0, [c0, c1, c2, c3, c4, c5, .iface src.t src.v, .nilIface, .int .u32 ((crcOn IEEE d [w0, w1] : Nat) : Int), c9]⟩, ⟨zb, 10, u8 w0 :: u8 w1 :: bs.drop 2⟩, ⟨hb, 0, [.string h.comment, .slice xa xn xn, .int .u64 0, .int .i64 (timeV h.mod), .string h.name, .int .u8 ((h.os : Nat) : Int)]⟩, ⟨eb, 0, bytesV (r2.take (le16 w0.toNat w1.toNat))⟩]) (by rw [full_all hn List.length_replicate]; rfl) ?_
                      refine C.skip ?_
                      refine C.seq ?_
                      refine C.region ?_
                      refine E.pure (S.move rfl) rfl ?_
                      refine E.pure (S.move rfl) rfl ?_
                      refine E.pure (S.nilPtr rfl) rfl ?_
                      refine E.pure (S.field rfl fa76_3) rfl ?_
                      refine E.still (S.load 3 (k := 8) rfl rfl rfl Tryd.isAgg52) rfl ?_
                      refine E.pure (S.move rfl) rfl ?_
                      refine E.reslot (v := .slice (some ⟨eb, 0, none⟩) ((r2.take (le16 w0.toNat w1.toNat)).length) (le16 w0.toNat w1.toNat)) (slice_to rfl (by rw [List.length_take]; omega) rfl) ?_
                      refine E.loud1 (X.call rfl Tryd.call44 (UpdateIEEE_spec (crcOn IEEE d [w0, w1]) eb 0 (le16 w0.toNat w1.toNat) (r2.take (le16 w0.toNat w1.toNat)) (crcOn_lt (by decide) hd _) (Reads.frag (i := 6) (k := 0) rfl part_all) (by rw [List.length_take]; omega) (by rw [List.length_take]; omega))) rfl ?_; rintro _ _ ⟨rfl, rfl⟩; refine E.relist (L2 := [_, _, _, _, _, _, _]) rfl ?_
                      refine E.pure (S.nilPtr rfl) rfl ?_
                      refine E.pure (S.field rfl fa76_3) rfl ?_
                      refine E.loud0 (X.store 3 (k := 8) rfl rfl rfl rfl rfl Tryd.sizeOf52) ?_; rintro _ _ ⟨rfl, rfl⟩; refine E.relist (L2 := [_, _, _, _, _, _, _]) rfl ?_
                      refine E.keep [0, 2, 3, 4, 6, 81, 95, 127] (env1 := [(0, _), (2, _), (3, _), (4, _), (6, _), (81, _), (95, _), (127, _)]) rfl ?_
                      refine C.region ?_
                      refine E.pure (S.move rfl) rfl ?_
                      refine E.pure (S.field rfl fa69_1) rfl ?_
                      refine E.loud0 (X.store 5 (k := 1) rfl rfl rfl rfl rfl Tryd.sizeOf22) ?_; rintro _ _ ⟨rfl, rfl⟩; refine E.relist (L2 := [_, _, _, _, _, _, _]) rfl ?_
                      refine E.keep [0, 2, 3, 4, 6, 81, 95, 127] (env1 := [(0, _), (2, _), (3, _), (4, _), (6, _), (81, _), (95, _), (127, _)]) rfl ?_
                      first | exact ⟨r2.drop (le16 w0.toNat w1.toNat), crcOn IEEE (crcOn IEEE d [w0, w1]) (r2.take (le16 w0.toNat w1.toNat)), { h with extra := some (r2.take (le16 w0.toNat w1.toNat)) }, _, hb, some ⟨eb, 0, none⟩, le16 w0.toNat w1.toNat, _, j1, j2, j3, rfl, rfl, by rw [hR, rd1, if_neg (by omega), if_neg (by simpa using h95), e1, e2, if_neg (by simpa using h127), hl2]; rfl, hJ, by simp only [List.length_cons, List.length_drop]; omega, crcOn_lt (by decide) (crcOn_lt (by decide) hd _) _, ⟨eb, rfl, by rw [List.length_take, Nat.min_eq_left hn], rfl, by rw [List.length_take]; omega⟩⟩ | exact ⟨l2, d, h, bs, hb, xa, xn, xf, f1, f2, f3, rfl, rfl, by rw [hR, rd1, if_pos (by omega)], hG, hbs, hd, hX⟩
                ·
                  refine C.skip ?_
                  first | exact ⟨r2.drop (le16 w0.toNat w1.toNat), crcOn IEEE (crcOn IEEE d [w0, w1]) (r2.take (le16 w0.toNat w1.toNat)), { h with extra := some (r2.take (le16 w0.toNat w1.toNat)) }, _, hb, some ⟨eb, 0, none⟩, le16 w0.toNat w1.toNat, _, j1, j2, j3, rfl, rfl, by rw [hR, rd1, if_neg (by omega), if_neg (by simpa using h95), e1, e2, if_neg (by simpa using h127), hl2]; rfl, hJ, by simp only [List.length_cons, List.length_drop]; omega, crcOn_lt (by decide) (crcOn_lt (by decide) hd _) _, ⟨eb, rfl, by rw [List.length_take, Nat.min_eq_left hn], rfl, by rw [List.length_take]; omega⟩⟩ | exact ⟨l2, d, h, bs, hb, xa, xn, xf, f1, f2, f3, rfl, rfl, by rw [hR, rd1, if_pos (by omega)], hG, hbs, hd, hX⟩
              ·
                rintro _ _ ⟨l2, d, h, bs, hb, xa, xn, xf, f1, f2, f3, hq23, rfl, hR, hG, hbs, hd, hX⟩
                refine C.weaken _ hq23 ?_
                refine C.seq ?_
                refine C.region ?_
                refine E.pure (S.assign rfl) rfl ?_
                refine E.keep [0, 2, 3, 4, 7] (env1 := [(0, _), (2, _), (3, _), (4, _), (7, _)]) rfl ?_
                refine C.cut (M := fun ee ll => ∃ (l2 : List UInt8), ∃ (d : Nat), ∃ (h : Hd), ∃ (bs : List Value), ∃ (hb : Nat), ∃ (xa : Option Addr), ∃ (xn : Nat), ∃ (xf : Frag), ∃ (f1 : Frag), ∃ (f2 : Frag), ∃ (f3 : Frag), keeps ee [0, 2, 3, 4] = some [(0, .pointer (some ⟨zb, 0, none⟩)), (2, .pointer (some ⟨hb, 0, none⟩)), (3, Er.val ea .none), (4, .int .u8 ((v3.toNat : Nat) : Int))] ∧ ll = [f1, f2, f3, ⟨zb, 0, [c0, c1, c2, c3, c4, c5, .iface src.t src.v, .nilIface, .int .u32 ((d : Nat) : Int), c9]⟩, ⟨zb, 10, bs⟩, ⟨hb, 0, [.string h.comment, .slice xa xn xn, .int .u64 0, .int .i64 (timeV h.mod), .string h.name, .int .u8 ((h.os : Nat) : Int)]⟩, xf] ∧ (readHead l = rd3 l2 v3.toNat d h) ∧ (src.At l2 f1 f2 f3) ∧ (bs.length = 512) ∧ (d < 4294967296) ∧ (ExAt h.extra xa xn xf)) ?_ ?_
                ·
                  refine C.seq ?_
                  refine C.region ?_
                  refine E.pure (S.move rfl) rfl ?_
                  refine E.pure (S.and (b := ((8 : Nat) : Int)) rfl rfl (N.and_u8 (by omega) (by omega))) rfl ?_
                  refine E.pure (S.ne (b := ((0 : Nat) : Int)) rfl rfl) rfl ?_
                  refine E.keep [0, 2, 3, 4, 7, 144] (env1 := [(0, _), (2, _), (3, _), (4, _), (7, _), (144, _)]) rfl ?_
                  first | refine C.ifp rfl (fun h144 => ?_) (fun h144 => ?_) | refine C.ifNone rfl (fun h144 => ?_) (fun h144 => ?_) | refine C.ifSome rfl (fun h144 => ?_) (fun h144 => ?_) | refine C.ifSe rfl (fun h144 => ?_) (fun h144 => ?_) | refine C.ifNotSe rfl (fun h144 => ?_) (fun h144 => ?_) | refine C.cond rfl (fun h144 => ?_) (fun h144 => ?_)
                  ·
                    refine C.seq ?_
                    refine C.seq ?_
                    refine C.region ?_
                    refine E.pure (S.move rfl) rfl ?_
                    refine E.loud1 (OpX.pick [0, 0, 0, 0, 0] (F := [_, _]) rfl (X.call rfl Tryd.call58 (readString_spec hs src l2 f1 f2 f3 zb d c0 c1 c2 c3 c4 c5 .nilIface c9 bs hG hbs hd))) rfl ?_; rintro _ _ ⟨_, ⟨k1, k2, k3, bs2, hF, hbs2, rfl, rfl⟩, rfl⟩; refine E.relist (L2 := [_, _, _, _, _, _, _]) rfl ?_
                    refine E.pure (S.move rfl) rfl ?_
                    refine E.pure (S.extract rfl rfl) rfl ?_
                    refine E.pure (S.extract rfl rfl) rfl ?_
                    refine E.pure (S.assign rfl) rfl ?_
                    refine E.pure (S.assign rfl) rfl ?_
                    refine E.keep [0, 2, 3, 4, 7, 144] (env1 := [(0, _), (2, _), (3, _), (4, _), (7, _), (144, _)]) rfl ?_
                    refine C.seq ?_
                    refine C.region ?_
                    refine E.pure (S.move rfl) rfl ?_
                    refine E.still (S.neErNil rfl) rfl ?_
                    refine E.keep [0, 2, 3, 4, 7, 144, 151] (env1 := [(0, _), (2, _), (3, _), (4, _), (7, _), (144, _), (151, _)]) rfl ?_
                    first | refine C.ifp rfl (fun h151 => ?_) (fun h151 => ?_) | refine C.ifNone rfl (fun h151 => ?_) (fun h151 => ?_) | refine C.ifSome rfl (fun h151 => ?_) (fun h151 => ?_) | refine C.ifSe rfl (fun h151 => ?_) (fun h151 => ?_) | refine C.ifNotSe rfl (fun h151 => ?_) (fun h151 => ?_) | refine C.cond rfl (fun h151 => ?_) (fun h151 => ?_)
                    ·
                      refine C.seq ?_
                      refine C.draw [0, 0, 2, 5, 15] (.pure 1 1 (.alt 0 (.alt 2 (.alt 3 (.pure 4 15 .done) .stop) .stop) (.alt 2 (.seg [(0, 6)] (.alt 3 (.pure 4 15 .done) .stop)) .stop))) mixed (by decide +kernel) ?_
                      refine D.pure rfl (S.move rfl) rfl ?_
                      refine D.alt ?_ ⟨?_, trivial⟩
                      ·
                        refine O.still rfl (S.loadA 5 (k := 0) rfl rfl rfl rfl Tryd.isAgg69 Tryd.sizeOf69) rfl ?_
                        refine D.one ?_
                        refine O.loud1 rfl (OpX.pick [] (F := [_, _, _, _, _, _, _]) rfl (X.call rfl Tryd.call46 (gogzip_noEOF (L := []) hs _))) rfl ?_; rintro _ _ ⟨_, ⟨rfl, rfl⟩, rfl⟩; refine D.relist (L2 := [_, _, _, _, _, _, _]) rfl ?_
                        refine D.one ?_
                        refine O.loud0 rfl (X.storeA 5 (k := 0) rfl rfl rfl rfl rfl rfl Tryd.sizeOf69 rfl) ?_; rintro _ _ ⟨rfl, rfl⟩; refine D.relist (L2 := [_, _, _, _, _, _, _]) rfl ?_
                        refine D.pure rfl (S.assign rfl) rfl ?_
                        refine D.keep [0, 2, 3, 4, 7, 144, 151] (env1 := [(0, _), (2, _), (3, _), (4, _), (7, _), (144, _), (151, _)]) rfl ?_
                        refine C.ret ?_
                        have hRR : readHead l = (noEof (strEr l2), l2.drop (strUsed l2), h) := by rw [hR, rd2, if_neg (by omega), if_pos h151]
                        refine ⟨_, _, ⟨_, _, 5, rfl, rfl, rfl⟩, rfl, _, _, _, _, _, _, _, rfl, rfl, ?_, ?_, ?_, ?_, .inl ⟨?_, _, rfl⟩⟩
                        · first | (rw [hRR]; done) | (rw [hRR]; rfl)
                        · rw [hRR]; exact hF
                        · exact hbs2
                        · exact strCrc_lt hd l2
                        · rw [hRR]; first | assumption | (exact noEof_ne (by assumption)) | simp
                      ·
                        refine O.loud1 rfl (OpX.pick [] (F := [_, _, _, _, _, _, _]) rfl (X.call rfl Tryd.call46 (gogzip_noEOF (L := []) hs _))) rfl ?_; rintro _ _ ⟨_, ⟨rfl, rfl⟩, rfl⟩; refine D.relist (L2 := [_, _, _, _, _, _, _]) rfl ?_
                        refine D.seg (by decide) ?_
                        refine W.still rfl (S.loadA 5 (k := 0) rfl rfl rfl rfl Tryd.isAgg69 Tryd.sizeOf69) rfl ?_
                        refine W.nil ?_
                        refine D.one ?_
                        refine O.loud0 rfl (X.storeA 5 (k := 0) rfl rfl rfl rfl rfl rfl Tryd.sizeOf69 rfl) ?_; rintro _ _ ⟨rfl, rfl⟩; refine D.relist (L2 := [_, _, _, _, _, _, _]) rfl ?_
                        refine D.pure rfl (S.assign rfl) rfl ?_
                        refine D.keep [0, 2, 3, 4, 7, 144, 151] (env1 := [(0, _), (2, _), (3, _), (4, _), (7, _), (144, _), (151, _)]) rfl ?_
                        refine C.ret ?_
                        have hRR : readHead l = (noEof (strEr l2), l2.drop (strUsed l2), h) := by rw [hR, rd2, if_neg (by omega), if_pos h151]
                        refine ⟨_, _, ⟨_, _, 5, rfl, rfl, rfl⟩, rfl, _, _, _, _, _, _, _, rfl, rfl, ?_, ?_, ?_, ?_, .inl ⟨?_, _, rfl⟩⟩
                        · first | (rw [hRR]; done) | (rw [hRR]; rfl)
                        · rw [hRR]; exact hF
                        · exact hbs2
                        · exact strCrc_lt hd l2
                        · rw [hRR]; first | assumption | (exact noEof_ne (by assumption)) | simp
                    ·
                      rw [h151]
                      refine C.skip ?_
                      refine C.region ?_
                      refine E.pure (S.move rfl) rfl ?_
                      refine E.pure (S.field rfl fa69_3) rfl ?_
                      refine E.loud0 (X.store 5 (k := 4) rfl rfl rfl rfl rfl Tryd.sizeOf9) ?_; rintro _ _ ⟨rfl, rfl⟩; refine E.relist (L2 := [_, _, _, _, _, _, _]) rfl ?_
                      refine E.keep [0, 2, 3, 4, 7, 144, 151] (env1 := [(0, _), (2, _), (3, _), (4, _), (7, _), (144, _), (151, _)]) rfl ?_
                      first | exact ⟨l2.drop (strUsed l2), strCrc d l2, { h with name := strTxt l2 }, bs2, hb, xa, xn, xf, k1, k2, k3, rfl, rfl, by rw [hR, rd2, if_neg (by omega), if_neg (by simpa using h151)], hF, hbs2, strCrc_lt hd l2, hX⟩ | exact ⟨l2, d, h, bs, hb, xa, xn, xf, f1, f2, f3, rfl, rfl, by rw [hR, rd2, if_pos (by omega)], hG, hbs, hd, hX⟩
                  ·
                    refine C.skip ?_
                    first | exact ⟨l2.drop (strUsed l2), strCrc d l2, { h with name := strTxt l2 }, bs2, hb, xa, xn, xf, k1, k2, k3, rfl, rfl, by rw [hR, rd2, if_neg (by omega), if_neg (by simpa using h151)], hF, hbs2, strCrc_lt hd l2, hX⟩ | exact ⟨l2, d, h, bs, hb, xa, xn, xf, f1, f2, f3, rfl, rfl, by rw [hR, rd2, if_pos (by omega)], hG, hbs, hd, hX⟩
                ·
                  rintro _ _ ⟨l2, d, h, bs, hb, xa, xn, xf, f1, f2, f3, hq29, rfl, hR, hG, hbs, hd, hX⟩
                  refine C.weaken _ hq29 ?_
                  refine C.cut (M := fun ee ll => ∃ (l2 : List UInt8), ∃ (d : Nat), ∃ (h : Hd), ∃ (bs : List Value), ∃ (hb : Nat), ∃ (xa : Option Addr), ∃ (xn : Nat), ∃ (xf : Frag), ∃ (f1 : Frag), ∃ (f2 : Frag), ∃ (f3 : Frag), keeps ee [0, 2, 3, 4] = some [(0, .pointer (some ⟨zb, 0, none⟩)), (2, .pointer (some ⟨hb, 0, none⟩)), (3, Er.val ea .none), (4, .int .u8 ((v3.toNat : Nat) : Int))] ∧ ll = [f1, f2, f3, ⟨zb, 0, [c0, c1, c2, c3, c4, c5, .iface src.t src.v, .nilIface, .int .u32 ((d : Nat) : Int), c9]⟩, ⟨zb, 10, bs⟩, ⟨hb, 0, [.string h.comment, .slice xa xn xn, .int .u64 0, .int .i64 (timeV h.mod), .string h.name, .int .u8 ((h.os : Nat) : Int)]⟩, xf] ∧ (readHead l = rd4 l2 v3.toNat d h) ∧ (src.At l2 f1 f2 f3) ∧ (bs.length = 512) ∧ (d < 4294967296) ∧ (ExAt h.extra xa xn xf)) ?_ ?_
                  ·
                    refine C.seq ?_
                    refine C.region ?_
                    refine E.pure (S.move rfl) rfl ?_
                    refine E.pure (S.and (b := ((16 : Nat) : Int)) rfl rfl (N.and_u8 (by omega) (by omega))) rfl ?_
                    refine E.pure (S.ne (b := ((0 : Nat) : Int)) rfl rfl) rfl ?_
                    refine E.keep [0, 2, 3, 4, 159] (env1 := [(0, _), (2, _), (3, _), (4, _), (159, _)]) rfl ?_
                    first | refine C.ifp rfl (fun h159 => ?_) (fun h159 => ?_) | refine C.ifNone rfl (fun h159 => ?_) (fun h159 => ?_) | refine C.ifSome rfl (fun h159 => ?_) (fun h159 => ?_) | refine C.ifSe rfl (fun h159 => ?_) (fun h159 => ?_) | refine C.ifNotSe rfl (fun h159 => ?_) (fun h159 => ?_) | refine C.cond rfl (fun h159 => ?_) (fun h159 => ?_)
                    ·
                      refine C.seq ?_
                      refine C.seq ?_
                      refine C.region ?_
                      refine E.pure (S.move rfl) rfl ?_
                      refine E.loud1 (OpX.pick [0, 0, 0, 0, 0] (F := [_, _]) rfl (X.call rfl Tryd.call58 (readString_spec hs src l2 f1 f2 f3 zb d c0 c1 c2 c3 c4 c5 .nilIface c9 bs hG hbs hd))) rfl ?_; rintro _ _ ⟨_, ⟨k1, k2, k3, bs2, hF, hbs2, rfl, rfl⟩, rfl⟩; refine E.relist (L2 := [_, _, _, _, _, _, _]) rfl ?_
                      refine E.pure (S.move rfl) rfl ?_
                      refine E.pure (S.extract rfl rfl) rfl ?_
                      refine E.pure (S.extract rfl rfl) rfl ?_
                      refine E.pure (S.assign rfl) rfl ?_
                      refine E.pure (S.assign rfl) rfl ?_
                      refine E.keep [0, 2, 3, 4, 7, 159] (env1 := [(0, _), (2, _), (3, _), (4, _), (7, _), (159, _)]) rfl ?_
                      refine C.seq ?_
                      refine C.region ?_
                      refine E.pure (S.move rfl) rfl ?_
                      refine E.still (S.neErNil rfl) rfl ?_
                      refine E.keep [0, 2, 3, 4, 7, 159, 166] (env1 := [(0, _), (2, _), (3, _), (4, _), (7, _), (159, _), (166, _)]) rfl ?_
                      first | refine C.ifp rfl (fun h166 => ?_) (fun h166 => ?_) | refine C.ifNone rfl (fun h166 => ?_) (fun h166 => ?_) | refine C.ifSome rfl (fun h166 => ?_) (fun h166 => ?_) | refine C.ifSe rfl (fun h166 => ?_) (fun h166 => ?_) | refine C.ifNotSe rfl (fun h166 => ?_) (fun h166 => ?_) | refine C.cond rfl (fun h166 => ?_) (fun h166 => ?_)
                      ·
                        refine C.seq ?_
                        refine C.draw [0, 0, 2, 5, 15] (.pure 1 1 (.alt 0 (.alt 2 (.alt 3 (.pure 4 15 .done) .stop) .stop) (.alt 2 (.seg [(0, 6)] (.alt 3 (.pure 4 15 .done) .stop)) .stop))) mixed (by decide +kernel) ?_
                        refine D.pure rfl (S.move rfl) rfl ?_
                        refine D.alt ?_ ⟨?_, trivial⟩
                        ·
                          refine O.still rfl (S.loadA 5 (k := 0) rfl rfl rfl rfl Tryd.isAgg69 Tryd.sizeOf69) rfl ?_
                          refine D.one ?_
                          refine O.loud1 rfl (OpX.pick [] (F := [_, _, _, _, _, _, _]) rfl (X.call rfl Tryd.call46 (gogzip_noEOF (L := []) hs _))) rfl ?_; rintro _ _ ⟨_, ⟨rfl, rfl⟩, rfl⟩; refine D.relist (L2 := [_, _, _, _, _, _, _]) rfl ?_
                          refine D.one ?_
                          refine O.loud0 rfl (X.storeA 5 (k := 0) rfl rfl rfl rfl rfl rfl Tryd.sizeOf69 rfl) ?_; rintro _ _ ⟨rfl, rfl⟩; refine D.relist (L2 := [_, _, _, _, _, _, _]) rfl ?_
                          refine D.pure rfl (S.assign rfl) rfl ?_
                          refine D.keep [0, 2, 3, 4, 7, 159, 166] (env1 := [(0, _), (2, _), (3, _), (4, _), (7, _), (159, _), (166, _)]) rfl ?_
                          refine C.ret ?_
                          have hRR : readHead l = (noEof (strEr l2), l2.drop (strUsed l2), h) := by rw [hR, rd3, if_neg (by omega), if_pos h166]
                          refine ⟨_, _, ⟨_, _, 5, rfl, rfl, rfl⟩, rfl, _, _, _, _, _, _, _, rfl, rfl, ?_, ?_, ?_, ?_, .inl ⟨?_, _, rfl⟩⟩
                          · first | (rw [hRR]; done) | (rw [hRR]; rfl)
                          · rw [hRR]; exact hF
                          · exact hbs2
                          · exact strCrc_lt hd l2
                          · rw [hRR]; first | assumption | (exact noEof_ne (by assumption)) | simp
                        ·
                          refine O.loud1 rfl (OpX.pick [] (F := [_, _, _, _, _, _, _]) rfl (X.call rfl Tryd.call46 (gogzip_noEOF (L := []) hs _))) rfl ?_; rintro _ _ ⟨_, ⟨rfl, rfl⟩, rfl⟩; refine D.relist (L2 := [_, _, _, _, _, _, _]) rfl ?_
                          refine D.seg (by decide) ?_
                          refine W.still rfl (S.loadA 5 (k := 0) rfl rfl rfl rfl Tryd.isAgg69 Tryd.sizeOf69) rfl ?_
                          refine W.nil ?_
                          refine D.one ?_
                          refine O.loud0 rfl (X.storeA 5 (k := 0) rfl rfl rfl rfl rfl rfl Tryd.sizeOf69 rfl) ?_; rintro _ _ ⟨rfl, rfl⟩; refine D.relist (L2 := [_, _, _, _, _, _, _]) rfl ?_
                          refine D.pure rfl (S.assign rfl) rfl ?_
                          refine D.keep [0, 2, 3, 4, 7, 159, 166] (env1 := [(0, _), (2, _), (3, _), (4, _), (7, _), (159, _), (166, _)]) rfl ?_
                          refine C.ret ?_
                          have hRR : readHead l = (noEof (strEr l2), l2.drop (strUsed l2), h) := by rw [hR, rd3, if_neg (by omega), if_pos h166]
                          refine ⟨_, _, ⟨_, _, 5, rfl, rfl, rfl⟩, rfl, _, _, _, _, _, _, _, rfl, rfl, ?_, ?_, ?_, ?_, .inl ⟨?_, _, rfl⟩⟩
                          · first | (rw [hRR]; done) | (rw [hRR]; rfl)
                          · rw [hRR]; exact hF
                          · exact hbs2
                          · exact strCrc_lt hd l2
                          · rw [hRR]; first | assumption | (exact noEof_ne (by assumption)) | simp
                      ·
                        rw [h166]
                        refine C.skip ?_
                        refine C.region ?_
                        refine E.pure (S.move rfl) rfl ?_
                        refine E.pure (S.field rfl fa69_0) rfl ?_
                        refine E.loud0 (X.store 5 (k := 0) rfl rfl rfl rfl rfl Tryd.sizeOf9) ?_; rintro _ _ ⟨rfl, rfl⟩; refine E.relist (L2 := [_, _, _, _, _, _, _]) rfl ?_
                        refine E.keep [0, 2, 3, 4, 7, 159, 166] (env1 := [(0, _), (2, _), (3, _), (4, _), (7, _), (159, _), (166, _)]) rfl ?_
                        first | exact ⟨l2.drop (strUsed l2), strCrc d l2, { h with comment := strTxt l2 }, bs2, hb, xa, xn, xf, k1, k2, k3, rfl, rfl, by rw [hR, rd3, if_neg (by omega), if_neg (by simpa using h166)], hF, hbs2, strCrc_lt hd l2, hX⟩ | exact ⟨l2, d, h, bs, hb, xa, xn, xf, f1, f2, f3, rfl, rfl, by rw [hR, rd3, if_pos (by omega)], hG, hbs, hd, hX⟩
                    ·
                      refine C.skip ?_
                      first | exact ⟨l2.drop (strUsed l2), strCrc d l2, { h with comment := strTxt l2 }, bs2, hb, xa, xn, xf, k1, k2, k3, rfl, rfl, by rw [hR, rd3, if_neg (by omega), if_neg (by simpa using h166)], hF, hbs2, strCrc_lt hd l2, hX⟩ | exact ⟨l2, d, h, bs, hb, xa, xn, xf, f1, f2, f3, rfl, rfl, by rw [hR, rd3, if_pos (by omega)], hG, hbs, hd, hX⟩
                  ·
                    rintro _ _ ⟨l2, d, h, bs, hb, xa, xn, xf, f1, f2, f3, hq34, rfl, hR, hG, hbs, hd, hX⟩
                    refine C.weaken _ hq34 ?_
                    refine C.cut (M := fun ee ll => ∃ (l2 : List UInt8), ∃ (d : Nat), ∃ (h : Hd), ∃ (bs : List Value), ∃ (hb : Nat), ∃ (xa : Option Addr), ∃ (xn : Nat), ∃ (xf : Frag), ∃ (f1 : Frag), ∃ (f2 : Frag), ∃ (f3 : Frag), keeps ee [0, 2, 3, 4] = some [(0, .pointer (some ⟨zb, 0, none⟩)), (2, .pointer (some ⟨hb, 0, none⟩)), (3, Er.val ea .none), (4, .int .u8 ((v3.toNat : Nat) : Int))] ∧ ll = [f1, f2, f3, ⟨zb, 0, [c0, c1, c2, c3, c4, c5, .iface src.t src.v, .nilIface, .int .u32 ((d : Nat) : Int), c9]⟩, ⟨zb, 10, bs⟩, ⟨hb, 0, [.string h.comment, .slice xa xn xn, .int .u64 0, .int .i64 (timeV h.mod), .string h.name, .int .u8 ((h.os : Nat) : Int)]⟩, xf] ∧ (readHead l = (.none, l2, h)) ∧ (src.At l2 f1 f2 f3) ∧ (bs.length = 512) ∧ (d < 4294967296) ∧ (ExAt h.extra xa xn xf)) ?_ ?_
                    ·
                      refine C.seq ?_
                      refine C.region ?_
                      refine E.pure (S.move rfl) rfl ?_
                      refine E.pure (S.and (b := ((2 : Nat) : Int)) rfl rfl (N.and_u8 (by omega) (by omega))) rfl ?_
                      refine E.pure (S.ne (b := ((0 : Nat) : Int)) rfl rfl) rfl ?_
                      refine E.keep [0, 2, 3, 4, 174] (env1 := [(0, _), (2, _), (3, _), (4, _), (174, _)]) rfl ?_
                      first | refine C.ifp rfl (fun h174 => ?_) (fun h174 => ?_) | refine C.ifNone rfl (fun h174 => ?_) (fun h174 => ?_) | refine C.ifSome rfl (fun h174 => ?_) (fun h174 => ?_) | refine C.ifSe rfl (fun h174 => ?_) (fun h174 => ?_) | refine C.ifNotSe rfl (fun h174 => ?_) (fun h174 => ?_) | refine C.cond rfl (fun h174 => ?_) (fun h174 => ?_)
                      ·
                        refine C.seq ?_
                        refine C.seq ?_
                        refine C.same (Same.splitAt (k := 2) 4 rfl rfl (List.take_append_drop 2 _).symm (by rw [List.length_take]; omega) rfl) ?_
                        refine C.relist (L2 := [_, _, _, _, _, _, _, _]) rfl ?_
                        refine C.draw [0, 1, 2, 4, 0, 16, 32, 64, 136, 256, 512, 512, 4095] (.pure 0 240 (.pure 1 241 (.pure 2 243 (.pure 4 15 (.pure 5 31 (.pure 6 63 (.pure 7 127 (.seg [(3, 247)] (.alt 8 (.pure 9 511 (.pure 10 3071 (.pure 11 2047 (.pure 12 4095 .done)))) .stop))))))))) mixed (by decide +kernel) ?_
                        refine D.pure rfl (S.move rfl) rfl ?_
                        refine D.pure rfl (S.nilPtr rfl) rfl ?_
                        refine D.pure rfl (S.field rfl fa76_1) rfl ?_
                        refine D.pure rfl (S.move rfl) rfl ?_
                        refine D.pure rfl (S.nilPtr rfl) rfl ?_
                        refine D.pure rfl (S.field rfl fa76_5) rfl ?_
                        refine D.pure rfl (S.slArr (l := 0) (k := .i64) (h := 2) rfl rfl rfl (by omega) (by omega) Tryd.underlying74 Tryd.sizeOf5) rfl ?_
                        refine D.reslot (v := .slice (some ⟨zb, 10, none⟩) (2) (512)) (slice_to (by simp [part]) rfl rfl) ?_
                        refine D.seg (by decide) ?_
                        refine W.still rfl (S.load 5 (k := 6) rfl rfl rfl Tryd.isAgg71) rfl ?_
                        refine W.nil ?_
                        refine D.one ?_
                        refine O.loud1 rfl (OpX.pick [2, 2, 2, 0] (F := [_, _, _, _]) rfl (X.call rfl Tryd.call45 (readFull_spec hs src l2 f1 f2 f3 zb 10 2 512 (List.take 2 _) hG (by rw [List.length_take]; omega) (by omega) (by omega)))) rfl ?_; rintro _ _ ⟨_, ⟨k1, k2, k3, hF, rfl, rfl⟩, rfl⟩; refine D.relist (L2 := [_, _, _, _, _, _, _, _]) rfl ?_
                        refine D.pure rfl (S.move rfl) rfl ?_
                        refine D.pure rfl (S.extract rfl rfl) rfl ?_
                        refine D.pure rfl (S.extract rfl rfl) rfl ?_
                        refine D.pure rfl (S.assign rfl) rfl ?_
                        refine D.keep [0, 2, 3, 4, 174] (env1 := [(0, _), (2, _), (3, _), (4, _), (174, _)]) rfl ?_
                        refine C.same (Same.joinAt 3 3 rfl rfl (by rw [show 10 + 2 = 10 + (2 : Nat) from rfl]; congr 1; simp only [List.length_append, bytesV_length, List.length_take, List.length_drop, min_i]; omega)) ?_
                        refine C.perml [1, 1, 1, 1, 0, 0, 0] (A := [_, _, _, _, _, _, _]) (F := []) rfl ?_
                        refine C.relist (L2 := [_, _, _, _, _, _, _]) rfl ?_
                        refine C.seq ?_
                        refine C.region ?_
                        refine E.pure (S.move rfl) rfl ?_
                        refine E.still (S.neErNil rfl) rfl ?_
                        refine E.keep [0, 2, 3, 4, 174, 188] (env1 := [(0, _), (2, _), (3, _), (4, _), (174, _), (188, _)]) rfl ?_
                        first | refine C.ifp rfl (fun h188 => ?_) (fun h188 => ?_) | refine C.ifNone rfl (fun h188 => ?_) (fun h188 => ?_) | refine C.ifSome rfl (fun h188 => ?_) (fun h188 => ?_) | refine C.ifSe rfl (fun h188 => ?_) (fun h188 => ?_) | refine C.ifNotSe rfl (fun h188 => ?_) (fun h188 => ?_) | refine C.cond rfl (fun h188 => ?_) (fun h188 => ?_)
                        ·
                          refine C.seq ?_
                          refine C.draw [0, 0, 2, 5, 15] (.pure 1 1 (.alt 0 (.alt 2 (.alt 3 (.pure 4 15 .done) .stop) .stop) (.alt 2 (.seg [(0, 6)] (.alt 3 (.pure 4 15 .done) .stop)) .stop))) mixed (by decide +kernel) ?_
                          refine D.pure rfl (S.move rfl) rfl ?_
                          refine D.alt ?_ ⟨?_, trivial⟩
                          ·
                            refine O.still rfl (S.loadA 5 (k := 0) rfl rfl rfl rfl Tryd.isAgg69 Tryd.sizeOf69) rfl ?_
                            refine D.one ?_
                            refine O.loud1 rfl (OpX.pick [] (F := [_, _, _, _, _, _, _]) rfl (X.call rfl Tryd.call46 (gogzip_noEOF (L := []) hs _))) rfl ?_; rintro _ _ ⟨_, ⟨rfl, rfl⟩, rfl⟩; refine D.relist (L2 := [_, _, _, _, _, _, _]) rfl ?_
                            refine D.one ?_
                            refine O.loud0 rfl (X.storeA 5 (k := 0) rfl rfl rfl rfl rfl rfl Tryd.sizeOf69 rfl) ?_; rintro _ _ ⟨rfl, rfl⟩; refine D.relist (L2 := [_, _, _, _, _, _, _]) rfl ?_
                            refine D.pure rfl (S.assign rfl) rfl ?_
                            refine D.keep [0, 2, 3, 4, 174, 188] (env1 := [(0, _), (2, _), (3, _), (4, _), (174, _), (188, _)]) rfl ?_
                            refine C.ret ?_
                            have hRR : readHead l = (noEof (fullErr l2 2), l2.drop 2, h) := by rw [hR, rd4, if_neg (by omega), if_pos h188]
                            refine ⟨_, _, ⟨_, _, 5, rfl, rfl, rfl⟩, rfl, _, _, _, _, _, _, _, rfl, rfl, ?_, ?_, ?_, ?_, .inl ⟨?_, _, rfl⟩⟩
                            · first | (rw [hRR]; done) | (rw [hRR]; rfl)
                            · rw [hRR]; exact hF
                            · rw [buf_join (by omega)]; exact hbs
                            · assumption
                            · rw [hRR]; first | assumption | (exact noEof_ne (by assumption)) | simp
                          ·
                            refine O.loud1 rfl (OpX.pick [] (F := [_, _, _, _, _, _, _]) rfl (X.call rfl Tryd.call46 (gogzip_noEOF (L := []) hs _))) rfl ?_; rintro _ _ ⟨_, ⟨rfl, rfl⟩, rfl⟩; refine D.relist (L2 := [_, _, _, _, _, _, _]) rfl ?_
                            refine D.seg (by decide) ?_
                            refine W.still rfl (S.loadA 5 (k := 0) rfl rfl rfl rfl Tryd.isAgg69 Tryd.sizeOf69) rfl ?_
                            refine W.nil ?_
                            refine D.one ?_
                            refine O.loud0 rfl (X.storeA 5 (k := 0) rfl rfl rfl rfl rfl rfl Tryd.sizeOf69 rfl) ?_; rintro _ _ ⟨rfl, rfl⟩; refine D.relist (L2 := [_, _, _, _, _, _, _]) rfl ?_
                            refine D.pure rfl (S.assign rfl) rfl ?_
                            refine D.keep [0, 2, 3, 4, 174, 188] (env1 := [(0, _), (2, _), (3, _), (4, _), (174, _), (188, _)]) rfl ?_
                            refine C.ret ?_
                            have hRR : readHead l = (noEof (fullErr l2 2), l2.drop 2, h) := by rw [hR, rd4, if_neg (by omega), if_pos h188]
                            refine ⟨_, _, ⟨_, _, 5, rfl, rfl, rfl⟩, rfl, _, _, _, _, _, _, _, rfl, rfl, ?_, ?_, ?_, ?_, .inl ⟨?_, _, rfl⟩⟩
                            · first | (rw [hRR]; done) | (rw [hRR]; rfl)
                            · rw [hRR]; exact hF
                            · rw [buf_join (by omega)]; exact hbs
                            · assumption
                            · rw [hRR]; first | assumption | (exact noEof_ne (by assumption)) | simp
                        ·
                          rw [h188]
                          obtain ⟨w0, w1, r2, hl2⟩ := two h188
                          have hw0 := w0.toNat_lt
                          have hw1 := w1.toNat_lt
                          have h16 := le16_lt hw0 hw1
                          have e1 : l2.drop 2 = r2 := by rw [hl2]; rfl
                          have e2 : le16of l2 = le16 w0.toNat w1.toNat := by rw [hl2]; rfl
                          refine C.relist (L2 := [k1, k2, k3, ⟨zb, 0, [c0, c1, c2, c3, c4, c5, .iface src.t src.v, .nilIface, .int .u32 ((d : Nat) : Int), c9]⟩, ⟨zb, 10, u8 w0 :: u8 w1 :: bs.drop 2⟩, ⟨hb, 0, [.string h.comment, .slice xa xn xn, .int .u64 0, .int .i64 (timeV h.mod), .string h.name, .int .u8 ((h.os : Nat) : Int)]⟩, xf]) (by rw [buf_full (full_len h188), hl2]; rfl) ?_
                          rw [e1] at hF
                          refine C.skip ?_
                          refine C.seq ?_
                          refine C.region ?_
                          refine E.pure (S.move rfl) rfl ?_
                          refine E.pure (S.nilPtr rfl) rfl ?_
                          refine E.pure (S.field rfl fa76_5) rfl ?_
                          refine E.pure (S.slArr (l := 0) (k := .i64) (h := 2) rfl rfl rfl (by omega) (by omega) Tryd.underlying74 Tryd.sizeOf5) rfl ?_
                          refine E.reslot (v := .slice (some ⟨zb, 10, none⟩) (2) (512)) (slice_to (by simp [part]) rfl rfl) ?_
                          refine E.loud1 (X.call rfl Tryd.call57 (le16_spec zb 10 2 512 w0 w1 [] (by omega) (Reads.frag (i := 4) (k := 0) rfl rfl))) rfl ?_; rintro _ _ ⟨rfl, rfl⟩; refine E.relist (L2 := [_, _, _, _, _, _, _]) rfl ?_
                          refine E.pure (S.assign rfl) rfl ?_
                          refine E.keep [0, 2, 3, 4, 8, 174, 188] (env1 := [(0, _), (2, _), (3, _), (4, _), (8, _), (174, _), (188, _)]) rfl ?_
                          refine C.seq ?_
                          refine C.region ?_
                          refine E.pure (S.move rfl) rfl ?_
                          refine E.pure (S.move rfl) rfl ?_
                          refine E.pure (S.nilPtr rfl) rfl ?_
                          refine E.pure (S.field rfl fa76_3) rfl ?_
                          refine E.still (S.load 3 (k := 8) rfl rfl rfl Tryd.isAgg52) rfl ?_
                          first | refine E.pure (S.conv rfl Tryd.underlying52 Tryd.underlying120 (N.in_u16 (by omega))) rfl ?_ | refine E.pure (S.conv rfl Tryd.underlying52 Tryd.underlying120 (N.mod_u16 _)) rfl ?_
                          refine E.pure (S.ne rfl rfl) rfl ?_
                          refine E.keep [0, 2, 3, 4, 8, 174, 188, 203] (env1 := [(0, _), (2, _), (3, _), (4, _), (8, _), (174, _), (188, _), (203, _)]) rfl ?_
                          first | refine C.ifp rfl (fun h203 => ?_) (fun h203 => ?_) | refine C.ifNone rfl (fun h203 => ?_) (fun h203 => ?_) | refine C.ifSome rfl (fun h203 => ?_) (fun h203 => ?_) | refine C.ifSe rfl (fun h203 => ?_) (fun h203 => ?_) | refine C.ifNotSe rfl (fun h203 => ?_) (fun h203 => ?_) | refine C.cond rfl (fun h203 => ?_) (fun h203 => ?_)
                          ·
                            refine C.seq ?_
                            refine C.draw [0, 0, 1, 7] (.alt 0 (.alt 1 (.alt 2 (.pure 3 7 .done) .stop) (.alt 2 (.seg [(1, 5), (3, 7)] .done) .stop)) (.alt 1 (.seg [(0, 2)] (.alt 2 (.pure 3 7 .done) .stop)) .stop)) mixed (by decide +kernel) ?_
                            refine D.alt ?_ ⟨?_, trivial⟩
                            ·
                              refine O.still rfl (S.loadA 5 (k := 0) rfl rfl rfl rfl Tryd.isAgg69 Tryd.sizeOf69) rfl ?_
                              refine D.alt ?_ ⟨?_, trivial⟩
                              ·
                                refine O.still rfl (S.loadBase rfl hs.g1 Tryd.isAgg59) rfl ?_
                                refine D.one ?_
                                refine O.loud0 rfl (X.storeA 5 (k := 0) rfl rfl rfl rfl rfl rfl Tryd.sizeOf69 rfl) ?_; rintro _ _ ⟨rfl, rfl⟩; refine D.relist (L2 := [_, _, _, _, _, _, _]) rfl ?_
                                refine D.pure rfl (S.assign rfl) rfl ?_
                                refine D.keep [0, 2, 3, 4, 8, 174, 188, 203] (env1 := [(0, _), (2, _), (3, _), (4, _), (8, _), (174, _), (188, _), (203, _)]) rfl ?_
                                refine C.ret ?_
                                have hRR : readHead l = (.header, r2, h) := by rw [hR, rd4, if_neg (by omega), if_neg (by simpa using h188), if_pos (by rw [e2]; omega), e1]
                                refine ⟨_, _, ⟨_, _, 5, rfl, rfl, rfl⟩, rfl, _, _, _, _, _, _, _, rfl, rfl, ?_, ?_, ?_, ?_, .inl ⟨?_, _, rfl⟩⟩
                                · first | (rw [hRR]; done) | (rw [hRR]; rfl)
                                · rw [hRR]; exact hF
                                · simp only [List.length_cons, List.length_drop]; omega
                                · assumption
                                · rw [hRR]; first | assumption | (exact noEof_ne (by assumption)) | simp
                              ·
                                refine O.loud0 rfl (X.storeA 5 (k := 0) rfl rfl rfl rfl rfl rfl Tryd.sizeOf69 rfl) ?_; rintro _ _ ⟨rfl, rfl⟩; refine D.relist (L2 := [_, _, _, _, _, _, _]) rfl ?_
                                refine D.seg (by decide) ?_
                                refine W.still rfl (S.loadBase rfl hs.g1 Tryd.isAgg59) rfl ?_
                                refine W.pure rfl (S.assign rfl) rfl ?_
                                refine W.nil ?_
                                refine D.keep [0, 2, 3, 4, 8, 174, 188, 203] (env1 := [(0, _), (2, _), (3, _), (4, _), (8, _), (174, _), (188, _), (203, _)]) rfl ?_
                                refine C.ret ?_
                                have hRR : readHead l = (.header, r2, h) := by rw [hR, rd4, if_neg (by omega), if_neg (by simpa using h188), if_pos (by rw [e2]; omega), e1]
                                refine ⟨_, _, ⟨_, _, 5, rfl, rfl, rfl⟩, rfl, _, _, _, _, _, _, _, rfl, rfl, ?_, ?_, ?_, ?_, .inl ⟨?_, _, rfl⟩⟩
                                · first | (rw [hRR]; done) | (rw [hRR]; rfl)
                                · rw [hRR]; exact hF
                                · simp only [List.length_cons, List.length_drop]; omega
                                · assumption
                                · rw [hRR]; first | assumption | (exact noEof_ne (by assumption)) | simp
                            ·
                              refine O.still rfl (S.loadBase rfl hs.g1 Tryd.isAgg59) rfl ?_
                              refine D.seg (by decide) ?_
                              refine W.still rfl (S.loadA 5 (k := 0) rfl rfl rfl rfl Tryd.isAgg69 Tryd.sizeOf69) rfl ?_
                              refine W.nil ?_
                              refine D.one ?_
                              refine O.loud0 rfl (X.storeA 5 (k := 0) rfl rfl rfl rfl rfl rfl Tryd.sizeOf69 rfl) ?_; rintro _ _ ⟨rfl, rfl⟩; refine D.relist (L2 := [_, _, _, _, _, _, _]) rfl ?_
                              refine D.pure rfl (S.assign rfl) rfl ?_
                              refine D.keep [0, 2, 3, 4, 8, 174, 188, 203] (env1 := [(0, _), (2, _), (3, _), (4, _), (8, _), (174, _), (188, _), (203, _)]) rfl ?_
                              refine C.ret ?_
                              have hRR : readHead l = (.header, r2, h) := by rw [hR, rd4, if_neg (by omega), if_neg (by simpa using h188), if_pos (by rw [e2]; omega), e1]
                              refine ⟨_, _, ⟨_, _, 5, rfl, rfl, rfl⟩, rfl, _, _, _, _, _, _, _, rfl, rfl, ?_, ?_, ?_, ?_, .inl ⟨?_, _, rfl⟩⟩
                              · first | (rw [hRR]; done) | (rw [hRR]; rfl)
                              · rw [hRR]; exact hF
                              · simp only [List.length_cons, List.length_drop]; omega
                              · assumption
                              · rw [hRR]; first | assumption | (exact noEof_ne (by assumption)) | simp
                          ·
                            refine C.skip ?_
                            first | exact ⟨r2, d, h, _, hb, xa, xn, xf, k1, k2, k3, rfl, rfl, by rw [hR, rd4, if_neg (by omega), if_neg (by simpa using h188), if_neg (by rw [e2]; omega), e1], hF, by simp only [List.length_cons, List.length_drop]; omega, hd, hX⟩ | exact ⟨l2, d, h, bs, hb, xa, xn, xf, f1, f2, f3, rfl, rfl, by rw [hR, rd4, if_pos (by omega)], hG, hbs, hd, hX⟩
                      ·
                        refine C.skip ?_
                        first | exact ⟨r2, d, h, _, hb, xa, xn, xf, k1, k2, k3, rfl, rfl, by rw [hR, rd4, if_neg (by omega), if_neg (by simpa using h188), if_neg (by rw [e2]; omega), e1], hF, by simp only [List.length_cons, List.length_drop]; omega, hd, hX⟩ | exact ⟨l2, d, h, bs, hb, xa, xn, xf, f1, f2, f3, rfl, rfl, by rw [hR, rd4, if_pos (by omega)], hG, hbs, hd, hX⟩
                    ·
                      rintro _ _ ⟨l2, d, h, bs, hb, xa, xn, xf, f1, f2, f3, hq41, rfl, hR, hG, hbs, hd, hX⟩
                      refine C.weaken _ hq41 ?_
                      refine C.seq ?_
                      refine C.region ?_
                      refine E.pure (S.move rfl) rfl ?_
                      refine E.pure (S.nilPtr rfl) rfl ?_
                      refine E.pure (S.field rfl fa76_3) rfl ?_
                      refine E.loud0 (X.store 3 (k := 8) rfl rfl rfl rfl rfl Tryd.sizeOf52) ?_; rintro _ _ ⟨rfl, rfl⟩; refine E.relist (L2 := [_, _, _, _, _, _, _]) rfl ?_
                      refine E.keep [0, 2, 3, 4] (env1 := [(0, _), (2, _), (3, _), (4, _)]) rfl ?_
                      refine C.seq ?_
                      refine C.seq ?_
                      refine C.region ?_
                      refine E.pure (S.move rfl) rfl ?_
                      refine E.pure (S.nilPtr rfl) rfl ?_
                      refine E.pure (S.field rfl fa76_2) rfl ?_
                      refine E.still (S.load 3 (k := 7) rfl rfl rfl Tryd.isAgg73) rfl ?_
                      first | refine E.still (S.eqNilI rfl Tryd.underlying73) rfl ?_ | refine E.still (S.eqNilN rfl Tryd.underlying73) rfl ?_
                      refine E.keep [0, 2, 3, 4, 213] (env1 := [(0, _), (2, _), (3, _), (4, _), (213, _)]) rfl ?_
                      refine C.yes rfl (rfl) ?_
                      refine C.region ?_
                      refine E.pure (S.move rfl) rfl ?_
                      refine E.pure (S.move rfl) rfl ?_
                      refine E.pure (S.nilPtr rfl) rfl ?_
                      refine E.pure (S.field rfl fa76_1) rfl ?_
                      refine E.still (S.load 3 (k := 6) rfl rfl rfl Tryd.isAgg71) rfl ?_
                      refine E.loud1 (OpX.pick [] (F := [_, _, _, _, _, _, _]) rfl (X.call rfl Tryd.call59 (flateNew_spec src))) rfl ?_; rintro _ _ ⟨_, ⟨fb, ab, cb, wb, rfl, rfl⟩, rfl⟩; refine E.relist (L2 := [_, _, _, _, _, _, _, _, _, _, _, _, _, _, _, _, _, _, _, _, _]) rfl ?_
                      refine E.pure (S.nilPtr rfl) rfl ?_
                      refine E.pure (S.field rfl fa76_2) rfl ?_
                      refine E.loud0 (X.store 17 (k := 7) rfl rfl rfl rfl rfl Tryd.sizeOf73) ?_; rintro _ _ ⟨rfl, rfl⟩; refine E.relist (L2 := [_, _, _, _, _, _, _, _, _, _, _, _, _, _, _, _, _, _, _, _, _]) rfl ?_
                      refine E.keep [0, 2, 3, 4, 213] (env1 := [(0, _), (2, _), (3, _), (4, _), (213, _)]) rfl ?_
                      refine C.seq ?_
                      refine C.region ?_
                      refine E.still (S.loadA 19 (k := 0) rfl rfl rfl rfl Tryd.isAgg69 Tryd.sizeOf69) rfl ?_
                      refine E.loud0 (X.storeA 19 (k := 0) rfl rfl rfl rfl rfl rfl Tryd.sizeOf69 rfl) ?_; rintro _ _ ⟨rfl, rfl⟩; refine E.relist (L2 := [_, _, _, _, _, _, _, _, _, _, _, _, _, _, _, _, _, _, _, _, _]) rfl ?_
                      refine E.pure (S.assign (v := Er.val ea .none) rfl) rfl ?_
                      refine E.keep [0, 2, 3, 4, 213] (env1 := [(0, _), (2, _), (3, _), (4, _), (213, _)]) rfl ?_
                      refine C.ret ?_
                      refine ⟨_, _, ⟨_, _, 19, rfl, rfl, rfl⟩, rfl, _, f1, f2, f3, _, _, _, rfl, rfl, ?_, ?_, hbs, ?_, .inr ⟨?_, xa, xn, xf, fb, ab, cb, wb, ?_, ?_, ?_, rfl⟩⟩
                      · first | (rw [hR]; done) | (rw [hR]; rfl)
                      · rw [hR]; exact hG
                      · decide
                      · rw [hR]
                      · rw [hR]; exact hX
                      · first | (rw [hR]; done) | (rw [hR]; rfl)
                      · rfl

/-- The same without what is of no more use. -/
def HeadRes {K : Known} {ea : Fin 5 → Addr} (src : Src K ea) (l : List UInt8) (zb : Nat) (c0 c1 c2 c3 c4 c5 c9 : Value) (r : Value) (L : Frags) : Prop :=
  ∃ hs f1 f2 f3 d2 bs2, hs.length = 6 ∧ hs.all one = true ∧ r = .tuple #[.agg hs.toArray, Er.val ea (readHead l).1] ∧ src.At (readHead l).2.1 f1 f2 f3 ∧ bs2.length = 512 ∧ d2 < 4294967296 ∧
    (((readHead l).1 ≠ .none ∧ L = [f1, f2, f3, ⟨zb, 0, [c0, c1, c2, c3, c4, c5, .iface src.t src.v, .nilIface, .int .u32 ((d2 : Nat) : Int), c9]⟩, ⟨zb, 10, bs2⟩]) ∨
     ((readHead l).1 = .none ∧ ∃ xa xn X fb ab cb wb, ExAt (readHead l).2.2.extra xa xn X ∧ hs = headV (readHead l).2.2 xa xn ∧ d2 = 0 ∧
        L = newDec src fb ab cb wb ++ [f1, f2, f3, ⟨zb, 0, [c0, c1, c2, c3, c4, c5, .iface src.t src.v, .iface 157 (.pointer (some ⟨fb, 0, none⟩)), .int .u32 ((d2 : Nat) : Int), c9]⟩, ⟨zb, 10, bs2⟩, X]))

theorem readHeader_spec {K : Known} {ea : Fin 5 → Addr} (hs : Sents K ea) (src : Src K ea) (l : List UInt8) (x1 x2 x3 : Frag) (zb d0 : Nat) (c0 c1 c2 c3 c4 c5 c9 : Value) (bs0 : List Value) (hA : src.At l x1 x2 x3) (hbs0 : bs0.length = 512) (hd0 : d0 < 4294967296) :
    Fn Tryd.prog K 48 #[.pointer (some ⟨zb, 0, none⟩)] [x1, x2, x3, ⟨zb, 0, [c0, c1, c2, c3, c4, c5, .iface src.t src.v, .nilIface, .int .u32 ((d0 : Nat) : Int), c9]⟩, ⟨zb, 10, bs0⟩] (HeadRes src l zb c0 c1 c2 c3 c4 c5 c9) := by
  refine Fn.lose (readHeader_first hs src l x1 x2 x3 zb d0 c0 c1 c2 c3 c4 c5 c9 bs0 hA hbs0 hd0) ?_
  rintro v L' ⟨hs', f1, f2, f3, d2, bs2, hb, h6, h7, rfl, hF, hb2, hd2, ⟨hne, T, rfl⟩ | ⟨hno, xa, xn, X, fb, ab, cb, wb, hX, hv, hdz, rfl⟩⟩
  · exact ⟨_, _, Same.refl _, hs', f1, f2, f3, d2, bs2, h6, h7, rfl, hF, hb2, hd2, .inl ⟨hne, rfl⟩⟩
  · refine ⟨newDec src fb ab cb wb ++ [f1, f2, f3, ⟨zb, 0, [c0, c1, c2, c3, c4, c5, .iface src.t src.v, .iface 157 (.pointer (some ⟨fb, 0, none⟩)), .int .u32 ((d2 : Nat) : Int), c9]⟩, ⟨zb, 10, bs2⟩, X], [⟨hb, 0, hs'⟩], Same.perm ?_, hs', f1, f2, f3, d2, bs2, h6, h7, rfl, hF, hb2, hd2, .inr ⟨hno, xa, xn, X, fb, ab, cb, wb, hX, hv, hdz, rfl⟩⟩
    rw [List.append_assoc]
    refine List.Perm.append_left _ ?_
    exact (((((List.Perm.swap _ _ _).cons _).cons _).cons _).cons _).cons _

end Go.Eng
