/-
  Texts of this proof, merged: WGh, Zip, WGi, WGj, WKd, Bnd, WUn, WUp.
-/
import Derived.Test.YtbjbmpcgiokdaaaDoorMr2
import Derived.Test.YtbjbmpcgiokdaaaDoorMr5
import Derived.Test.YtbjbmpcgiokdaaaDoorMr4
set_option linter.unusedVariables false
set_option linter.unusedSimpArgs false
namespace Go.Eng
open Go Go.Proofs
set_option maxRecDepth 100000

theorem dmRead (b : Nat) (w : World) : (method (Tryd.prog.types.size + Made.depth) 157 (.pointer (some ⟨b, 0, none⟩)) "Read").run Tryd.prog w = .ok (119, .pointer (some ⟨b, 0, none⟩)) w := by
  obtain ⟨d, hd⟩ := depthS
  rw [hd]
  simp [method, Tryd.typeInfo157, Tryd.t157, Tryd.runUnderlying157, follow, receiverAt, Place.get]
theorem dmReset (b : Nat) (w : World) : (method (Tryd.prog.types.size + Made.depth) 157 (.pointer (some ⟨b, 0, none⟩)) "Reset").run Tryd.prog w = .ok (120, .pointer (some ⟨b, 0, none⟩)) w := by
  obtain ⟨d, hd⟩ := depthS
  rw [hd]
  simp [method, Tryd.typeInfo157, Tryd.t157, Tryd.runUnderlying157, follow, receiverAt, Place.get]

theorem dmBoth0 : (Tryd.prog.info? 157).map (fun i => (lacking #[("Reset", 127)] i.methods).isEmpty) = some true := by kernel_rfl
theorem dmBoth (want : Array (String × TypeId)) (h : Tryd.prog.underlying 126 = some (.interface want)) : (Tryd.prog.info? 157).map (fun i => (lacking want i.methods).isEmpty) = some true := by
  have h2 := (Tryd.underlying126).symm.trans h
  simp only [Option.some.injEq, TypeDesc.interface.injEq] at h2
  rw [← h2]
  exact dmBoth0
def isNilV : Value → Bool
  | .nilIface => true
  | _ => false
theorem DcIn.nil {dcv : Value} {DL : Frags} (h : DcIn dcv DL) (hn : isNilV dcv = true) : dcv = .nilIface ∧ DL = [] := by
  rcases h with h | ⟨fb, rfl, _⟩
  · exact h
  · exact absurd hn (by simp [isNilV])
theorem DcIn.dec {dcv : Value} {DL : Frags} (h : DcIn dcv DL) (hn : isNilV dcv = false) : ∃ fb, dcv = .iface 157 (.pointer (some ⟨fb, 0, none⟩)) ∧ DecRaw fb DL := by
  rcases h with ⟨rfl, _⟩ | h
  · exact absurd hn (by simp [isNilV])
  · exact h
theorem S.eqDc {K : Known} {n : Nat} {env : Env} {L : Frags} {ty t yT : TypeId} {x : Operand} {dcv : Value} {DL : Frags} {want : Array (String × TypeId)} (h : DcIn dcv DL) (hx : ev? env x = some dcv) (hu : Tryd.prog.underlying t = some (.interface want)) :
    OpS Tryd.prog K n (.binOp .eql t x (.const .nilIface) yT) ty env L (.bool (isNilV dcv)) := by
  rcases h with ⟨rfl, _⟩ | ⟨fb, rfl, _⟩
  · exact S.eqNilN hx hu
  · exact S.eqNilI hx hu


theorem E.shed {P : Program} {H0 : Known} {n : Nat} {ops : Array Oper} {l : List Oper} {env : Env} {L A F : Frags} {N : Post} (is : List Nat) (hp : picks is L = some (A, F)) (h : wpE P H0 n ops l env F N) : wpE P H0 n ops l env L N := by
  intro a w hf hw Q s
  have p := (picks_perm hp).trans List.perm_append_comm
  have hA : Agree H0 (F ++ A) w.heap := hw.perm p
  exact h a w hf hA.drop Q fun e l a' w' h f t => s e l a' w' h f ((To.frame hA t).drop.permL p)
/-- How readHeader ends. -/
def HeadEnd {K : Known} {ea : Fin 5 → Addr} (src : Src K ea) (l : List UInt8) (zb : Nat) (c0 c1 c2 c3 c4 c5 c9 dcv : Value) (DL : Frags) (r : Value) (L : Frags) : Prop :=
  ∃ hs f1 f2 f3 d2 bs2 hb, hs.length = 6 ∧ hs.all one = true ∧ r = .tuple #[.agg hs.toArray, Er.val ea (readHead l).1] ∧ src.At (readHead l).2.1 f1 f2 f3 ∧ bs2.length = 512 ∧ d2 < 4294967296 ∧
    (((readHead l).1 ≠ .none ∧ ∃ T, L = [f1, f2, f3, ⟨zb, 0, [c0, c1, c2, c3, c4, c5, .iface src.t src.v, dcv, .int .u32 ((d2 : Nat) : Int), c9]⟩, ⟨zb, 10, bs2⟩, ⟨hb, 0, hs⟩] ++ (T ++ DL)) ∨
     ((readHead l).1 = .none ∧ ∃ xa xn X fb DN, ExAt (readHead l).2.2.extra xa xn X ∧ hs = headV (readHead l).2.2 xa xn ∧ d2 = 0 ∧ DecNew src fb DN ∧
        L = [f1, f2, f3, ⟨zb, 0, [c0, c1, c2, c3, c4, c5, .iface src.t src.v, .iface 157 (.pointer (some ⟨fb, 0, none⟩)), .int .u32 ((d2 : Nat) : Int), c9]⟩, ⟨zb, 10, bs2⟩, ⟨hb, 0, hs⟩, X] ++ DN))

theorem readHeader_first {K : Known} {ea : Fin 5 → Addr} (hs : Sents K ea) (src : Src K ea) (l : List UInt8) (x1 x2 x3 : Frag) (zb d0 : Nat) (c0 c1 c2 c3 c4 c5 c9 dcv : Value) (bs0 : List Value) (DL : Frags) (hDL : DcIn dcv DL) (hA : src.At l x1 x2 x3) (hbs0 : bs0.length = 512) (hd0 : d0 < 4294967296) : Fn Tryd.prog K 48 #[.pointer (some ⟨zb, 0, none⟩)] ([x1, x2, x3, ⟨zb, 0, [c0, c1, c2, c3, c4, c5, .iface src.t src.v, dcv, .int .u32 ((d0 : Nat) : Int), c9]⟩, ⟨zb, 10, bs0⟩] ++ DL) (HeadEnd src l zb c0 c1 c2 c3 c4 c5 c9 dcv DL) := by
 refine Fn.intro (args := [.pointer (some ⟨zb, 0, none⟩)]) (RR := RetC1 2 6 3 _) Tryd.func48 rfl rfl Tryd.ntmps48 (resC1 Tryd.results48 Tryd.isAgg69 Tryd.sizeOf69) ?_
 refine C.reenv (env2 := [(0, .pointer (some ⟨zb, 0, none⟩))]) rfl ?_
 refine C.seq ?_
 refine C.region ?_
 refine E.loud1 (X.alloc Tryd.zeroValue69) rfl ?_; rintro _ _ ⟨b2, rfl, rfl⟩; refine E.relist (L2 := (_ :: _ :: _ :: _ :: _ :: _ :: _)) rfl ?_
 refine E.pure (S.assign (v := Er.val ea .none) rfl) rfl ?_
 refine E.same (Same.addEmpty (f := ⟨zb, 10, bs0⟩) (by simp) 0) ?_
 refine E.perml [2, 2, 2, 2, 2, 1, 0] (A := [_, _, _, _, _, _, _]) (F := DL) rfl ?_
 refine E.relist (L2 := [x1, x2, x3, ⟨zb, 0, [c0, c1, c2, c3, c4, c5, .iface src.t src.v, dcv, .int .u32 ((d0 : Nat) : Int), c9]⟩, ⟨zb, 10, bs0⟩, ⟨b2, 0, [.string ⟨#[]⟩, .slice none 0 0, .int .u64 0, .int .i64 (0), .string ⟨#[]⟩, .int .u8 0]⟩, ⟨zb, 0, []⟩] ++ DL) rfl ?_
 refine E.keep [0, 2, 3] (env1 := [(0, _), (2, _), (3, _)]) rfl ?_
 refine C.seq ?_
 refine C.seq ?_
 refine C.same (Same.splitAt (k := 10) 4 rfl rfl (List.take_append_drop 10 _).symm (by rw [List.length_take]; omega) rfl) ?_
 refine C.relist (L2 := [_, _, _, _, _, _, _, _] ++ DL) rfl ?_
 refine C.draw [0, 1, 2, 4, 0, 16, 32, 64, 136, 256, 512, 512, 4095] (.pure 0 240 (.pure 1 241 (.pure 2 243 (.pure 4 15 (.pure 5 31 (.pure 6 63 (.pure 7 127 (.seg [(3, 247)] (.alt 8 (.pure 9 511 (.pure 10 3071 (.pure 11 2047 (.pure 12 4095 .done)))) .stop))))))))) mixed (by decide +kernel) ?_
 refine D.pure rfl (S.move rfl) rfl ?_
 refine D.pure rfl (S.nilPtr rfl) rfl ?_
 refine D.pure rfl (S.field rfl fa76_1) rfl ?_
 refine D.pure rfl (S.move rfl) rfl ?_
 refine D.pure rfl (S.nilPtr rfl) rfl ?_
 refine D.pure rfl (S.field rfl fa76_5) rfl ?_
 refine D.pure rfl (S.slArr (l := 0) (k := .i64) (h := 10) rfl rfl rfl (by omega) (by omega) Tryd.underlying74 Tryd.sizeOf5) rfl ?_
 refine D.reslot (v := .slice (some ⟨zb, 10, none⟩) (10) (512)) (slice_to (by simp [part]) rfl rfl) ?_
 refine D.seg (by decide) ?_
 refine W.still rfl (S.load 5 (k := 6) rfl rfl rfl Tryd.isAgg71) rfl ?_
 refine W.nil ?_
 refine D.one ?_
 refine O.loud1 rfl (OpX.pick [2, 2, 2, 0] (F := (_ :: _ :: _ :: _ :: _)) rfl (X.call rfl Tryd.call45 (readFull_spec hs src l x1 x2 x3 zb 10 10 512 (List.take 10 _) hA (by rw [List.length_take]; omega) (by omega) (by omega)))) rfl ?_; rintro _ _ ⟨_, ⟨f1, f2, f3, hF, rfl, rfl⟩, rfl⟩; refine D.relist (L2 := (_ :: _ :: _ :: _ :: _ :: _ :: _ :: _ :: _)) rfl ?_
 refine D.pure rfl (S.move rfl) rfl ?_
 refine D.pure rfl (S.extract rfl rfl) rfl ?_
 refine D.pure rfl (S.extract rfl rfl) rfl ?_
 refine D.pure rfl (S.assign rfl) rfl ?_
 refine D.keep [0, 2, 3] (env1 := [(0, _), (2, _), (3, _)]) rfl ?_
 refine C.same (Same.joinAt 3 3 rfl rfl (by rw [show 10 + 10 = 10 + (10 : Nat) from rfl]; congr 1; simp only [List.length_append, bytesV_length, List.length_take, List.length_drop, min_i]; omega)) ?_
 refine C.perml [1, 1, 1, 1, 0, 0, 0] (A := [_, _, _, _, _, _, _]) (F := DL) rfl ?_
 refine C.relist (L2 := [_, _, _, _, _, _, _] ++ DL) rfl ?_
 refine C.seq ?_
 refine C.region ?_
 refine E.pure (S.move rfl) rfl ?_
 refine E.still (S.neErNil rfl) rfl ?_
 refine E.keep [0, 2, 3, 22] (env1 := [(0, _), (2, _), (3, _), (22, _)]) rfl ?_
 first | refine C.ifp rfl (fun h22 => ?_) (fun h22 => ?_) | refine C.ifNone rfl (fun h22 => ?_) (fun h22 => ?_) | refine C.ifSome rfl (fun h22 => ?_) (fun h22 => ?_) | refine C.ifSe rfl (fun h22 => ?_) (fun h22 => ?_) | refine C.ifNotSe rfl (fun h22 => ?_) (fun h22 => ?_) | refine C.cond rfl (fun h22 => ?_) (fun h22 => ?_)
 ·
  refine C.seq ?_
  refine C.region ?_
  refine E.still (S.loadA 5 (k := 0) rfl rfl rfl rfl Tryd.isAgg69 Tryd.sizeOf69) rfl ?_
  refine E.pure (S.move rfl) rfl ?_
  refine E.loud0 (X.storeA 5 (k := 0) rfl rfl rfl rfl rfl rfl Tryd.sizeOf69 rfl) ?_; rintro _ _ ⟨rfl, rfl⟩; refine E.relist (L2 := (_ :: _ :: _ :: _ :: _ :: _ :: _ :: _)) rfl ?_
  refine E.pure (S.assign rfl) rfl ?_
  refine E.keep [0, 2, 3, 22] (env1 := [(0, _), (2, _), (3, _), (22, _)]) rfl ?_
  refine C.ret ?_
  have hRR := readHead_bad h22
  refine ⟨_, _, ⟨_, _, 5, rfl, rfl, rfl⟩, rfl, _, _, _, _, _, _, _, rfl, rfl, ?_, ?_, ?_, ?_, .inl ⟨?_, [_], rfl⟩⟩
  · first | (rw [hRR]; done) | (rw [hRR]; rfl)
  · rw [hRR]; exact hF
  · rw [buf_join (by omega)]; exact hbs0
  · assumption
  · rw [hRR]; first | assumption | (exact noEof_ne (by assumption)) | simp
 ·
  rw [h22]
  obtain ⟨v0, v1, v2, v3, v4, v5, v6, v7, v8, v9, r, hl⟩ := ten h22
  have hv0 := v0.toNat_lt
  have hv1 := v1.toNat_lt
  have hv2 := v2.toNat_lt
  have hv3 := v3.toNat_lt
  have hv4 := v4.toNat_lt
  have hv5 := v5.toNat_lt
  have hv6 := v6.toNat_lt
  have hv7 := v7.toNat_lt
  have hv8 := v8.toNat_lt
  have hv9 := v9.toNat_lt
  have hle := le32_lt hv4 hv5 hv6 hv7
  refine C.relist (L2 := [f1, f2, f3, ⟨zb, 0, [c0, c1, c2, c3, c4, c5, .iface src.t src.v, dcv, .int .u32 ((d0 : Nat) : Int), c9]⟩, ⟨zb, 10, u8 v0 :: u8 v1 :: u8 v2 :: u8 v3 :: u8 v4 :: u8 v5 :: u8 v6 :: u8 v7 :: u8 v8 :: u8 v9 :: bs0.drop 10⟩, ⟨b2, 0, [.string ⟨#[]⟩, .slice none 0 0, .int .u64 0, .int .i64 (0), .string ⟨#[]⟩, .int .u8 0]⟩, ⟨zb, 0, []⟩] ++ DL) (by rw [buf_full (full_len h22), hl]; rfl) ?_
  rw [show l.drop 10 = r by rw [hl]; rfl] at hF
  refine C.skip ?_
  refine C.seq ?_
  refine C.seq ?_
  refine C.region ?_
  refine E.pure (S.move rfl) rfl ?_
  refine E.pure (S.nilPtr rfl) rfl ?_
  refine E.pure (S.field rfl fa76_5) rfl ?_
  refine E.pure (S.ixArr (i := 0) rfl rfl (by omega) Tryd.underlying74 Tryd.sizeOf5) rfl ?_
  refine E.still (S.load 4 (k := 0) rfl rfl rfl Tryd.isAgg5) rfl ?_
  refine E.pure (S.ne (b := ((31 : Nat) : Int)) rfl rfl) rfl ?_
  refine E.pure (S.move rfl) rfl ?_
  refine E.fork (fun g31 => ?_) (fun g31 => ?_)
  ·
   refine E.guardNo 31 true rfl rfl rfl rfl ?_
   refine E.guardNo 31 true rfl rfl rfl rfl ?_
   refine E.guardNo 31 true rfl rfl rfl rfl ?_
   refine E.guardNo 31 true rfl rfl rfl rfl ?_
   refine E.guardNo 31 true rfl rfl rfl rfl ?_
   refine E.guardNo 31 true rfl rfl rfl rfl ?_
   refine E.pure (S.pickT rfl rfl) rfl ?_
   refine E.pure (S.move rfl) rfl ?_
   refine E.guardNo 39 true rfl rfl rfl rfl ?_
   refine E.guardNo 39 true rfl rfl rfl rfl ?_
   refine E.guardNo 39 true rfl rfl rfl rfl ?_
   refine E.guardNo 39 true rfl rfl rfl rfl ?_
   refine E.guardNo 39 true rfl rfl rfl rfl ?_
   refine E.guardNo 39 true rfl rfl rfl rfl ?_
   refine E.pure (S.pickT rfl rfl) rfl ?_
   refine E.keep [0, 2, 3, 22, 46] (env1 := [(0, _), (2, _), (3, _), (22, _), (46, _)]) rfl ?_
   refine C.yes rfl (rfl) ?_
   refine C.seq ?_
   refine C.draw [0, 0, 1, 7] (.alt 0 (.alt 1 (.alt 2 (.pure 3 7 .done) .stop) (.alt 2 (.seg [(1, 5), (3, 7)] .done) .stop)) (.alt 1 (.seg [(0, 2)] (.alt 2 (.pure 3 7 .done) .stop)) .stop)) mixed (by decide +kernel) ?_
   refine D.alt ?_ ⟨?_, trivial⟩
   ·
    refine O.still rfl (S.loadA 5 (k := 0) rfl rfl rfl rfl Tryd.isAgg69 Tryd.sizeOf69) rfl ?_
    refine D.alt ?_ ⟨?_, trivial⟩
    ·
     refine O.still rfl (S.loadBase rfl hs.g1 Tryd.isAgg59) rfl ?_
     refine D.one ?_
     refine O.loud0 rfl (X.storeA 5 (k := 0) rfl rfl rfl rfl rfl rfl Tryd.sizeOf69 rfl) ?_; rintro _ _ ⟨rfl, rfl⟩; refine D.relist (L2 := (_ :: _ :: _ :: _ :: _ :: _ :: _ :: _)) rfl ?_
     refine D.pure rfl (S.assign rfl) rfl ?_
     refine D.keep [0, 2, 3, 22, 46] (env1 := [(0, _), (2, _), (3, _), (22, _), (46, _)]) rfl ?_
     refine C.ret ?_
     have hRR : readHead l = (.header, r, noHd) := by rw [hl, readHead_cons, if_neg (by omega)]
     refine ⟨_, _, ⟨_, _, 5, rfl, rfl, rfl⟩, rfl, _, _, _, _, _, _, _, rfl, rfl, ?_, ?_, ?_, ?_, .inl ⟨?_, [_], rfl⟩⟩
     · rw [hRR]; done
     · rw [hRR]; exact hF
     · simp only [List.length_cons, List.length_drop]; omega
     · assumption
     · rw [hRR]; first | assumption | (exact noEof_ne (by assumption)) | simp
    ·
     refine O.loud0 rfl (X.storeA 5 (k := 0) rfl rfl rfl rfl rfl rfl Tryd.sizeOf69 rfl) ?_; rintro _ _ ⟨rfl, rfl⟩; refine D.relist (L2 := (_ :: _ :: _ :: _ :: _ :: _ :: _ :: _)) rfl ?_
     refine D.seg (by decide) ?_
     refine W.still rfl (S.loadBase rfl hs.g1 Tryd.isAgg59) rfl ?_
     refine W.pure rfl (S.assign rfl) rfl ?_
     refine W.nil ?_
     refine D.keep [0, 2, 3, 22, 46] (env1 := [(0, _), (2, _), (3, _), (22, _), (46, _)]) rfl ?_
     refine C.ret ?_
     have hRR : readHead l = (.header, r, noHd) := by rw [hl, readHead_cons, if_neg (by omega)]
     refine ⟨_, _, ⟨_, _, 5, rfl, rfl, rfl⟩, rfl, _, _, _, _, _, _, _, rfl, rfl, ?_, ?_, ?_, ?_, .inl ⟨?_, [_], rfl⟩⟩
     · rw [hRR]; done
     · rw [hRR]; exact hF
     · simp only [List.length_cons, List.length_drop]; omega
     · assumption
     · rw [hRR]; first | assumption | (exact noEof_ne (by assumption)) | simp
   ·
    refine O.still rfl (S.loadBase rfl hs.g1 Tryd.isAgg59) rfl ?_
    refine D.seg (by decide) ?_
    refine W.still rfl (S.loadA 5 (k := 0) rfl rfl rfl rfl Tryd.isAgg69 Tryd.sizeOf69) rfl ?_
    refine W.nil ?_
    refine D.one ?_
    refine O.loud0 rfl (X.storeA 5 (k := 0) rfl rfl rfl rfl rfl rfl Tryd.sizeOf69 rfl) ?_; rintro _ _ ⟨rfl, rfl⟩; refine D.relist (L2 := (_ :: _ :: _ :: _ :: _ :: _ :: _ :: _)) rfl ?_
    refine D.pure rfl (S.assign rfl) rfl ?_
    refine D.keep [0, 2, 3, 22, 46] (env1 := [(0, _), (2, _), (3, _), (22, _), (46, _)]) rfl ?_
    refine C.ret ?_
    have hRR : readHead l = (.header, r, noHd) := by rw [hl, readHead_cons, if_neg (by omega)]
    refine ⟨_, _, ⟨_, _, 5, rfl, rfl, rfl⟩, rfl, _, _, _, _, _, _, _, rfl, rfl, ?_, ?_, ?_, ?_, .inl ⟨?_, [_], rfl⟩⟩
    · rw [hRR]; done
    · rw [hRR]; exact hF
    · simp only [List.length_cons, List.length_drop]; omega
    · assumption
    · rw [hRR]; first | assumption | (exact noEof_ne (by assumption)) | simp
  ·
   refine E.wanted 31 rfl rfl ?_
   refine E.pure (S.move rfl) rfl ?_
   refine E.wanted 31 rfl rfl ?_
   refine E.pure (S.nilPtr rfl) rfl ?_
   refine E.wanted 31 rfl rfl ?_
   refine E.pure (S.field rfl fa76_5) rfl ?_
   refine E.wanted 31 rfl rfl ?_
   refine E.pure (S.ixArr (i := 1) rfl rfl (by omega) Tryd.underlying74 Tryd.sizeOf5) rfl ?_
   refine E.wanted 31 rfl rfl ?_
   refine E.still (S.load 4 (k := 1) rfl rfl rfl Tryd.isAgg5) rfl ?_
   refine E.wanted 31 rfl rfl ?_
   refine E.pure (S.ne (b := ((139 : Nat) : Int)) rfl rfl) rfl ?_
   refine E.pure (S.pickF rfl rfl) rfl ?_
   refine E.pure (S.move rfl) rfl ?_
   refine E.fork (fun g39 => ?_) (fun g39 => ?_)
   ·
    refine E.guardNo 39 true rfl rfl rfl rfl ?_
    refine E.guardNo 39 true rfl rfl rfl rfl ?_
    refine E.guardNo 39 true rfl rfl rfl rfl ?_
    refine E.guardNo 39 true rfl rfl rfl rfl ?_
    refine E.guardNo 39 true rfl rfl rfl rfl ?_
    refine E.guardNo 39 true rfl rfl rfl rfl ?_
    refine E.pure (S.pickT rfl rfl) rfl ?_
    refine E.keep [0, 2, 3, 22, 46] (env1 := [(0, _), (2, _), (3, _), (22, _), (46, _)]) rfl ?_
    refine C.yes rfl (rfl) ?_
    refine C.seq ?_
    refine C.draw [0, 0, 1, 7] (.alt 0 (.alt 1 (.alt 2 (.pure 3 7 .done) .stop) (.alt 2 (.seg [(1, 5), (3, 7)] .done) .stop)) (.alt 1 (.seg [(0, 2)] (.alt 2 (.pure 3 7 .done) .stop)) .stop)) mixed (by decide +kernel) ?_
    refine D.alt ?_ ⟨?_, trivial⟩
    ·
     refine O.still rfl (S.loadA 5 (k := 0) rfl rfl rfl rfl Tryd.isAgg69 Tryd.sizeOf69) rfl ?_
     refine D.alt ?_ ⟨?_, trivial⟩
     ·
      refine O.still rfl (S.loadBase rfl hs.g1 Tryd.isAgg59) rfl ?_
      refine D.one ?_
      refine O.loud0 rfl (X.storeA 5 (k := 0) rfl rfl rfl rfl rfl rfl Tryd.sizeOf69 rfl) ?_; rintro _ _ ⟨rfl, rfl⟩; refine D.relist (L2 := (_ :: _ :: _ :: _ :: _ :: _ :: _ :: _)) rfl ?_
      refine D.pure rfl (S.assign rfl) rfl ?_
      refine D.keep [0, 2, 3, 22, 46] (env1 := [(0, _), (2, _), (3, _), (22, _), (46, _)]) rfl ?_
      refine C.ret ?_
      have hRR : readHead l = (.header, r, noHd) := by rw [hl, readHead_cons, if_neg (by omega)]
      refine ⟨_, _, ⟨_, _, 5, rfl, rfl, rfl⟩, rfl, _, _, _, _, _, _, _, rfl, rfl, ?_, ?_, ?_, ?_, .inl ⟨?_, [_], rfl⟩⟩
      · rw [hRR]; done
      · rw [hRR]; exact hF
      · simp only [List.length_cons, List.length_drop]; omega
      · assumption
      · rw [hRR]; first | assumption | (exact noEof_ne (by assumption)) | simp
     ·
      refine O.loud0 rfl (X.storeA 5 (k := 0) rfl rfl rfl rfl rfl rfl Tryd.sizeOf69 rfl) ?_; rintro _ _ ⟨rfl, rfl⟩; refine D.relist (L2 := (_ :: _ :: _ :: _ :: _ :: _ :: _ :: _)) rfl ?_
      refine D.seg (by decide) ?_
      refine W.still rfl (S.loadBase rfl hs.g1 Tryd.isAgg59) rfl ?_
      refine W.pure rfl (S.assign rfl) rfl ?_
      refine W.nil ?_
      refine D.keep [0, 2, 3, 22, 46] (env1 := [(0, _), (2, _), (3, _), (22, _), (46, _)]) rfl ?_
      refine C.ret ?_
      have hRR : readHead l = (.header, r, noHd) := by rw [hl, readHead_cons, if_neg (by omega)]
      refine ⟨_, _, ⟨_, _, 5, rfl, rfl, rfl⟩, rfl, _, _, _, _, _, _, _, rfl, rfl, ?_, ?_, ?_, ?_, .inl ⟨?_, [_], rfl⟩⟩
      · rw [hRR]; done
      · rw [hRR]; exact hF
      · simp only [List.length_cons, List.length_drop]; omega
      · assumption
      · rw [hRR]; first | assumption | (exact noEof_ne (by assumption)) | simp
    ·
     refine O.still rfl (S.loadBase rfl hs.g1 Tryd.isAgg59) rfl ?_
     refine D.seg (by decide) ?_
     refine W.still rfl (S.loadA 5 (k := 0) rfl rfl rfl rfl Tryd.isAgg69 Tryd.sizeOf69) rfl ?_
     refine W.nil ?_
     refine D.one ?_
     refine O.loud0 rfl (X.storeA 5 (k := 0) rfl rfl rfl rfl rfl rfl Tryd.sizeOf69 rfl) ?_; rintro _ _ ⟨rfl, rfl⟩; refine D.relist (L2 := (_ :: _ :: _ :: _ :: _ :: _ :: _ :: _)) rfl ?_
     refine D.pure rfl (S.assign rfl) rfl ?_
     refine D.keep [0, 2, 3, 22, 46] (env1 := [(0, _), (2, _), (3, _), (22, _), (46, _)]) rfl ?_
     refine C.ret ?_
     have hRR : readHead l = (.header, r, noHd) := by rw [hl, readHead_cons, if_neg (by omega)]
     refine ⟨_, _, ⟨_, _, 5, rfl, rfl, rfl⟩, rfl, _, _, _, _, _, _, _, rfl, rfl, ?_, ?_, ?_, ?_, .inl ⟨?_, [_], rfl⟩⟩
     · rw [hRR]; done
     · rw [hRR]; exact hF
     · simp only [List.length_cons, List.length_drop]; omega
     · assumption
     · rw [hRR]; first | assumption | (exact noEof_ne (by assumption)) | simp
   ·
    refine E.wanted 39 rfl rfl ?_
    refine E.pure (S.move rfl) rfl ?_
    refine E.wanted 39 rfl rfl ?_
    refine E.pure (S.nilPtr rfl) rfl ?_
    refine E.wanted 39 rfl rfl ?_
    refine E.pure (S.field rfl fa76_5) rfl ?_
    refine E.wanted 39 rfl rfl ?_
    refine E.pure (S.ixArr (i := 2) rfl rfl (by omega) Tryd.underlying74 Tryd.sizeOf5) rfl ?_
    refine E.wanted 39 rfl rfl ?_
    refine E.still (S.load 4 (k := 2) rfl rfl rfl Tryd.isAgg5) rfl ?_
    refine E.wanted 39 rfl rfl ?_
    refine E.pure (S.ne (b := ((8 : Nat) : Int)) rfl rfl) rfl ?_
    refine E.pure (S.pickF rfl rfl) rfl ?_
    refine E.keep [0, 2, 3, 22, 46] (env1 := [(0, _), (2, _), (3, _), (22, _), (46, _)]) rfl ?_
    refine C.ifp rfl (fun h46 => ?_) (fun h46 => ?_)
    ·
     refine C.seq ?_
     refine C.draw [0, 0, 1, 7] (.alt 0 (.alt 1 (.alt 2 (.pure 3 7 .done) .stop) (.alt 2 (.seg [(1, 5), (3, 7)] .done) .stop)) (.alt 1 (.seg [(0, 2)] (.alt 2 (.pure 3 7 .done) .stop)) .stop)) mixed (by decide +kernel) ?_
     refine D.alt ?_ ⟨?_, trivial⟩
     ·
      refine O.still rfl (S.loadA 5 (k := 0) rfl rfl rfl rfl Tryd.isAgg69 Tryd.sizeOf69) rfl ?_
      refine D.alt ?_ ⟨?_, trivial⟩
      ·
       refine O.still rfl (S.loadBase rfl hs.g1 Tryd.isAgg59) rfl ?_
       refine D.one ?_
       refine O.loud0 rfl (X.storeA 5 (k := 0) rfl rfl rfl rfl rfl rfl Tryd.sizeOf69 rfl) ?_; rintro _ _ ⟨rfl, rfl⟩; refine D.relist (L2 := (_ :: _ :: _ :: _ :: _ :: _ :: _ :: _)) rfl ?_
       refine D.pure rfl (S.assign rfl) rfl ?_
       refine D.keep [0, 2, 3, 22, 46] (env1 := [(0, _), (2, _), (3, _), (22, _), (46, _)]) rfl ?_
       refine C.ret ?_
       have hRR : readHead l = (.header, r, noHd) := by rw [hl, readHead_cons, if_neg (by omega)]
       refine ⟨_, _, ⟨_, _, 5, rfl, rfl, rfl⟩, rfl, _, _, _, _, _, _, _, rfl, rfl, ?_, ?_, ?_, ?_, .inl ⟨?_, [_], rfl⟩⟩
       · rw [hRR]; done
       · rw [hRR]; exact hF
       · simp only [List.length_cons, List.length_drop]; omega
       · assumption
       · rw [hRR]; first | assumption | (exact noEof_ne (by assumption)) | simp
      ·
       refine O.loud0 rfl (X.storeA 5 (k := 0) rfl rfl rfl rfl rfl rfl Tryd.sizeOf69 rfl) ?_; rintro _ _ ⟨rfl, rfl⟩; refine D.relist (L2 := (_ :: _ :: _ :: _ :: _ :: _ :: _ :: _)) rfl ?_
       refine D.seg (by decide) ?_
       refine W.still rfl (S.loadBase rfl hs.g1 Tryd.isAgg59) rfl ?_
       refine W.pure rfl (S.assign rfl) rfl ?_
       refine W.nil ?_
       refine D.keep [0, 2, 3, 22, 46] (env1 := [(0, _), (2, _), (3, _), (22, _), (46, _)]) rfl ?_
       refine C.ret ?_
       have hRR : readHead l = (.header, r, noHd) := by rw [hl, readHead_cons, if_neg (by omega)]
       refine ⟨_, _, ⟨_, _, 5, rfl, rfl, rfl⟩, rfl, _, _, _, _, _, _, _, rfl, rfl, ?_, ?_, ?_, ?_, .inl ⟨?_, [_], rfl⟩⟩
       · rw [hRR]; done
       · rw [hRR]; exact hF
       · simp only [List.length_cons, List.length_drop]; omega
       · assumption
       · rw [hRR]; first | assumption | (exact noEof_ne (by assumption)) | simp
     ·
      refine O.still rfl (S.loadBase rfl hs.g1 Tryd.isAgg59) rfl ?_
      refine D.seg (by decide) ?_
      refine W.still rfl (S.loadA 5 (k := 0) rfl rfl rfl rfl Tryd.isAgg69 Tryd.sizeOf69) rfl ?_
      refine W.nil ?_
      refine D.one ?_
      refine O.loud0 rfl (X.storeA 5 (k := 0) rfl rfl rfl rfl rfl rfl Tryd.sizeOf69 rfl) ?_; rintro _ _ ⟨rfl, rfl⟩; refine D.relist (L2 := (_ :: _ :: _ :: _ :: _ :: _ :: _ :: _)) rfl ?_
      refine D.pure rfl (S.assign rfl) rfl ?_
      refine D.keep [0, 2, 3, 22, 46] (env1 := [(0, _), (2, _), (3, _), (22, _), (46, _)]) rfl ?_
      refine C.ret ?_
      have hRR : readHead l = (.header, r, noHd) := by rw [hl, readHead_cons, if_neg (by omega)]
      refine ⟨_, _, ⟨_, _, 5, rfl, rfl, rfl⟩, rfl, _, _, _, _, _, _, _, rfl, rfl, ?_, ?_, ?_, ?_, .inl ⟨?_, [_], rfl⟩⟩
      · rw [hRR]; done
      · rw [hRR]; exact hF
      · simp only [List.length_cons, List.length_drop]; omega
      · assumption
      · rw [hRR]; first | assumption | (exact noEof_ne (by assumption)) | simp
    ·
     refine C.skip ?_
     refine C.seq ?_
     refine C.region ?_
     refine E.pure (S.move rfl) rfl ?_
     refine E.pure (S.nilPtr rfl) rfl ?_
     refine E.pure (S.field rfl fa76_5) rfl ?_
     refine E.pure (S.ixArr (i := 3) rfl rfl (by omega) Tryd.underlying74 Tryd.sizeOf5) rfl ?_
     refine E.still (S.load 4 (k := 3) rfl rfl rfl Tryd.isAgg5) rfl ?_
     refine E.pure (S.assign rfl) rfl ?_
     refine E.keep [0, 2, 3, 4, 22, 46] (env1 := [(0, _), (2, _), (3, _), (4, _), (22, _), (46, _)]) rfl ?_
     refine C.cut (M := fun ee ll => keeps ee [0, 2, 3, 4] = some [(0, .pointer (some ⟨zb, 0, none⟩)), (2, .pointer (some ⟨b2, 0, none⟩)), (3, Er.val ea .none), (4, .int .u8 ((v3.toNat : Nat) : Int))] ∧ ll = [f1, f2, f3, ⟨zb, 0, [c0, c1, c2, c3, c4, c5, .iface src.t src.v, dcv, .int .u32 ((d0 : Nat) : Int), c9]⟩, ⟨zb, 10, u8 v0 :: u8 v1 :: u8 v2 :: u8 v3 :: u8 v4 :: u8 v5 :: u8 v6 :: u8 v7 :: u8 v8 :: u8 v9 :: bs0.drop 10⟩, ⟨b2, 0, [.string ⟨#[]⟩, .slice none 0 0, .int .u64 0, .int .i64 (timeV (le32 v4.toNat v5.toNat v6.toNat v7.toNat)), .string ⟨#[]⟩, .int .u8 0]⟩, ⟨zb, 0, []⟩] ++ DL) ?_ ?_
     ·
      refine C.seq ?_
      refine C.region ?_
      refine E.pure (S.move rfl) rfl ?_
      refine E.pure (S.nilPtr rfl) rfl ?_
      refine E.pure (S.field rfl fa76_5) rfl ?_
      refine E.pure (S.slArr (l := 4) (h := 8) rfl rfl rfl (by omega) (by omega) Tryd.underlying74 Tryd.sizeOf5) rfl ?_
      refine E.reslot (v := .slice (some ⟨zb, 14, none⟩) (4) (508)) (slice_to (by simp [part]) rfl rfl) ?_
      refine E.loud1 (X.call rfl Tryd.call47 (le32_spec zb 14 4 508 v4 v5 v6 v7 [] (by omega) (Reads.frag (i := 4) (k := 4) rfl rfl))) rfl ?_; rintro _ _ ⟨rfl, rfl⟩; refine E.relist (L2 := (_ :: _ :: _ :: _ :: _ :: _ :: _ :: _)) rfl ?_
      refine E.pure (S.conv rfl Tryd.underlying52 Tryd.underlying2 (N.i64n (by omega))) rfl ?_
      refine E.pure (S.assign rfl) rfl ?_
      refine E.keep [0, 2, 3, 4, 5, 22, 46] (env1 := [(0, _), (2, _), (3, _), (4, _), (5, _), (22, _), (46, _)]) rfl ?_
      refine C.seq ?_
      refine C.region ?_
      refine E.pure (S.move rfl) rfl ?_
      refine E.pure (S.gt (b := ((0 : Nat) : Int)) rfl rfl) rfl ?_
      refine E.keep [0, 2, 3, 4, 5, 22, 46, 61] (env1 := [(0, _), (2, _), (3, _), (4, _), (5, _), (22, _), (46, _), (61, _)]) rfl ?_
      refine C.ifp rfl (fun h61 => ?_) (fun h61 => ?_)
      ·
       refine C.region ?_
       refine E.pure (S.move rfl) rfl ?_
       refine E.loud1 (OpX.pick [] (F := (_ :: _ :: _ :: _ :: _ :: _ :: _ :: _)) rfl (X.call rfl Tryd.call55 (unix_spec (le32 v4.toNat v5.toNat v6.toNat v7.toNat) (by omega)))) rfl ?_; rintro _ _ ⟨_, ⟨q1, q2, rfl, rfl⟩, rfl⟩; refine E.relist (L2 := (_ :: _ :: _ :: _ :: _ :: _ :: _ :: _ :: _ :: _)) rfl ?_
       refine E.perml [2, 2, 2, 2, 2, 2, 2] (A := [_, _, _, _, _, _, _]) (F := [_, _] ++ DL) rfl ?_
       refine E.shed [7, 7] (A := [_, _]) (F := [_, _, _, _, _, _, _] ++ DL) rfl ?_
       refine E.pure (S.field rfl fa69_2) rfl ?_
       refine E.loud0 (X.storeA 5 (k := 2) rfl rfl rfl rfl rfl rfl Tryd.sizeOf67 rfl) ?_; rintro _ _ ⟨rfl, rfl⟩; refine E.relist (L2 := (_ :: _ :: _ :: _ :: _ :: _ :: _ :: _)) rfl ?_
       refine E.keep [0, 2, 3, 4, 5, 22, 46, 61] (env1 := [(0, _), (2, _), (3, _), (4, _), (5, _), (22, _), (46, _), (61, _)]) rfl ?_
       exact ⟨rfl, congrArg (fun x : Int => [f1, f2, f3, ⟨zb, 0, [c0, c1, c2, c3, c4, c5, .iface src.t src.v, dcv, .int .u32 ((d0 : Nat) : Int), c9]⟩, ⟨zb, 10, u8 v0 :: u8 v1 :: u8 v2 :: u8 v3 :: u8 v4 :: u8 v5 :: u8 v6 :: u8 v7 :: u8 v8 :: u8 v9 :: bs0.drop 10⟩, (⟨b2, 0, [.string ⟨#[]⟩, .slice none 0 0, .int .u64 0, .int .i64 (x), .string ⟨#[]⟩, .int .u8 0]⟩ : Frag), ⟨zb, 0, []⟩] ++ DL) (timeV_pos h61)⟩
      ·
       refine C.skip ?_
       first | exact ⟨rfl, congrArg (fun x : Int => [f1, f2, f3, ⟨zb, 0, [c0, c1, c2, c3, c4, c5, .iface src.t src.v, dcv, .int .u32 ((d0 : Nat) : Int), c9]⟩, ⟨zb, 10, u8 v0 :: u8 v1 :: u8 v2 :: u8 v3 :: u8 v4 :: u8 v5 :: u8 v6 :: u8 v7 :: u8 v8 :: u8 v9 :: bs0.drop 10⟩, (⟨b2, 0, [.string ⟨#[]⟩, .slice none 0 0, .int .u64 0, .int .i64 (x), .string ⟨#[]⟩, .int .u8 0]⟩ : Frag), ⟨zb, 0, []⟩] ++ DL) (timeV_pos h61)⟩ | exact ⟨rfl, congrArg (fun x : Int => [f1, f2, f3, ⟨zb, 0, [c0, c1, c2, c3, c4, c5, .iface src.t src.v, dcv, .int .u32 ((d0 : Nat) : Int), c9]⟩, ⟨zb, 10, u8 v0 :: u8 v1 :: u8 v2 :: u8 v3 :: u8 v4 :: u8 v5 :: u8 v6 :: u8 v7 :: u8 v8 :: u8 v9 :: bs0.drop 10⟩, (⟨b2, 0, [.string ⟨#[]⟩, .slice none 0 0, .int .u64 0, .int .i64 (x), .string ⟨#[]⟩, .int .u8 0]⟩ : Frag), ⟨zb, 0, []⟩] ++ DL) (timeV_zero h61)⟩
     ·
      rintro _ _ ⟨hq10, rfl⟩
      refine C.weaken _ hq10 ?_
      refine C.seq ?_
      refine C.region ?_
      refine E.pure (S.move rfl) rfl ?_
      refine E.pure (S.nilPtr rfl) rfl ?_
      refine E.pure (S.field rfl fa76_5) rfl ?_
      refine E.pure (S.ixArr (i := 9) rfl rfl (by omega) Tryd.underlying74 Tryd.sizeOf5) rfl ?_
      refine E.still (S.load 4 (k := 9) rfl rfl rfl Tryd.isAgg5) rfl ?_
      refine E.pure (S.field rfl fa69_4) rfl ?_
      refine E.loud0 (X.store 5 (k := 5) rfl rfl rfl rfl rfl Tryd.sizeOf5) ?_; rintro _ _ ⟨rfl, rfl⟩; refine E.relist (L2 := (_ :: _ :: _ :: _ :: _ :: _ :: _ :: _)) rfl ?_
      refine E.keep [0, 2, 3, 4] (env1 := [(0, _), (2, _), (3, _), (4, _)]) rfl ?_
      refine C.cut (M := fun ee ll => ∃ (l2 : List UInt8), ∃ (d : Nat), ∃ (h : Hd), ∃ (bs : List Value), ∃ (hb : Nat), ∃ (xa : Option Addr), ∃ (xn : Nat), ∃ (xf : Frag), ∃ (f1 : Frag), ∃ (f2 : Frag), ∃ (f3 : Frag), keeps ee [0, 2, 3, 4] = some [(0, .pointer (some ⟨zb, 0, none⟩)), (2, .pointer (some ⟨hb, 0, none⟩)), (3, Er.val ea .none), (4, .int .u8 ((v3.toNat : Nat) : Int))] ∧ ll = [f1, f2, f3, ⟨zb, 0, [c0, c1, c2, c3, c4, c5, .iface src.t src.v, dcv, .int .u32 ((d : Nat) : Int), c9]⟩, ⟨zb, 10, bs⟩, ⟨hb, 0, [.string h.comment, .slice xa xn xn, .int .u64 0, .int .i64 (timeV h.mod), .string h.name, .int .u8 ((h.os : Nat) : Int)]⟩, xf] ++ DL ∧ (readHead l = rd1 l2 v3.toNat d h) ∧ (src.At l2 f1 f2 f3) ∧ (bs.length = 512) ∧ (d < 4294967296) ∧ (ExAt h.extra xa xn xf)) ?_ ?_
      ·
       refine C.region ?_
       refine E.pure (S.move rfl) rfl ?_
       refine E.pure (S.move rfl) rfl ?_
       refine E.pure (S.nilPtr rfl) rfl ?_
       refine E.pure (S.field rfl fa76_5) rfl ?_
       refine E.pure (S.slArr (l := 0) (k := .i64) (h := 10) rfl rfl rfl (by omega) (by omega) Tryd.underlying74 Tryd.sizeOf5) rfl ?_
       refine E.reslot (v := .slice (some ⟨zb, 10, none⟩) (10) (512)) (slice_to (by simp [part]) rfl rfl) ?_
       refine E.loud1 (X.call rfl Tryd.call56 (ChecksumIEEE_spec zb 10 512 [v0, v1, v2, v3, v4, v5, v6, v7, v8, v9] (Reads.frag (i := 4) (k := 0) rfl rfl) (by simp) (by simp))) rfl ?_; rintro _ _ ⟨rfl, rfl⟩; refine E.relist (L2 := (_ :: _ :: _ :: _ :: _ :: _ :: _ :: _)) rfl ?_
       refine E.pure (S.nilPtr rfl) rfl ?_
       refine E.pure (S.field rfl fa76_3) rfl ?_
       refine E.loud0 (X.store 3 (k := 8) rfl rfl rfl rfl rfl Tryd.sizeOf52) ?_; rintro _ _ ⟨rfl, rfl⟩; refine E.relist (L2 := (_ :: _ :: _ :: _ :: _ :: _ :: _ :: _)) rfl ?_
       refine E.keep [0, 2, 3, 4] (env1 := [(0, _), (2, _), (3, _), (4, _)]) rfl ?_
       exact ⟨r, crcOn IEEE 0 [v0, v1, v2, v3, v4, v5, v6, v7, v8, v9], { noHd with mod := le32 v4.toNat v5.toNat v6.toNat v7.toNat, os := v9.toNat }, _, b2, none, 0, ⟨zb, 0, []⟩, f1, f2, f3, rfl, rfl, by rw [hl, readHead_cons, if_pos (by omega)], hF, by simp only [List.length_cons, List.length_drop]; omega, crcOn_lt (by decide) (by decide) _, ⟨rfl, rfl, rfl⟩⟩
      ·
       rintro _ _ ⟨l2, d, h, bs, hb, xa, xn, xf, f1, f2, f3, hq12, rfl, hR, hG, hbs, hd, hX⟩
       refine C.weaken _ hq12 ?_
       refine C.cut (M := fun ee ll => ∃ (l2 : List UInt8), ∃ (d : Nat), ∃ (h : Hd), ∃ (bs : List Value), ∃ (hb : Nat), ∃ (xa : Option Addr), ∃ (xn : Nat), ∃ (xf : Frag), ∃ (f1 : Frag), ∃ (f2 : Frag), ∃ (f3 : Frag), keeps ee [0, 2, 3, 4] = some [(0, .pointer (some ⟨zb, 0, none⟩)), (2, .pointer (some ⟨hb, 0, none⟩)), (3, Er.val ea .none), (4, .int .u8 ((v3.toNat : Nat) : Int))] ∧ ll = [f1, f2, f3, ⟨zb, 0, [c0, c1, c2, c3, c4, c5, .iface src.t src.v, dcv, .int .u32 ((d : Nat) : Int), c9]⟩, ⟨zb, 10, bs⟩, ⟨hb, 0, [.string h.comment, .slice xa xn xn, .int .u64 0, .int .i64 (timeV h.mod), .string h.name, .int .u8 ((h.os : Nat) : Int)]⟩, xf] ++ DL ∧ (readHead l = rd2 l2 v3.toNat d h) ∧ (src.At l2 f1 f2 f3) ∧ (bs.length = 512) ∧ (d < 4294967296) ∧ (ExAt h.extra xa xn xf)) ?_ ?_
       ·
        refine C.seq ?_
        refine C.region ?_
        refine E.pure (S.move rfl) rfl ?_
        refine E.pure (S.and (b := ((4 : Nat) : Int)) rfl rfl (N.and_u8 (by omega) (by omega))) rfl ?_
        refine E.pure (S.ne (b := ((0 : Nat) : Int)) rfl rfl) rfl ?_
        refine E.keep [0, 2, 3, 4, 81] (env1 := [(0, _), (2, _), (3, _), (4, _), (81, _)]) rfl ?_
        refine C.ifp rfl (fun h81 => ?_) (fun h81 => ?_)
        ·
         refine C.seq ?_
         refine C.seq ?_
         refine C.same (Same.splitAt (k := 2) 4 rfl rfl (List.take_append_drop 2 _).symm (by rw [List.length_take]; omega) rfl) ?_
         refine C.relist (L2 := [_, _, _, _, _, _, _, _] ++ DL) rfl ?_
         refine C.draw [0, 1, 2, 4, 0, 16, 32, 64, 136, 256, 512, 512, 4095] (.pure 0 240 (.pure 1 241 (.pure 2 243 (.pure 4 15 (.pure 5 31 (.pure 6 63 (.pure 7 127 (.seg [(3, 247)] (.alt 8 (.pure 9 511 (.pure 10 3071 (.pure 11 2047 (.pure 12 4095 .done)))) .stop))))))))) mixed (by decide +kernel) ?_
         refine D.pure rfl (S.move rfl) rfl ?_
         refine D.pure rfl (S.nilPtr rfl) rfl ?_
         refine D.pure rfl (S.field rfl fa76_1) rfl ?_
         refine D.pure rfl (S.move rfl) rfl ?_
         refine D.pure rfl (S.nilPtr rfl) rfl ?_
         refine D.pure rfl (S.field rfl fa76_5) rfl ?_
         refine D.pure rfl (S.slArr (l := 0) (k := .i64) (h := 2) rfl rfl rfl (by omega) (by omega) Tryd.underlying74 Tryd.sizeOf5) rfl ?_
         refine D.reslot (v := .slice (some ⟨zb, 10, none⟩) (2) (512)) (slice_to (by simp [part]) rfl rfl) ?_
         refine D.seg (by decide) ?_
         refine W.still rfl (S.load 5 (k := 6) rfl rfl rfl Tryd.isAgg71) rfl ?_
         refine W.nil ?_
         refine D.one ?_
         refine O.loud1 rfl (OpX.pick [2, 2, 2, 0] (F := (_ :: _ :: _ :: _ :: _)) rfl (X.call rfl Tryd.call45 (readFull_spec hs src l2 f1 f2 f3 zb 10 2 512 (List.take 2 _) hG (by rw [List.length_take]; omega) (by omega) (by omega)))) rfl ?_; rintro _ _ ⟨_, ⟨k1, k2, k3, hF, rfl, rfl⟩, rfl⟩; refine D.relist (L2 := (_ :: _ :: _ :: _ :: _ :: _ :: _ :: _ :: _)) rfl ?_
         refine D.pure rfl (S.move rfl) rfl ?_
         refine D.pure rfl (S.extract rfl rfl) rfl ?_
         refine D.pure rfl (S.extract rfl rfl) rfl ?_
         refine D.pure rfl (S.assign rfl) rfl ?_
         refine D.keep [0, 2, 3, 4, 81] (env1 := [(0, _), (2, _), (3, _), (4, _), (81, _)]) rfl ?_
         refine C.same (Same.joinAt 3 3 rfl rfl (by rw [show 10 + 2 = 10 + (2 : Nat) from rfl]; congr 1; simp only [List.length_append, bytesV_length, List.length_take, List.length_drop, min_i]; omega)) ?_
         refine C.perml [1, 1, 1, 1, 0, 0, 0] (A := [_, _, _, _, _, _, _]) (F := DL) rfl ?_
         refine C.relist (L2 := [_, _, _, _, _, _, _] ++ DL) rfl ?_
         refine C.seq ?_
         refine C.region ?_
         refine E.pure (S.move rfl) rfl ?_
         refine E.still (S.neErNil rfl) rfl ?_
         refine E.keep [0, 2, 3, 4, 81, 95] (env1 := [(0, _), (2, _), (3, _), (4, _), (81, _), (95, _)]) rfl ?_
         first | refine C.ifp rfl (fun h95 => ?_) (fun h95 => ?_) | refine C.ifNone rfl (fun h95 => ?_) (fun h95 => ?_) | refine C.ifSome rfl (fun h95 => ?_) (fun h95 => ?_) | refine C.ifSe rfl (fun h95 => ?_) (fun h95 => ?_) | refine C.ifNotSe rfl (fun h95 => ?_) (fun h95 => ?_) | refine C.cond rfl (fun h95 => ?_) (fun h95 => ?_)
         ·
          refine C.seq ?_
          refine C.draw [0, 0, 2, 5, 15] (.pure 1 1 (.alt 0 (.alt 2 (.alt 3 (.pure 4 15 .done) .stop) .stop) (.alt 2 (.seg [(0, 6)] (.alt 3 (.pure 4 15 .done) .stop)) .stop))) mixed (by decide +kernel) ?_
          refine D.pure rfl (S.move rfl) rfl ?_
          refine D.alt ?_ ⟨?_, trivial⟩
          ·
           refine O.still rfl (S.loadA 5 (k := 0) rfl rfl rfl rfl Tryd.isAgg69 Tryd.sizeOf69) rfl ?_
           refine D.one ?_
           refine O.loud1 rfl (OpX.pick [] (F := (_ :: _ :: _ :: _ :: _ :: _ :: _ :: _)) rfl (X.call rfl Tryd.call46 (gogzip_noEOF (L := []) hs _))) rfl ?_; rintro _ _ ⟨_, ⟨rfl, rfl⟩, rfl⟩; refine D.relist (L2 := (_ :: _ :: _ :: _ :: _ :: _ :: _ :: _)) rfl ?_
           refine D.one ?_
           refine O.loud0 rfl (X.storeA 5 (k := 0) rfl rfl rfl rfl rfl rfl Tryd.sizeOf69 rfl) ?_; rintro _ _ ⟨rfl, rfl⟩; refine D.relist (L2 := (_ :: _ :: _ :: _ :: _ :: _ :: _ :: _)) rfl ?_
           refine D.pure rfl (S.assign rfl) rfl ?_
           refine D.keep [0, 2, 3, 4, 81, 95] (env1 := [(0, _), (2, _), (3, _), (4, _), (81, _), (95, _)]) rfl ?_
           refine C.ret ?_
           have hRR : readHead l = (noEof (fullErr l2 2), l2.drop 2, h) := by rw [hR, rd1, if_neg (by omega), if_pos h95]
           refine ⟨_, _, ⟨_, _, 5, rfl, rfl, rfl⟩, rfl, _, _, _, _, _, _, _, rfl, rfl, ?_, ?_, ?_, ?_, .inl ⟨?_, [_], rfl⟩⟩
           · rw [hRR]; done
           · rw [hRR]; exact hF
           · rw [buf_join (by omega)]; exact hbs
           · assumption
           · rw [hRR]; first | assumption | (exact noEof_ne (by assumption)) | simp
          ·
           refine O.loud1 rfl (OpX.pick [] (F := (_ :: _ :: _ :: _ :: _ :: _ :: _ :: _)) rfl (X.call rfl Tryd.call46 (gogzip_noEOF (L := []) hs _))) rfl ?_; rintro _ _ ⟨_, ⟨rfl, rfl⟩, rfl⟩; refine D.relist (L2 := (_ :: _ :: _ :: _ :: _ :: _ :: _ :: _)) rfl ?_
           refine D.seg (by decide) ?_
           refine W.still rfl (S.loadA 5 (k := 0) rfl rfl rfl rfl Tryd.isAgg69 Tryd.sizeOf69) rfl ?_
           refine W.nil ?_
           refine D.one ?_
           refine O.loud0 rfl (X.storeA 5 (k := 0) rfl rfl rfl rfl rfl rfl Tryd.sizeOf69 rfl) ?_; rintro _ _ ⟨rfl, rfl⟩; refine D.relist (L2 := (_ :: _ :: _ :: _ :: _ :: _ :: _ :: _)) rfl ?_
           refine D.pure rfl (S.assign rfl) rfl ?_
           refine D.keep [0, 2, 3, 4, 81, 95] (env1 := [(0, _), (2, _), (3, _), (4, _), (81, _), (95, _)]) rfl ?_
           refine C.ret ?_
           have hRR : readHead l = (noEof (fullErr l2 2), l2.drop 2, h) := by rw [hR, rd1, if_neg (by omega), if_pos h95]
           refine ⟨_, _, ⟨_, _, 5, rfl, rfl, rfl⟩, rfl, _, _, _, _, _, _, _, rfl, rfl, ?_, ?_, ?_, ?_, .inl ⟨?_, [_], rfl⟩⟩
           · rw [hRR]; done
           · rw [hRR]; exact hF
           · rw [buf_join (by omega)]; exact hbs
           · assumption
           · rw [hRR]; first | assumption | (exact noEof_ne (by assumption)) | simp
         ·
          rw [h95]
          obtain ⟨w0, w1, r2, hl2⟩ := two h95
          have hw0 := w0.toNat_lt
          have hw1 := w1.toNat_lt
          have h16 := le16_lt hw0 hw1
          have e1 : l2.drop 2 = r2 := by rw [hl2]; rfl
          have e2 : le16of l2 = le16 w0.toNat w1.toNat := by rw [hl2]; rfl
          refine C.relist (L2 := [k1, k2, k3, ⟨zb, 0, [c0, c1, c2, c3, c4, c5, .iface src.t src.v, dcv, .int .u32 ((d : Nat) : Int), c9]⟩, ⟨zb, 10, u8 w0 :: u8 w1 :: bs.drop 2⟩, ⟨hb, 0, [.string h.comment, .slice xa xn xn, .int .u64 0, .int .i64 (timeV h.mod), .string h.name, .int .u8 ((h.os : Nat) : Int)]⟩, xf] ++ DL) (by rw [buf_full (full_len h95), hl2]; rfl) ?_
          rw [e1] at hF
          refine C.skip ?_
          refine C.seq ?_
          refine C.draw [0, 0, 2, 4, 8, 0, 32, 64, 128, 272, 1023, 2047, 3071] (.pure 0 1022 (.pure 1 481 (.pure 2 483 (.pure 3 487 (.pure 5 31 (.pure 6 63 (.pure 7 127 (.pure 8 255 (.seg [(4, 495)] (.alt 9 (.pure 10 1023 (.pure 11 2047 (.alt 12 .done .stop))) .stop)))))))))) mixed (by decide +kernel) ?_
          refine D.pure rfl (S.move rfl) rfl ?_
          refine D.pure rfl (S.move rfl) rfl ?_
          refine D.pure rfl (S.nilPtr rfl) rfl ?_
          refine D.pure rfl (S.field rfl fa76_3) rfl ?_
          refine D.pure rfl (S.move rfl) rfl ?_
          refine D.pure rfl (S.nilPtr rfl) rfl ?_
          refine D.pure rfl (S.field rfl fa76_5) rfl ?_
          refine D.pure rfl (S.slArr (l := 0) (k := .i64) (h := 2) rfl rfl rfl (by omega) (by omega) Tryd.underlying74 Tryd.sizeOf5) rfl ?_
          refine D.reslot (v := .slice (some ⟨zb, 10, none⟩) (2) (512)) (slice_to (by simp [part]) rfl rfl) ?_
          refine D.seg (by decide) ?_
          refine W.still rfl (S.load 3 (k := 8) rfl rfl rfl Tryd.isAgg52) rfl ?_
          refine W.nil ?_
          refine D.one ?_
          refine O.loud1 rfl (X.call rfl Tryd.call44 (UpdateIEEE_spec d zb 10 512 [w0, w1] hd (Reads.frag (i := 4) (k := 0) rfl rfl) (by simp) (by simp))) rfl ?_; rintro _ _ ⟨rfl, rfl⟩; refine D.relist (L2 := (_ :: _ :: _ :: _ :: _ :: _ :: _ :: _)) rfl ?_
          refine D.pure rfl (S.nilPtr rfl) rfl ?_
          refine D.pure rfl (S.field rfl fa76_3) rfl ?_
          refine D.one ?_
          refine O.loud0 rfl (X.store 3 (k := 8) rfl rfl rfl rfl rfl Tryd.sizeOf52) ?_; rintro _ _ ⟨rfl, rfl⟩; refine D.relist (L2 := (_ :: _ :: _ :: _ :: _ :: _ :: _ :: _)) rfl ?_
          refine D.keep [0, 2, 3, 4, 81, 95] (env1 := [(0, _), (2, _), (3, _), (4, _), (81, _), (95, _)]) rfl ?_
          refine C.seq ?_
          refine C.region ?_
          refine E.pure (S.move rfl) rfl ?_
          refine E.pure (S.nilPtr rfl) rfl ?_
          refine E.pure (S.field rfl fa76_5) rfl ?_
          refine E.pure (S.slArr (l := 0) (k := .i64) (h := 2) rfl rfl rfl (by omega) (by omega) Tryd.underlying74 Tryd.sizeOf5) rfl ?_
          refine E.reslot (v := .slice (some ⟨zb, 10, none⟩) (2) (512)) (slice_to (by simp [part]) rfl rfl) ?_
          refine E.loud1 (X.call rfl Tryd.call57 (le16_spec zb 10 2 512 w0 w1 [] (by omega) (Reads.frag (i := 4) (k := 0) rfl rfl))) rfl ?_; rintro _ _ ⟨rfl, rfl⟩; refine E.relist (L2 := (_ :: _ :: _ :: _ :: _ :: _ :: _ :: _)) rfl ?_
          refine E.loud1 (X.make (l := le16 w0.toNat w1.toNat) (c := le16 w0.toNat w1.toNat) (bytes := 1) Tryd.underlying22 infoB (z := .int .u8 0) rfl rfl rfl rfl rfl rfl (Nat.le_refl _) (by omega) (by omega)) rfl ?_; rintro _ _ ⟨eb, rfl, rfl⟩; refine E.relist (L2 := (_ :: _ :: _ :: _ :: _ :: _ :: _ :: _ :: _)) rfl ?_
          refine E.perml [1, 1, 1, 1, 1, 1, 0] (A := [_, _, _, _, _, _, _]) (F := [_] ++ DL) rfl ?_
          refine E.shed [7] (A := [_]) (F := [_, _, _, _, _, _, _] ++ DL) rfl ?_
          refine E.pure (S.assign rfl) rfl ?_
          refine E.keep [0, 2, 3, 4, 6, 81, 95] (env1 := [(0, _), (2, _), (3, _), (4, _), (6, _), (81, _), (95, _)]) rfl ?_
          refine C.seq ?_
          refine C.seq ?_
          refine C.region ?_
          refine E.pure (S.move rfl) rfl ?_
          refine E.pure (S.nilPtr rfl) rfl ?_
          refine E.pure (S.field rfl fa76_1) rfl ?_
          refine E.still (S.load 3 (k := 6) rfl rfl rfl Tryd.isAgg71) rfl ?_
          refine E.pure (S.move rfl) rfl ?_
          refine E.loud1 (OpX.pick [0, 0, 0, 3] (F := (_ :: _ :: _ :: _)) rfl (X.call rfl Tryd.call45 (readFull_spec hs src r2 k1 k2 k3 eb 0 (le16 w0.toNat w1.toNat) (le16 w0.toNat w1.toNat) (List.replicate (le16 w0.toNat w1.toNat) (.int .u8 0)) hF (by rw [List.length_replicate]) (Nat.le_refl _) (by omega)))) rfl ?_; rintro _ _ ⟨_, ⟨j1, j2, j3, hJ, rfl, rfl⟩, rfl⟩; refine E.relist (L2 := (_ :: _ :: _ :: _ :: _ :: _ :: _ :: _)) rfl ?_
          refine E.perml [0, 0, 0, 1, 1, 1, 0] (A := [_, _, _, _, _, _, _]) (F := DL) rfl ?_
          refine E.relist (L2 := [_, _, _, _, _, _, _] ++ DL) rfl ?_
          refine E.pure (S.move rfl) rfl ?_
          refine E.pure (S.extract rfl rfl) rfl ?_
          refine E.pure (S.extract rfl rfl) rfl ?_
          refine E.pure (S.assign rfl) rfl ?_
          refine E.keep [0, 2, 3, 4, 6, 81, 95] (env1 := [(0, _), (2, _), (3, _), (4, _), (6, _), (81, _), (95, _)]) rfl ?_
          refine C.seq ?_
          refine C.region ?_
          refine E.pure (S.move rfl) rfl ?_
          refine E.still (S.neErNil rfl) rfl ?_
          refine E.keep [0, 2, 3, 4, 6, 81, 95, 127] (env1 := [(0, _), (2, _), (3, _), (4, _), (6, _), (81, _), (95, _), (127, _)]) rfl ?_
          first | refine C.ifp rfl (fun h127 => ?_) (fun h127 => ?_) | refine C.ifNone rfl (fun h127 => ?_) (fun h127 => ?_) | refine C.ifSome rfl (fun h127 => ?_) (fun h127 => ?_) | refine C.ifSe rfl (fun h127 => ?_) (fun h127 => ?_) | refine C.ifNotSe rfl (fun h127 => ?_) (fun h127 => ?_) | refine C.cond rfl (fun h127 => ?_) (fun h127 => ?_)
          ·
           refine C.seq ?_
           refine C.draw [0, 0, 2, 5, 15] (.pure 1 1 (.alt 0 (.alt 2 (.alt 3 (.pure 4 15 .done) .stop) .stop) (.alt 2 (.seg [(0, 6)] (.alt 3 (.pure 4 15 .done) .stop)) .stop))) mixed (by decide +kernel) ?_
           refine D.pure rfl (S.move rfl) rfl ?_
           refine D.alt ?_ ⟨?_, trivial⟩
           ·
            refine O.still rfl (S.loadA 5 (k := 0) rfl rfl rfl rfl Tryd.isAgg69 Tryd.sizeOf69) rfl ?_
            refine D.one ?_
            refine O.loud1 rfl (OpX.pick [] (F := (_ :: _ :: _ :: _ :: _ :: _ :: _ :: _)) rfl (X.call rfl Tryd.call46 (gogzip_noEOF (L := []) hs _))) rfl ?_; rintro _ _ ⟨_, ⟨rfl, rfl⟩, rfl⟩; refine D.relist (L2 := (_ :: _ :: _ :: _ :: _ :: _ :: _ :: _)) rfl ?_
            refine D.one ?_
            refine O.loud0 rfl (X.storeA 5 (k := 0) rfl rfl rfl rfl rfl rfl Tryd.sizeOf69 rfl) ?_; rintro _ _ ⟨rfl, rfl⟩; refine D.relist (L2 := (_ :: _ :: _ :: _ :: _ :: _ :: _ :: _)) rfl ?_
            refine D.pure rfl (S.assign rfl) rfl ?_
            refine D.keep [0, 2, 3, 4, 6, 81, 95, 127] (env1 := [(0, _), (2, _), (3, _), (4, _), (6, _), (81, _), (95, _), (127, _)]) rfl ?_
            refine C.ret ?_
            have hRR : readHead l = (noEof (fullErr r2 (le16 w0.toNat w1.toNat)), r2.drop (le16 w0.toNat w1.toNat), h) := by rw [hR, rd1, if_neg (by omega), if_neg (by simpa using h95), e1, e2, if_pos h127]
            refine ⟨_, _, ⟨_, _, 5, rfl, rfl, rfl⟩, rfl, _, _, _, _, _, _, _, rfl, rfl, ?_, ?_, ?_, ?_, .inl ⟨?_, [_], rfl⟩⟩
            · rw [hRR]; done
            · rw [hRR]; exact hJ
            · simp only [List.length_cons, List.length_drop]; omega
            · exact crcOn_lt (by decide) hd _
            · rw [hRR]; first | assumption | (exact noEof_ne (by assumption)) | simp
           ·
            refine O.loud1 rfl (OpX.pick [] (F := (_ :: _ :: _ :: _ :: _ :: _ :: _ :: _)) rfl (X.call rfl Tryd.call46 (gogzip_noEOF (L := []) hs _))) rfl ?_; rintro _ _ ⟨_, ⟨rfl, rfl⟩, rfl⟩; refine D.relist (L2 := (_ :: _ :: _ :: _ :: _ :: _ :: _ :: _)) rfl ?_
            refine D.seg (by decide) ?_
            refine W.still rfl (S.loadA 5 (k := 0) rfl rfl rfl rfl Tryd.isAgg69 Tryd.sizeOf69) rfl ?_
            refine W.nil ?_
            refine D.one ?_
            refine O.loud0 rfl (X.storeA 5 (k := 0) rfl rfl rfl rfl rfl rfl Tryd.sizeOf69 rfl) ?_; rintro _ _ ⟨rfl, rfl⟩; refine D.relist (L2 := (_ :: _ :: _ :: _ :: _ :: _ :: _ :: _)) rfl ?_
            refine D.pure rfl (S.assign rfl) rfl ?_
            refine D.keep [0, 2, 3, 4, 6, 81, 95, 127] (env1 := [(0, _), (2, _), (3, _), (4, _), (6, _), (81, _), (95, _), (127, _)]) rfl ?_
            refine C.ret ?_
            have hRR : readHead l = (noEof (fullErr r2 (le16 w0.toNat w1.toNat)), r2.drop (le16 w0.toNat w1.toNat), h) := by rw [hR, rd1, if_neg (by omega), if_neg (by simpa using h95), e1, e2, if_pos h127]
            refine ⟨_, _, ⟨_, _, 5, rfl, rfl, rfl⟩, rfl, _, _, _, _, _, _, _, rfl, rfl, ?_, ?_, ?_, ?_, .inl ⟨?_, [_], rfl⟩⟩
            · rw [hRR]; done
            · rw [hRR]; exact hJ
            · simp only [List.length_cons, List.length_drop]; omega
            · exact crcOn_lt (by decide) hd _
            · rw [hRR]; first | assumption | (exact noEof_ne (by assumption)) | simp
          ·
           rw [h127]
           have hn := full_len h127
           refine C.relist (L2 := [j1, j2, j3, ⟨zb, 0, [c0, c1, c2, c3, c4, c5, .iface src.t src.v, dcv, .int .u32 ((crcOn IEEE d [w0, w1] : Nat) : Int), c9]⟩, ⟨zb, 10, u8 w0 :: u8 w1 :: bs.drop 2⟩, ⟨hb, 0, [.string h.comment, .slice xa xn xn, .int .u64 0, .int .i64 (timeV h.mod), .string h.name, .int .u8 ((h.os : Nat) : Int)]⟩, ⟨eb, 0, bytesV (r2.take (le16 w0.toNat w1.toNat))⟩] ++ DL) (by rw [full_all hn List.length_replicate]; rfl) ?_
           refine C.skip ?_
           refine C.seq ?_
           refine C.region ?_
           refine E.pure (S.move rfl) rfl ?_
           refine E.pure (S.move rfl) rfl ?_
           refine E.pure (S.nilPtr rfl) rfl ?_
           refine E.pure (S.field rfl fa76_3) rfl ?_
           refine E.still (S.load 3 (k := 8) rfl rfl rfl Tryd.isAgg52) rfl ?_
           refine E.pure (S.move rfl) rfl ?_
           refine E.reslot (v := .slice (some ⟨eb, 0, none⟩) ((r2.take (le16 w0.toNat w1.toNat)).length) (le16 w0.toNat w1.toNat)) (slice_to rfl (by rw [List.length_take]; omega) rfl) ?_
           refine E.loud1 (X.call rfl Tryd.call44 (UpdateIEEE_spec (crcOn IEEE d [w0, w1]) eb 0 (le16 w0.toNat w1.toNat) (r2.take (le16 w0.toNat w1.toNat)) (crcOn_lt (by decide) hd _) (Reads.frag (i := 6) (k := 0) rfl part_all) (by rw [List.length_take]; omega) (by rw [List.length_take]; omega))) rfl ?_; rintro _ _ ⟨rfl, rfl⟩; refine E.relist (L2 := (_ :: _ :: _ :: _ :: _ :: _ :: _ :: _)) rfl ?_
           refine E.pure (S.nilPtr rfl) rfl ?_
           refine E.pure (S.field rfl fa76_3) rfl ?_
           refine E.loud0 (X.store 3 (k := 8) rfl rfl rfl rfl rfl Tryd.sizeOf52) ?_; rintro _ _ ⟨rfl, rfl⟩; refine E.relist (L2 := (_ :: _ :: _ :: _ :: _ :: _ :: _ :: _)) rfl ?_
           refine E.keep [0, 2, 3, 4, 6, 81, 95, 127] (env1 := [(0, _), (2, _), (3, _), (4, _), (6, _), (81, _), (95, _), (127, _)]) rfl ?_
           refine C.region ?_
           refine E.pure (S.move rfl) rfl ?_
           refine E.pure (S.field rfl fa69_1) rfl ?_
           refine E.loud0 (X.store 5 (k := 1) rfl rfl rfl rfl rfl Tryd.sizeOf22) ?_; rintro _ _ ⟨rfl, rfl⟩; refine E.relist (L2 := (_ :: _ :: _ :: _ :: _ :: _ :: _ :: _)) rfl ?_
           refine E.keep [0, 2, 3, 4, 6, 81, 95, 127] (env1 := [(0, _), (2, _), (3, _), (4, _), (6, _), (81, _), (95, _), (127, _)]) rfl ?_
           exact ⟨r2.drop (le16 w0.toNat w1.toNat), crcOn IEEE (crcOn IEEE d [w0, w1]) (r2.take (le16 w0.toNat w1.toNat)), { h with extra := some (r2.take (le16 w0.toNat w1.toNat)) }, _, hb, some ⟨eb, 0, none⟩, le16 w0.toNat w1.toNat, _, j1, j2, j3, rfl, rfl, by rw [hR, rd1, if_neg (by omega), if_neg (by simpa using h95), e1, e2, if_neg (by simpa using h127), hl2]; rfl, hJ, by simp only [List.length_cons, List.length_drop]; omega, crcOn_lt (by decide) (crcOn_lt (by decide) hd _) _, ⟨eb, rfl, by rw [List.length_take, Nat.min_eq_left hn], rfl, by rw [List.length_take]; omega⟩⟩
        ·
         refine C.skip ?_
         first | exact ⟨r2.drop (le16 w0.toNat w1.toNat), crcOn IEEE (crcOn IEEE d [w0, w1]) (r2.take (le16 w0.toNat w1.toNat)), { h with extra := some (r2.take (le16 w0.toNat w1.toNat)) }, _, hb, some ⟨eb, 0, none⟩, le16 w0.toNat w1.toNat, _, j1, j2, j3, rfl, rfl, by rw [hR, rd1, if_neg (by omega), if_neg (by simpa using h95), e1, e2, if_neg (by simpa using h127), hl2]; rfl, hJ, by simp only [List.length_cons, List.length_drop]; omega, crcOn_lt (by decide) (crcOn_lt (by decide) hd _) _, ⟨eb, rfl, by rw [List.length_take, Nat.min_eq_left hn], rfl, by rw [List.length_take]; omega⟩⟩ | exact ⟨l2, d, h, bs, hb, xa, xn, xf, f1, f2, f3, rfl, rfl, by rw [hR, rd1, if_pos (by omega)], hG, hbs, hd, hX⟩
       ·
        rintro _ _ ⟨l2, d, h, bs, hb, xa, xn, xf, f1, f2, f3, hq23, rfl, hR, hG, hbs, hd, hX⟩
        refine C.weaken _ hq23 ?_
        refine C.seq ?_
        refine C.region ?_
        refine E.pure (S.assign rfl) rfl ?_
        refine E.keep [0, 2, 3, 4, 7] (env1 := [(0, _), (2, _), (3, _), (4, _), (7, _)]) rfl ?_
        refine C.cut (M := fun ee ll => ∃ (l2 : List UInt8), ∃ (d : Nat), ∃ (h : Hd), ∃ (bs : List Value), ∃ (hb : Nat), ∃ (xa : Option Addr), ∃ (xn : Nat), ∃ (xf : Frag), ∃ (f1 : Frag), ∃ (f2 : Frag), ∃ (f3 : Frag), keeps ee [0, 2, 3, 4] = some [(0, .pointer (some ⟨zb, 0, none⟩)), (2, .pointer (some ⟨hb, 0, none⟩)), (3, Er.val ea .none), (4, .int .u8 ((v3.toNat : Nat) : Int))] ∧ ll = [f1, f2, f3, ⟨zb, 0, [c0, c1, c2, c3, c4, c5, .iface src.t src.v, dcv, .int .u32 ((d : Nat) : Int), c9]⟩, ⟨zb, 10, bs⟩, ⟨hb, 0, [.string h.comment, .slice xa xn xn, .int .u64 0, .int .i64 (timeV h.mod), .string h.name, .int .u8 ((h.os : Nat) : Int)]⟩, xf] ++ DL ∧ (readHead l = rd3 l2 v3.toNat d h) ∧ (src.At l2 f1 f2 f3) ∧ (bs.length = 512) ∧ (d < 4294967296) ∧ (ExAt h.extra xa xn xf)) ?_ ?_
        ·
         refine C.seq ?_
         refine C.region ?_
         refine E.pure (S.move rfl) rfl ?_
         refine E.pure (S.and (b := ((8 : Nat) : Int)) rfl rfl (N.and_u8 (by omega) (by omega))) rfl ?_
         refine E.pure (S.ne (b := ((0 : Nat) : Int)) rfl rfl) rfl ?_
         refine E.keep [0, 2, 3, 4, 7, 144] (env1 := [(0, _), (2, _), (3, _), (4, _), (7, _), (144, _)]) rfl ?_
         refine C.ifp rfl (fun h144 => ?_) (fun h144 => ?_)
         ·
          refine C.seq ?_
          refine C.seq ?_
          refine C.region ?_
          refine E.pure (S.move rfl) rfl ?_
          refine E.loud1 (OpX.pick [0, 0, 0, 0, 0] (F := (_ :: _ :: _)) rfl (X.call rfl Tryd.call58 (readString_spec hs src l2 f1 f2 f3 zb d c0 c1 c2 c3 c4 c5 dcv c9 bs hG hbs hd))) rfl ?_; rintro _ _ ⟨_, ⟨k1, k2, k3, bs2, hF, hbs2, rfl, rfl⟩, rfl⟩; refine E.relist (L2 := (_ :: _ :: _ :: _ :: _ :: _ :: _ :: _)) rfl ?_
          refine E.pure (S.move rfl) rfl ?_
          refine E.pure (S.extract rfl rfl) rfl ?_
          refine E.pure (S.extract rfl rfl) rfl ?_
          refine E.pure (S.assign rfl) rfl ?_
          refine E.pure (S.assign rfl) rfl ?_
          refine E.keep [0, 2, 3, 4, 7, 144] (env1 := [(0, _), (2, _), (3, _), (4, _), (7, _), (144, _)]) rfl ?_
          refine C.seq ?_
          refine C.region ?_
          refine E.pure (S.move rfl) rfl ?_
          refine E.still (S.neErNil rfl) rfl ?_
          refine E.keep [0, 2, 3, 4, 7, 144, 151] (env1 := [(0, _), (2, _), (3, _), (4, _), (7, _), (144, _), (151, _)]) rfl ?_
          first | refine C.ifp rfl (fun h151 => ?_) (fun h151 => ?_) | refine C.ifNone rfl (fun h151 => ?_) (fun h151 => ?_) | refine C.ifSome rfl (fun h151 => ?_) (fun h151 => ?_) | refine C.ifSe rfl (fun h151 => ?_) (fun h151 => ?_) | refine C.ifNotSe rfl (fun h151 => ?_) (fun h151 => ?_) | refine C.cond rfl (fun h151 => ?_) (fun h151 => ?_)
          ·
           refine C.seq ?_
           refine C.draw [0, 0, 2, 5, 15] (.pure 1 1 (.alt 0 (.alt 2 (.alt 3 (.pure 4 15 .done) .stop) .stop) (.alt 2 (.seg [(0, 6)] (.alt 3 (.pure 4 15 .done) .stop)) .stop))) mixed (by decide +kernel) ?_
           refine D.pure rfl (S.move rfl) rfl ?_
           refine D.alt ?_ ⟨?_, trivial⟩
           ·
            refine O.still rfl (S.loadA 5 (k := 0) rfl rfl rfl rfl Tryd.isAgg69 Tryd.sizeOf69) rfl ?_
            refine D.one ?_
            refine O.loud1 rfl (OpX.pick [] (F := (_ :: _ :: _ :: _ :: _ :: _ :: _ :: _)) rfl (X.call rfl Tryd.call46 (gogzip_noEOF (L := []) hs _))) rfl ?_; rintro _ _ ⟨_, ⟨rfl, rfl⟩, rfl⟩; refine D.relist (L2 := (_ :: _ :: _ :: _ :: _ :: _ :: _ :: _)) rfl ?_
            refine D.one ?_
            refine O.loud0 rfl (X.storeA 5 (k := 0) rfl rfl rfl rfl rfl rfl Tryd.sizeOf69 rfl) ?_; rintro _ _ ⟨rfl, rfl⟩; refine D.relist (L2 := (_ :: _ :: _ :: _ :: _ :: _ :: _ :: _)) rfl ?_
            refine D.pure rfl (S.assign rfl) rfl ?_
            refine D.keep [0, 2, 3, 4, 7, 144, 151] (env1 := [(0, _), (2, _), (3, _), (4, _), (7, _), (144, _), (151, _)]) rfl ?_
            refine C.ret ?_
            have hRR : readHead l = (noEof (strEr l2), l2.drop (strUsed l2), h) := by rw [hR, rd2, if_neg (by omega), if_pos h151]
            refine ⟨_, _, ⟨_, _, 5, rfl, rfl, rfl⟩, rfl, _, _, _, _, _, _, _, rfl, rfl, ?_, ?_, ?_, ?_, .inl ⟨?_, [_], rfl⟩⟩
            · rw [hRR]; done
            · rw [hRR]; exact hF
            · exact hbs2
            · exact strCrc_lt hd l2
            · rw [hRR]; first | assumption | (exact noEof_ne (by assumption)) | simp
           ·
            refine O.loud1 rfl (OpX.pick [] (F := (_ :: _ :: _ :: _ :: _ :: _ :: _ :: _)) rfl (X.call rfl Tryd.call46 (gogzip_noEOF (L := []) hs _))) rfl ?_; rintro _ _ ⟨_, ⟨rfl, rfl⟩, rfl⟩; refine D.relist (L2 := (_ :: _ :: _ :: _ :: _ :: _ :: _ :: _)) rfl ?_
            refine D.seg (by decide) ?_
            refine W.still rfl (S.loadA 5 (k := 0) rfl rfl rfl rfl Tryd.isAgg69 Tryd.sizeOf69) rfl ?_
            refine W.nil ?_
            refine D.one ?_
            refine O.loud0 rfl (X.storeA 5 (k := 0) rfl rfl rfl rfl rfl rfl Tryd.sizeOf69 rfl) ?_; rintro _ _ ⟨rfl, rfl⟩; refine D.relist (L2 := (_ :: _ :: _ :: _ :: _ :: _ :: _ :: _)) rfl ?_
            refine D.pure rfl (S.assign rfl) rfl ?_
            refine D.keep [0, 2, 3, 4, 7, 144, 151] (env1 := [(0, _), (2, _), (3, _), (4, _), (7, _), (144, _), (151, _)]) rfl ?_
            refine C.ret ?_
            have hRR : readHead l = (noEof (strEr l2), l2.drop (strUsed l2), h) := by rw [hR, rd2, if_neg (by omega), if_pos h151]
            refine ⟨_, _, ⟨_, _, 5, rfl, rfl, rfl⟩, rfl, _, _, _, _, _, _, _, rfl, rfl, ?_, ?_, ?_, ?_, .inl ⟨?_, [_], rfl⟩⟩
            · rw [hRR]; done
            · rw [hRR]; exact hF
            · exact hbs2
            · exact strCrc_lt hd l2
            · rw [hRR]; first | assumption | (exact noEof_ne (by assumption)) | simp
          ·
           rw [h151]
           refine C.skip ?_
           refine C.region ?_
           refine E.pure (S.move rfl) rfl ?_
           refine E.pure (S.field rfl fa69_3) rfl ?_
           refine E.loud0 (X.store 5 (k := 4) rfl rfl rfl rfl rfl Tryd.sizeOf9) ?_; rintro _ _ ⟨rfl, rfl⟩; refine E.relist (L2 := (_ :: _ :: _ :: _ :: _ :: _ :: _ :: _)) rfl ?_
           refine E.keep [0, 2, 3, 4, 7, 144, 151] (env1 := [(0, _), (2, _), (3, _), (4, _), (7, _), (144, _), (151, _)]) rfl ?_
           exact ⟨l2.drop (strUsed l2), strCrc d l2, { h with name := strTxt l2 }, bs2, hb, xa, xn, xf, k1, k2, k3, rfl, rfl, by rw [hR, rd2, if_neg (by omega), if_neg (by simpa using h151)], hF, hbs2, strCrc_lt hd l2, hX⟩
         ·
          refine C.skip ?_
          first | exact ⟨l2.drop (strUsed l2), strCrc d l2, { h with name := strTxt l2 }, bs2, hb, xa, xn, xf, k1, k2, k3, rfl, rfl, by rw [hR, rd2, if_neg (by omega), if_neg (by simpa using h151)], hF, hbs2, strCrc_lt hd l2, hX⟩ | exact ⟨l2, d, h, bs, hb, xa, xn, xf, f1, f2, f3, rfl, rfl, by rw [hR, rd2, if_pos (by omega)], hG, hbs, hd, hX⟩
        ·
         rintro _ _ ⟨l2, d, h, bs, hb, xa, xn, xf, f1, f2, f3, hq29, rfl, hR, hG, hbs, hd, hX⟩
         refine C.weaken _ hq29 ?_
         refine C.cut (M := fun ee ll => ∃ (l2 : List UInt8), ∃ (d : Nat), ∃ (h : Hd), ∃ (bs : List Value), ∃ (hb : Nat), ∃ (xa : Option Addr), ∃ (xn : Nat), ∃ (xf : Frag), ∃ (f1 : Frag), ∃ (f2 : Frag), ∃ (f3 : Frag), keeps ee [0, 2, 3, 4] = some [(0, .pointer (some ⟨zb, 0, none⟩)), (2, .pointer (some ⟨hb, 0, none⟩)), (3, Er.val ea .none), (4, .int .u8 ((v3.toNat : Nat) : Int))] ∧ ll = [f1, f2, f3, ⟨zb, 0, [c0, c1, c2, c3, c4, c5, .iface src.t src.v, dcv, .int .u32 ((d : Nat) : Int), c9]⟩, ⟨zb, 10, bs⟩, ⟨hb, 0, [.string h.comment, .slice xa xn xn, .int .u64 0, .int .i64 (timeV h.mod), .string h.name, .int .u8 ((h.os : Nat) : Int)]⟩, xf] ++ DL ∧ (readHead l = rd4 l2 v3.toNat d h) ∧ (src.At l2 f1 f2 f3) ∧ (bs.length = 512) ∧ (d < 4294967296) ∧ (ExAt h.extra xa xn xf)) ?_ ?_
         ·
          refine C.seq ?_
          refine C.region ?_
          refine E.pure (S.move rfl) rfl ?_
          refine E.pure (S.and (b := ((16 : Nat) : Int)) rfl rfl (N.and_u8 (by omega) (by omega))) rfl ?_
          refine E.pure (S.ne (b := ((0 : Nat) : Int)) rfl rfl) rfl ?_
          refine E.keep [0, 2, 3, 4, 159] (env1 := [(0, _), (2, _), (3, _), (4, _), (159, _)]) rfl ?_
          refine C.ifp rfl (fun h159 => ?_) (fun h159 => ?_)
          ·
           refine C.seq ?_
           refine C.seq ?_
           refine C.region ?_
           refine E.pure (S.move rfl) rfl ?_
           refine E.loud1 (OpX.pick [0, 0, 0, 0, 0] (F := (_ :: _ :: _)) rfl (X.call rfl Tryd.call58 (readString_spec hs src l2 f1 f2 f3 zb d c0 c1 c2 c3 c4 c5 dcv c9 bs hG hbs hd))) rfl ?_; rintro _ _ ⟨_, ⟨k1, k2, k3, bs2, hF, hbs2, rfl, rfl⟩, rfl⟩; refine E.relist (L2 := (_ :: _ :: _ :: _ :: _ :: _ :: _ :: _)) rfl ?_
           refine E.pure (S.move rfl) rfl ?_
           refine E.pure (S.extract rfl rfl) rfl ?_
           refine E.pure (S.extract rfl rfl) rfl ?_
           refine E.pure (S.assign rfl) rfl ?_
           refine E.pure (S.assign rfl) rfl ?_
           refine E.keep [0, 2, 3, 4, 7, 159] (env1 := [(0, _), (2, _), (3, _), (4, _), (7, _), (159, _)]) rfl ?_
           refine C.seq ?_
           refine C.region ?_
           refine E.pure (S.move rfl) rfl ?_
           refine E.still (S.neErNil rfl) rfl ?_
           refine E.keep [0, 2, 3, 4, 7, 159, 166] (env1 := [(0, _), (2, _), (3, _), (4, _), (7, _), (159, _), (166, _)]) rfl ?_
           first | refine C.ifp rfl (fun h166 => ?_) (fun h166 => ?_) | refine C.ifNone rfl (fun h166 => ?_) (fun h166 => ?_) | refine C.ifSome rfl (fun h166 => ?_) (fun h166 => ?_) | refine C.ifSe rfl (fun h166 => ?_) (fun h166 => ?_) | refine C.ifNotSe rfl (fun h166 => ?_) (fun h166 => ?_) | refine C.cond rfl (fun h166 => ?_) (fun h166 => ?_)
           ·
            refine C.seq ?_
            refine C.draw [0, 0, 2, 5, 15] (.pure 1 1 (.alt 0 (.alt 2 (.alt 3 (.pure 4 15 .done) .stop) .stop) (.alt 2 (.seg [(0, 6)] (.alt 3 (.pure 4 15 .done) .stop)) .stop))) mixed (by decide +kernel) ?_
            refine D.pure rfl (S.move rfl) rfl ?_
            refine D.alt ?_ ⟨?_, trivial⟩
            ·
             refine O.still rfl (S.loadA 5 (k := 0) rfl rfl rfl rfl Tryd.isAgg69 Tryd.sizeOf69) rfl ?_
             refine D.one ?_
             refine O.loud1 rfl (OpX.pick [] (F := (_ :: _ :: _ :: _ :: _ :: _ :: _ :: _)) rfl (X.call rfl Tryd.call46 (gogzip_noEOF (L := []) hs _))) rfl ?_; rintro _ _ ⟨_, ⟨rfl, rfl⟩, rfl⟩; refine D.relist (L2 := (_ :: _ :: _ :: _ :: _ :: _ :: _ :: _)) rfl ?_
             refine D.one ?_
             refine O.loud0 rfl (X.storeA 5 (k := 0) rfl rfl rfl rfl rfl rfl Tryd.sizeOf69 rfl) ?_; rintro _ _ ⟨rfl, rfl⟩; refine D.relist (L2 := (_ :: _ :: _ :: _ :: _ :: _ :: _ :: _)) rfl ?_
             refine D.pure rfl (S.assign rfl) rfl ?_
             refine D.keep [0, 2, 3, 4, 7, 159, 166] (env1 := [(0, _), (2, _), (3, _), (4, _), (7, _), (159, _), (166, _)]) rfl ?_
             refine C.ret ?_
             have hRR : readHead l = (noEof (strEr l2), l2.drop (strUsed l2), h) := by rw [hR, rd3, if_neg (by omega), if_pos h166]
             refine ⟨_, _, ⟨_, _, 5, rfl, rfl, rfl⟩, rfl, _, _, _, _, _, _, _, rfl, rfl, ?_, ?_, ?_, ?_, .inl ⟨?_, [_], rfl⟩⟩
             · rw [hRR]; done
             · rw [hRR]; exact hF
             · exact hbs2
             · exact strCrc_lt hd l2
             · rw [hRR]; first | assumption | (exact noEof_ne (by assumption)) | simp
            ·
             refine O.loud1 rfl (OpX.pick [] (F := (_ :: _ :: _ :: _ :: _ :: _ :: _ :: _)) rfl (X.call rfl Tryd.call46 (gogzip_noEOF (L := []) hs _))) rfl ?_; rintro _ _ ⟨_, ⟨rfl, rfl⟩, rfl⟩; refine D.relist (L2 := (_ :: _ :: _ :: _ :: _ :: _ :: _ :: _)) rfl ?_
             refine D.seg (by decide) ?_
             refine W.still rfl (S.loadA 5 (k := 0) rfl rfl rfl rfl Tryd.isAgg69 Tryd.sizeOf69) rfl ?_
             refine W.nil ?_
             refine D.one ?_
             refine O.loud0 rfl (X.storeA 5 (k := 0) rfl rfl rfl rfl rfl rfl Tryd.sizeOf69 rfl) ?_; rintro _ _ ⟨rfl, rfl⟩; refine D.relist (L2 := (_ :: _ :: _ :: _ :: _ :: _ :: _ :: _)) rfl ?_
             refine D.pure rfl (S.assign rfl) rfl ?_
             refine D.keep [0, 2, 3, 4, 7, 159, 166] (env1 := [(0, _), (2, _), (3, _), (4, _), (7, _), (159, _), (166, _)]) rfl ?_
             refine C.ret ?_
             have hRR : readHead l = (noEof (strEr l2), l2.drop (strUsed l2), h) := by rw [hR, rd3, if_neg (by omega), if_pos h166]
             refine ⟨_, _, ⟨_, _, 5, rfl, rfl, rfl⟩, rfl, _, _, _, _, _, _, _, rfl, rfl, ?_, ?_, ?_, ?_, .inl ⟨?_, [_], rfl⟩⟩
             · rw [hRR]; done
             · rw [hRR]; exact hF
             · exact hbs2
             · exact strCrc_lt hd l2
             · rw [hRR]; first | assumption | (exact noEof_ne (by assumption)) | simp
           ·
            rw [h166]
            refine C.skip ?_
            refine C.region ?_
            refine E.pure (S.move rfl) rfl ?_
            refine E.pure (S.field rfl fa69_0) rfl ?_
            refine E.loud0 (X.store 5 (k := 0) rfl rfl rfl rfl rfl Tryd.sizeOf9) ?_; rintro _ _ ⟨rfl, rfl⟩; refine E.relist (L2 := (_ :: _ :: _ :: _ :: _ :: _ :: _ :: _)) rfl ?_
            refine E.keep [0, 2, 3, 4, 7, 159, 166] (env1 := [(0, _), (2, _), (3, _), (4, _), (7, _), (159, _), (166, _)]) rfl ?_
            exact ⟨l2.drop (strUsed l2), strCrc d l2, { h with comment := strTxt l2 }, bs2, hb, xa, xn, xf, k1, k2, k3, rfl, rfl, by rw [hR, rd3, if_neg (by omega), if_neg (by simpa using h166)], hF, hbs2, strCrc_lt hd l2, hX⟩
          ·
           refine C.skip ?_
           first | exact ⟨l2.drop (strUsed l2), strCrc d l2, { h with comment := strTxt l2 }, bs2, hb, xa, xn, xf, k1, k2, k3, rfl, rfl, by rw [hR, rd3, if_neg (by omega), if_neg (by simpa using h166)], hF, hbs2, strCrc_lt hd l2, hX⟩ | exact ⟨l2, d, h, bs, hb, xa, xn, xf, f1, f2, f3, rfl, rfl, by rw [hR, rd3, if_pos (by omega)], hG, hbs, hd, hX⟩
         ·
          rintro _ _ ⟨l2, d, h, bs, hb, xa, xn, xf, f1, f2, f3, hq34, rfl, hR, hG, hbs, hd, hX⟩
          refine C.weaken _ hq34 ?_
          refine C.cut (M := fun ee ll => ∃ (l2 : List UInt8), ∃ (d : Nat), ∃ (h : Hd), ∃ (bs : List Value), ∃ (hb : Nat), ∃ (xa : Option Addr), ∃ (xn : Nat), ∃ (xf : Frag), ∃ (f1 : Frag), ∃ (f2 : Frag), ∃ (f3 : Frag), keeps ee [0, 2, 3, 4] = some [(0, .pointer (some ⟨zb, 0, none⟩)), (2, .pointer (some ⟨hb, 0, none⟩)), (3, Er.val ea .none), (4, .int .u8 ((v3.toNat : Nat) : Int))] ∧ ll = [f1, f2, f3, ⟨zb, 0, [c0, c1, c2, c3, c4, c5, .iface src.t src.v, dcv, .int .u32 ((d : Nat) : Int), c9]⟩, ⟨zb, 10, bs⟩, ⟨hb, 0, [.string h.comment, .slice xa xn xn, .int .u64 0, .int .i64 (timeV h.mod), .string h.name, .int .u8 ((h.os : Nat) : Int)]⟩, xf] ++ DL ∧ (readHead l = (.none, l2, h)) ∧ (src.At l2 f1 f2 f3) ∧ (bs.length = 512) ∧ (d < 4294967296) ∧ (ExAt h.extra xa xn xf)) ?_ ?_
          ·
           refine C.seq ?_
           refine C.region ?_
           refine E.pure (S.move rfl) rfl ?_
           refine E.pure (S.and (b := ((2 : Nat) : Int)) rfl rfl (N.and_u8 (by omega) (by omega))) rfl ?_
           refine E.pure (S.ne (b := ((0 : Nat) : Int)) rfl rfl) rfl ?_
           refine E.keep [0, 2, 3, 4, 174] (env1 := [(0, _), (2, _), (3, _), (4, _), (174, _)]) rfl ?_
           refine C.ifp rfl (fun h174 => ?_) (fun h174 => ?_)
           ·
            refine C.seq ?_
            refine C.seq ?_
            refine C.same (Same.splitAt (k := 2) 4 rfl rfl (List.take_append_drop 2 _).symm (by rw [List.length_take]; omega) rfl) ?_
            refine C.relist (L2 := [_, _, _, _, _, _, _, _] ++ DL) rfl ?_
            refine C.draw [0, 1, 2, 4, 0, 16, 32, 64, 136, 256, 512, 512, 4095] (.pure 0 240 (.pure 1 241 (.pure 2 243 (.pure 4 15 (.pure 5 31 (.pure 6 63 (.pure 7 127 (.seg [(3, 247)] (.alt 8 (.pure 9 511 (.pure 10 3071 (.pure 11 2047 (.pure 12 4095 .done)))) .stop))))))))) mixed (by decide +kernel) ?_
            refine D.pure rfl (S.move rfl) rfl ?_
            refine D.pure rfl (S.nilPtr rfl) rfl ?_
            refine D.pure rfl (S.field rfl fa76_1) rfl ?_
            refine D.pure rfl (S.move rfl) rfl ?_
            refine D.pure rfl (S.nilPtr rfl) rfl ?_
            refine D.pure rfl (S.field rfl fa76_5) rfl ?_
            refine D.pure rfl (S.slArr (l := 0) (k := .i64) (h := 2) rfl rfl rfl (by omega) (by omega) Tryd.underlying74 Tryd.sizeOf5) rfl ?_
            refine D.reslot (v := .slice (some ⟨zb, 10, none⟩) (2) (512)) (slice_to (by simp [part]) rfl rfl) ?_
            refine D.seg (by decide) ?_
            refine W.still rfl (S.load 5 (k := 6) rfl rfl rfl Tryd.isAgg71) rfl ?_
            refine W.nil ?_
            refine D.one ?_
            refine O.loud1 rfl (OpX.pick [2, 2, 2, 0] (F := (_ :: _ :: _ :: _ :: _)) rfl (X.call rfl Tryd.call45 (readFull_spec hs src l2 f1 f2 f3 zb 10 2 512 (List.take 2 _) hG (by rw [List.length_take]; omega) (by omega) (by omega)))) rfl ?_; rintro _ _ ⟨_, ⟨k1, k2, k3, hF, rfl, rfl⟩, rfl⟩; refine D.relist (L2 := (_ :: _ :: _ :: _ :: _ :: _ :: _ :: _ :: _)) rfl ?_
            refine D.pure rfl (S.move rfl) rfl ?_
            refine D.pure rfl (S.extract rfl rfl) rfl ?_
            refine D.pure rfl (S.extract rfl rfl) rfl ?_
            refine D.pure rfl (S.assign rfl) rfl ?_
            refine D.keep [0, 2, 3, 4, 174] (env1 := [(0, _), (2, _), (3, _), (4, _), (174, _)]) rfl ?_
            refine C.same (Same.joinAt 3 3 rfl rfl (by rw [show 10 + 2 = 10 + (2 : Nat) from rfl]; congr 1; simp only [List.length_append, bytesV_length, List.length_take, List.length_drop, min_i]; omega)) ?_
            refine C.perml [1, 1, 1, 1, 0, 0, 0] (A := [_, _, _, _, _, _, _]) (F := DL) rfl ?_
            refine C.relist (L2 := [_, _, _, _, _, _, _] ++ DL) rfl ?_
            refine C.seq ?_
            refine C.region ?_
            refine E.pure (S.move rfl) rfl ?_
            refine E.still (S.neErNil rfl) rfl ?_
            refine E.keep [0, 2, 3, 4, 174, 188] (env1 := [(0, _), (2, _), (3, _), (4, _), (174, _), (188, _)]) rfl ?_
            first | refine C.ifp rfl (fun h188 => ?_) (fun h188 => ?_) | refine C.ifNone rfl (fun h188 => ?_) (fun h188 => ?_) | refine C.ifSome rfl (fun h188 => ?_) (fun h188 => ?_) | refine C.ifSe rfl (fun h188 => ?_) (fun h188 => ?_) | refine C.ifNotSe rfl (fun h188 => ?_) (fun h188 => ?_) | refine C.cond rfl (fun h188 => ?_) (fun h188 => ?_)
            ·
             refine C.seq ?_
             refine C.draw [0, 0, 2, 5, 15] (.pure 1 1 (.alt 0 (.alt 2 (.alt 3 (.pure 4 15 .done) .stop) .stop) (.alt 2 (.seg [(0, 6)] (.alt 3 (.pure 4 15 .done) .stop)) .stop))) mixed (by decide +kernel) ?_
             refine D.pure rfl (S.move rfl) rfl ?_
             refine D.alt ?_ ⟨?_, trivial⟩
             ·
              refine O.still rfl (S.loadA 5 (k := 0) rfl rfl rfl rfl Tryd.isAgg69 Tryd.sizeOf69) rfl ?_
              refine D.one ?_
              refine O.loud1 rfl (OpX.pick [] (F := (_ :: _ :: _ :: _ :: _ :: _ :: _ :: _)) rfl (X.call rfl Tryd.call46 (gogzip_noEOF (L := []) hs _))) rfl ?_; rintro _ _ ⟨_, ⟨rfl, rfl⟩, rfl⟩; refine D.relist (L2 := (_ :: _ :: _ :: _ :: _ :: _ :: _ :: _)) rfl ?_
              refine D.one ?_
              refine O.loud0 rfl (X.storeA 5 (k := 0) rfl rfl rfl rfl rfl rfl Tryd.sizeOf69 rfl) ?_; rintro _ _ ⟨rfl, rfl⟩; refine D.relist (L2 := (_ :: _ :: _ :: _ :: _ :: _ :: _ :: _)) rfl ?_
              refine D.pure rfl (S.assign rfl) rfl ?_
              refine D.keep [0, 2, 3, 4, 174, 188] (env1 := [(0, _), (2, _), (3, _), (4, _), (174, _), (188, _)]) rfl ?_
              refine C.ret ?_
              have hRR : readHead l = (noEof (fullErr l2 2), l2.drop 2, h) := by rw [hR, rd4, if_neg (by omega), if_pos h188]
              refine ⟨_, _, ⟨_, _, 5, rfl, rfl, rfl⟩, rfl, _, _, _, _, _, _, _, rfl, rfl, ?_, ?_, ?_, ?_, .inl ⟨?_, [_], rfl⟩⟩
              · rw [hRR]; done
              · rw [hRR]; exact hF
              · rw [buf_join (by omega)]; exact hbs
              · assumption
              · rw [hRR]; first | assumption | (exact noEof_ne (by assumption)) | simp
             ·
              refine O.loud1 rfl (OpX.pick [] (F := (_ :: _ :: _ :: _ :: _ :: _ :: _ :: _)) rfl (X.call rfl Tryd.call46 (gogzip_noEOF (L := []) hs _))) rfl ?_; rintro _ _ ⟨_, ⟨rfl, rfl⟩, rfl⟩; refine D.relist (L2 := (_ :: _ :: _ :: _ :: _ :: _ :: _ :: _)) rfl ?_
              refine D.seg (by decide) ?_
              refine W.still rfl (S.loadA 5 (k := 0) rfl rfl rfl rfl Tryd.isAgg69 Tryd.sizeOf69) rfl ?_
              refine W.nil ?_
              refine D.one ?_
              refine O.loud0 rfl (X.storeA 5 (k := 0) rfl rfl rfl rfl rfl rfl Tryd.sizeOf69 rfl) ?_; rintro _ _ ⟨rfl, rfl⟩; refine D.relist (L2 := (_ :: _ :: _ :: _ :: _ :: _ :: _ :: _)) rfl ?_
              refine D.pure rfl (S.assign rfl) rfl ?_
              refine D.keep [0, 2, 3, 4, 174, 188] (env1 := [(0, _), (2, _), (3, _), (4, _), (174, _), (188, _)]) rfl ?_
              refine C.ret ?_
              have hRR : readHead l = (noEof (fullErr l2 2), l2.drop 2, h) := by rw [hR, rd4, if_neg (by omega), if_pos h188]
              refine ⟨_, _, ⟨_, _, 5, rfl, rfl, rfl⟩, rfl, _, _, _, _, _, _, _, rfl, rfl, ?_, ?_, ?_, ?_, .inl ⟨?_, [_], rfl⟩⟩
              · rw [hRR]; done
              · rw [hRR]; exact hF
              · rw [buf_join (by omega)]; exact hbs
              · assumption
              · rw [hRR]; first | assumption | (exact noEof_ne (by assumption)) | simp
            ·
             rw [h188]
             obtain ⟨w0, w1, r2, hl2⟩ := two h188
             have hw0 := w0.toNat_lt
             have hw1 := w1.toNat_lt
             have h16 := le16_lt hw0 hw1
             have e1 : l2.drop 2 = r2 := by rw [hl2]; rfl
             have e2 : le16of l2 = le16 w0.toNat w1.toNat := by rw [hl2]; rfl
             refine C.relist (L2 := [k1, k2, k3, ⟨zb, 0, [c0, c1, c2, c3, c4, c5, .iface src.t src.v, dcv, .int .u32 ((d : Nat) : Int), c9]⟩, ⟨zb, 10, u8 w0 :: u8 w1 :: bs.drop 2⟩, ⟨hb, 0, [.string h.comment, .slice xa xn xn, .int .u64 0, .int .i64 (timeV h.mod), .string h.name, .int .u8 ((h.os : Nat) : Int)]⟩, xf] ++ DL) (by rw [buf_full (full_len h188), hl2]; rfl) ?_
             rw [e1] at hF
             refine C.skip ?_
             refine C.seq ?_
             refine C.region ?_
             refine E.pure (S.move rfl) rfl ?_
             refine E.pure (S.nilPtr rfl) rfl ?_
             refine E.pure (S.field rfl fa76_5) rfl ?_
             refine E.pure (S.slArr (l := 0) (k := .i64) (h := 2) rfl rfl rfl (by omega) (by omega) Tryd.underlying74 Tryd.sizeOf5) rfl ?_
             refine E.reslot (v := .slice (some ⟨zb, 10, none⟩) (2) (512)) (slice_to (by simp [part]) rfl rfl) ?_
             refine E.loud1 (X.call rfl Tryd.call57 (le16_spec zb 10 2 512 w0 w1 [] (by omega) (Reads.frag (i := 4) (k := 0) rfl rfl))) rfl ?_; rintro _ _ ⟨rfl, rfl⟩; refine E.relist (L2 := (_ :: _ :: _ :: _ :: _ :: _ :: _ :: _)) rfl ?_
             refine E.pure (S.assign rfl) rfl ?_
             refine E.keep [0, 2, 3, 4, 8, 174, 188] (env1 := [(0, _), (2, _), (3, _), (4, _), (8, _), (174, _), (188, _)]) rfl ?_
             refine C.seq ?_
             refine C.region ?_
             refine E.pure (S.move rfl) rfl ?_
             refine E.pure (S.move rfl) rfl ?_
             refine E.pure (S.nilPtr rfl) rfl ?_
             refine E.pure (S.field rfl fa76_3) rfl ?_
             refine E.still (S.load 3 (k := 8) rfl rfl rfl Tryd.isAgg52) rfl ?_
             first | refine E.pure (S.conv rfl Tryd.underlying52 Tryd.underlying120 (N.in_u16 (by omega))) rfl ?_ | refine E.pure (S.conv rfl Tryd.underlying52 Tryd.underlying120 (N.mod_u16 _)) rfl ?_
             refine E.pure (S.ne rfl rfl) rfl ?_
             refine E.keep [0, 2, 3, 4, 8, 174, 188, 203] (env1 := [(0, _), (2, _), (3, _), (4, _), (8, _), (174, _), (188, _), (203, _)]) rfl ?_
             refine C.ifp rfl (fun h203 => ?_) (fun h203 => ?_)
             ·
              refine C.seq ?_
              refine C.draw [0, 0, 1, 7] (.alt 0 (.alt 1 (.alt 2 (.pure 3 7 .done) .stop) (.alt 2 (.seg [(1, 5), (3, 7)] .done) .stop)) (.alt 1 (.seg [(0, 2)] (.alt 2 (.pure 3 7 .done) .stop)) .stop)) mixed (by decide +kernel) ?_
              refine D.alt ?_ ⟨?_, trivial⟩
              ·
               refine O.still rfl (S.loadA 5 (k := 0) rfl rfl rfl rfl Tryd.isAgg69 Tryd.sizeOf69) rfl ?_
               refine D.alt ?_ ⟨?_, trivial⟩
               ·
                refine O.still rfl (S.loadBase rfl hs.g1 Tryd.isAgg59) rfl ?_
                refine D.one ?_
                refine O.loud0 rfl (X.storeA 5 (k := 0) rfl rfl rfl rfl rfl rfl Tryd.sizeOf69 rfl) ?_; rintro _ _ ⟨rfl, rfl⟩; refine D.relist (L2 := (_ :: _ :: _ :: _ :: _ :: _ :: _ :: _)) rfl ?_
                refine D.pure rfl (S.assign rfl) rfl ?_
                refine D.keep [0, 2, 3, 4, 8, 174, 188, 203] (env1 := [(0, _), (2, _), (3, _), (4, _), (8, _), (174, _), (188, _), (203, _)]) rfl ?_
                refine C.ret ?_
                have hRR : readHead l = (.header, r2, h) := by rw [hR, rd4, if_neg (by omega), if_neg (by simpa using h188), if_pos (by rw [e2]; omega), e1]
                refine ⟨_, _, ⟨_, _, 5, rfl, rfl, rfl⟩, rfl, _, _, _, _, _, _, _, rfl, rfl, ?_, ?_, ?_, ?_, .inl ⟨?_, [_], rfl⟩⟩
                · rw [hRR]; done
                · rw [hRR]; exact hF
                · simp only [List.length_cons, List.length_drop]; omega
                · assumption
                · rw [hRR]; first | assumption | (exact noEof_ne (by assumption)) | simp
               ·
                refine O.loud0 rfl (X.storeA 5 (k := 0) rfl rfl rfl rfl rfl rfl Tryd.sizeOf69 rfl) ?_; rintro _ _ ⟨rfl, rfl⟩; refine D.relist (L2 := (_ :: _ :: _ :: _ :: _ :: _ :: _ :: _)) rfl ?_
                refine D.seg (by decide) ?_
                refine W.still rfl (S.loadBase rfl hs.g1 Tryd.isAgg59) rfl ?_
                refine W.pure rfl (S.assign rfl) rfl ?_
                refine W.nil ?_
                refine D.keep [0, 2, 3, 4, 8, 174, 188, 203] (env1 := [(0, _), (2, _), (3, _), (4, _), (8, _), (174, _), (188, _), (203, _)]) rfl ?_
                refine C.ret ?_
                have hRR : readHead l = (.header, r2, h) := by rw [hR, rd4, if_neg (by omega), if_neg (by simpa using h188), if_pos (by rw [e2]; omega), e1]
                refine ⟨_, _, ⟨_, _, 5, rfl, rfl, rfl⟩, rfl, _, _, _, _, _, _, _, rfl, rfl, ?_, ?_, ?_, ?_, .inl ⟨?_, [_], rfl⟩⟩
                · rw [hRR]; done
                · rw [hRR]; exact hF
                · simp only [List.length_cons, List.length_drop]; omega
                · assumption
                · rw [hRR]; first | assumption | (exact noEof_ne (by assumption)) | simp
              ·
               refine O.still rfl (S.loadBase rfl hs.g1 Tryd.isAgg59) rfl ?_
               refine D.seg (by decide) ?_
               refine W.still rfl (S.loadA 5 (k := 0) rfl rfl rfl rfl Tryd.isAgg69 Tryd.sizeOf69) rfl ?_
               refine W.nil ?_
               refine D.one ?_
               refine O.loud0 rfl (X.storeA 5 (k := 0) rfl rfl rfl rfl rfl rfl Tryd.sizeOf69 rfl) ?_; rintro _ _ ⟨rfl, rfl⟩; refine D.relist (L2 := (_ :: _ :: _ :: _ :: _ :: _ :: _ :: _)) rfl ?_
               refine D.pure rfl (S.assign rfl) rfl ?_
               refine D.keep [0, 2, 3, 4, 8, 174, 188, 203] (env1 := [(0, _), (2, _), (3, _), (4, _), (8, _), (174, _), (188, _), (203, _)]) rfl ?_
               refine C.ret ?_
               have hRR : readHead l = (.header, r2, h) := by rw [hR, rd4, if_neg (by omega), if_neg (by simpa using h188), if_pos (by rw [e2]; omega), e1]
               refine ⟨_, _, ⟨_, _, 5, rfl, rfl, rfl⟩, rfl, _, _, _, _, _, _, _, rfl, rfl, ?_, ?_, ?_, ?_, .inl ⟨?_, [_], rfl⟩⟩
               · rw [hRR]; done
               · rw [hRR]; exact hF
               · simp only [List.length_cons, List.length_drop]; omega
               · assumption
               · rw [hRR]; first | assumption | (exact noEof_ne (by assumption)) | simp
             ·
              refine C.skip ?_
              exact ⟨r2, d, h, _, hb, xa, xn, xf, k1, k2, k3, rfl, rfl, by rw [hR, rd4, if_neg (by omega), if_neg (by simpa using h188), if_neg (by rw [e2]; omega), e1], hF, by simp only [List.length_cons, List.length_drop]; omega, hd, hX⟩
           ·
            refine C.skip ?_
            first | exact ⟨r2, d, h, _, hb, xa, xn, xf, k1, k2, k3, rfl, rfl, by rw [hR, rd4, if_neg (by omega), if_neg (by simpa using h188), if_neg (by rw [e2]; omega), e1], hF, by simp only [List.length_cons, List.length_drop]; omega, hd, hX⟩ | exact ⟨l2, d, h, bs, hb, xa, xn, xf, f1, f2, f3, rfl, rfl, by rw [hR, rd4, if_pos (by omega)], hG, hbs, hd, hX⟩
          ·
           rintro _ _ ⟨l2, d, h, bs, hb, xa, xn, xf, f1, f2, f3, hq41, rfl, hR, hG, hbs, hd, hX⟩
           refine C.weaken _ hq41 ?_
           refine C.seq ?_
           refine C.region ?_
           refine E.pure (S.move rfl) rfl ?_
           refine E.pure (S.nilPtr rfl) rfl ?_
           refine E.pure (S.field rfl fa76_3) rfl ?_
           refine E.loud0 (X.store 3 (k := 8) rfl rfl rfl rfl rfl Tryd.sizeOf52) ?_; rintro _ _ ⟨rfl, rfl⟩; refine E.relist (L2 := (_ :: _ :: _ :: _ :: _ :: _ :: _ :: _)) rfl ?_
           refine E.keep [0, 2, 3, 4] (env1 := [(0, _), (2, _), (3, _), (4, _)]) rfl ?_
           refine C.seq ?_
           refine C.seq ?_
           refine C.region ?_
           refine E.pure (S.move rfl) rfl ?_
           refine E.pure (S.nilPtr rfl) rfl ?_
           refine E.pure (S.field rfl fa76_2) rfl ?_
           refine E.still (S.load 3 (k := 7) rfl rfl rfl Tryd.isAgg73) rfl ?_
           refine E.still (S.eqDc hDL rfl Tryd.underlying73) rfl ?_
           refine E.keep [0, 2, 3, 4, 213] (env1 := [(0, _), (2, _), (3, _), (4, _), (213, _)]) rfl ?_
           first | refine C.ifp rfl (fun h213 => ?_) (fun h213 => ?_) | refine C.ifNone rfl (fun h213 => ?_) (fun h213 => ?_) | refine C.ifSome rfl (fun h213 => ?_) (fun h213 => ?_) | refine C.ifSe rfl (fun h213 => ?_) (fun h213 => ?_) | refine C.ifNotSe rfl (fun h213 => ?_) (fun h213 => ?_) | refine C.cond rfl (fun h213 => ?_) (fun h213 => ?_)
           ·
            obtain ⟨rfl, rfl⟩ := hDL.nil h213
            refine C.region ?_
            refine E.pure (S.move rfl) rfl ?_
            refine E.pure (S.move rfl) rfl ?_
            refine E.pure (S.nilPtr rfl) rfl ?_
            refine E.pure (S.field rfl fa76_1) rfl ?_
            refine E.still (S.load 3 (k := 6) rfl rfl rfl Tryd.isAgg71) rfl ?_
            refine E.loud1 (X.call rfl Tryd.call59 (flateNew_in src _)) rfl ?_; rintro _ _ ⟨fb, DN, rfl, hDN, rfl⟩; refine E.relist (L2 := (_ :: _ :: _ :: _ :: _ :: _ :: _ :: _)) rfl ?_
            refine E.pure (S.nilPtr rfl) rfl ?_
            refine E.pure (S.field rfl fa76_2) rfl ?_
            refine E.loud0 (X.store 3 (k := 7) rfl rfl rfl rfl rfl Tryd.sizeOf73) ?_; rintro _ _ ⟨rfl, rfl⟩; refine E.relist (L2 := (_ :: _ :: _ :: _ :: _ :: _ :: _ :: _)) rfl ?_
            refine E.keep [0, 2, 3, 4, 213] (env1 := [(0, _), (2, _), (3, _), (4, _), (213, _)]) rfl ?_
            refine C.seq ?_
            refine C.region ?_
            refine E.still (S.loadA 5 (k := 0) rfl rfl rfl rfl Tryd.isAgg69 Tryd.sizeOf69) rfl ?_
            refine E.loud0 (X.storeA 5 (k := 0) rfl rfl rfl rfl rfl rfl Tryd.sizeOf69 rfl) ?_; rintro _ _ ⟨rfl, rfl⟩; refine E.relist (L2 := (_ :: _ :: _ :: _ :: _ :: _ :: _ :: _)) rfl ?_
            refine E.pure (S.assign (v := Er.val ea .none) rfl) rfl ?_
            refine E.keep [0, 2, 3, 4, 213] (env1 := [(0, _), (2, _), (3, _), (4, _), (213, _)]) rfl ?_
            refine C.ret ?_
            refine ⟨_, _, ⟨_, _, 5, rfl, rfl, rfl⟩, rfl, _, f1, f2, f3, _, _, _, rfl, rfl, ?_, ?_, hbs, ?_, .inr ⟨?_, xa, xn, xf, fb, DN, ?_, ?_, ?_, hDN, rfl⟩⟩
            · rw [hR]; done
            · rw [hR]; exact hG
            · decide
            · rw [hR]
            · rw [hR]; exact hX
            · first | (rw [hR]; done) | (rw [hR]; rfl)
            · rfl
           ·
            obtain ⟨fb, rfl, hraw⟩ := hDL.dec (by simpa using h213)
            refine C.draw [0, 1, 2, 4, 8, 0, 32, 64, 128, 16, 528, 1280] (.pure 0 480 (.pure 1 481 (.pure 2 483 (.pure 5 1567 (.pure 6 1599 (.pure 7 1663 (.seg [(3, 487), (4, 495), (8, 1791), (9, 511), (10, 1023)] (.alt 11 .done .stop)))))))) mixed (by decide +kernel) ?_
            refine D.pure rfl (S.move rfl) rfl ?_
            refine D.pure rfl (S.nilPtr rfl) rfl ?_
            refine D.pure rfl (S.field rfl fa76_2) rfl ?_
            refine D.pure rfl (S.move rfl) rfl ?_
            refine D.pure rfl (S.nilPtr rfl) rfl ?_
            refine D.pure rfl (S.field rfl fa76_1) rfl ?_
            refine D.seg (by decide) ?_
            refine W.still rfl (S.load 3 (k := 7) rfl rfl rfl Tryd.isAgg73) rfl ?_
            refine W.pure rfl (S.assertHas1 rfl Tryd.underlying126 (dmBoth _ Tryd.underlying126)) rfl ?_
            refine W.still rfl (S.load 3 (k := 6) rfl rfl rfl Tryd.isAgg71) rfl ?_
            first | refine W.pure rfl (S.nilPtr rfl) rfl ?_ | refine W.pure rfl (S.nilIface rfl) rfl ?_ | refine W.pure rfl (S.nilFunc rfl) rfl ?_
            refine W.pure rfl (S.move rfl) rfl ?_
            refine W.nil ?_
            refine D.one ?_
            refine O.loud1 rfl (X.invoke rfl rfl (dmReset fb) Tryd.call120 (decReset_in src hraw [_, _, _, _, _, _, _])) rfl ?_; rintro _ _ ⟨rfl, DN, hDN, rfl⟩; refine D.relist (L2 := (_ :: _ :: _ :: _ :: _ :: _ :: _ :: _)) rfl ?_
            refine D.keep [0, 2, 3, 4, 213] (env1 := [(0, _), (2, _), (3, _), (4, _), (213, _)]) rfl ?_
            refine C.seq ?_
            refine C.region ?_
            refine E.still (S.loadA 5 (k := 0) rfl rfl rfl rfl Tryd.isAgg69 Tryd.sizeOf69) rfl ?_
            refine E.loud0 (X.storeA 5 (k := 0) rfl rfl rfl rfl rfl rfl Tryd.sizeOf69 rfl) ?_; rintro _ _ ⟨rfl, rfl⟩; refine E.relist (L2 := (_ :: _ :: _ :: _ :: _ :: _ :: _ :: _)) rfl ?_
            refine E.pure (S.assign (v := Er.val ea .none) rfl) rfl ?_
            refine E.keep [0, 2, 3, 4, 213] (env1 := [(0, _), (2, _), (3, _), (4, _), (213, _)]) rfl ?_
            refine C.ret ?_
            refine ⟨_, _, ⟨_, _, 5, rfl, rfl, rfl⟩, rfl, _, f1, f2, f3, _, _, _, rfl, rfl, ?_, ?_, hbs, ?_, .inr ⟨?_, xa, xn, xf, fb, DN, ?_, ?_, ?_, hDN, rfl⟩⟩
            · rw [hR]; done
            · rw [hR]; exact hG
            · decide
            · rw [hR]
            · rw [hR]; exact hX
            · first | (rw [hR]; done) | (rw [hR]; rfl)
            · rfl

/-- The same without what is of no more use. -/
def HeadRes {K : Known} {ea : Fin 5 → Addr} (src : Src K ea) (l : List UInt8) (zb : Nat) (c0 c1 c2 c3 c4 c5 c9 dcv : Value) (DL : Frags) (r : Value) (L : Frags) : Prop :=
  ∃ hs f1 f2 f3 d2 bs2, hs.length = 6 ∧ hs.all one = true ∧ r = .tuple #[.agg hs.toArray, Er.val ea (readHead l).1] ∧ src.At (readHead l).2.1 f1 f2 f3 ∧ bs2.length = 512 ∧ d2 < 4294967296 ∧
    (((readHead l).1 ≠ .none ∧ L = [f1, f2, f3, ⟨zb, 0, [c0, c1, c2, c3, c4, c5, .iface src.t src.v, dcv, .int .u32 ((d2 : Nat) : Int), c9]⟩, ⟨zb, 10, bs2⟩] ++ DL) ∨
     ((readHead l).1 = .none ∧ ∃ xa xn X fb DN, ExAt (readHead l).2.2.extra xa xn X ∧ hs = headV (readHead l).2.2 xa xn ∧ d2 = 0 ∧ DecNew src fb DN ∧
        L = [f1, f2, f3, ⟨zb, 0, [c0, c1, c2, c3, c4, c5, .iface src.t src.v, .iface 157 (.pointer (some ⟨fb, 0, none⟩)), .int .u32 ((d2 : Nat) : Int), c9]⟩, ⟨zb, 10, bs2⟩, X] ++ DN))

theorem readHeader_spec {K : Known} {ea : Fin 5 → Addr} (hs : Sents K ea) (src : Src K ea) (l : List UInt8) (x1 x2 x3 : Frag) (zb d0 : Nat) (c0 c1 c2 c3 c4 c5 c9 dcv : Value) (bs0 : List Value) (DL : Frags) (hDL : DcIn dcv DL) (hA : src.At l x1 x2 x3) (hbs0 : bs0.length = 512) (hd0 : d0 < 4294967296) :
    Fn Tryd.prog K 48 #[.pointer (some ⟨zb, 0, none⟩)] ([x1, x2, x3, ⟨zb, 0, [c0, c1, c2, c3, c4, c5, .iface src.t src.v, dcv, .int .u32 ((d0 : Nat) : Int), c9]⟩, ⟨zb, 10, bs0⟩] ++ DL) (HeadRes src l zb c0 c1 c2 c3 c4 c5 c9 dcv DL) := by
  refine Fn.lose (readHeader_first hs src l x1 x2 x3 zb d0 c0 c1 c2 c3 c4 c5 c9 dcv bs0 DL hDL hA hbs0 hd0) ?_
  rintro v L' ⟨hs', f1, f2, f3, d2, bs2, hb, h6, h7, rfl, hF, hb2, hd2, ⟨hne, T, rfl⟩ | ⟨hno, xa, xn, X, fb, DN, hX, hv, hdz, hDN, rfl⟩⟩
  · refine ⟨[f1, f2, f3, ⟨zb, 0, [c0, c1, c2, c3, c4, c5, .iface src.t src.v, dcv, .int .u32 ((d2 : Nat) : Int), c9]⟩, ⟨zb, 10, bs2⟩] ++ DL, ⟨hb, 0, hs'⟩ :: T, Same.perm ?_, hs', f1, f2, f3, d2, bs2, h6, h7, rfl, hF, hb2, hd2, .inl ⟨hne, rfl⟩⟩
    show ([f1, f2, f3, ⟨zb, 0, [c0, c1, c2, c3, c4, c5, .iface src.t src.v, dcv, .int .u32 ((d2 : Nat) : Int), c9]⟩, ⟨zb, 10, bs2⟩] ++ ((⟨hb, 0, hs'⟩ :: T) ++ DL)).Perm _
    rw [List.append_assoc]
    exact List.perm_append_comm.append_left _
  · refine ⟨[f1, f2, f3, ⟨zb, 0, [c0, c1, c2, c3, c4, c5, .iface src.t src.v, .iface 157 (.pointer (some ⟨fb, 0, none⟩)), .int .u32 ((d2 : Nat) : Int), c9]⟩, ⟨zb, 10, bs2⟩, X] ++ DN, [⟨hb, 0, hs'⟩], Same.perm ?_, hs', f1, f2, f3, d2, bs2, h6, h7, rfl, hF, hb2, hd2, .inr ⟨hno, xa, xn, X, fb, DN, hX, hv, hdz, hDN, rfl⟩⟩
    refine List.Perm.trans (List.perm_middle (l₁ := [f1, f2, f3, ⟨zb, 0, [c0, c1, c2, c3, c4, c5, .iface src.t src.v, .iface 157 (.pointer (some ⟨fb, 0, none⟩)), .int .u32 ((d2 : Nat) : Int), c9]⟩, ⟨zb, 10, bs2⟩]) (l₂ := X :: DN)) ?_
    exact (List.perm_append_comm (l₁ := [_]))

end Go.Eng
namespace Go.Eng
open Go Go.Proofs
set_option maxRecDepth 100000

def zip10 (rd dec : Value) : List Value := [.string ⟨#[]⟩, .slice none 0 0, .int .u64 0, .int .i64 0, .string ⟨#[]⟩, .int .u8 0, rd, dec, .int .u32 0, .int .u32 0]
def buf0 : List Value := List.replicate 512 (.int .u8 0)
def zipEnd (e : Value) (ms : Bool) : List Value := [e, .bool ms]

theorem buf0_length : buf0.length = 512 := List.length_replicate

theorem zipZero : (Value.agg Tryd.zeroCells76).cells = (zip10 .nilIface .nilIface ++ (buf0 ++ zipEnd .nilIface false)).toArray := by kernel_rfl
theorem zipSize : (Value.agg Tryd.zeroCells76).cells.size = 524 := by kernel_rfl
theorem zipSet (dec : Value) : ((Value.agg Tryd.zeroCells76).cells.setIfInBounds 7 dec).setIfInBounds 523 (.bool true) = (zip10 .nilIface dec ++ (buf0 ++ zipEnd .nilIface true)).toArray := by
  rw [zipZero]
  apply Array.ext'
  simp only [Array.toList_setIfInBounds]
  have h1 : (zip10 .nilIface .nilIface).set 7 dec = zip10 .nilIface dec := rfl
  have h2 : (zip10 .nilIface dec).length = 10 := rfl
  have h3 : (zip10 .nilIface .nilIface).length = 10 := rfl
  rw [List.set_append_left _ _ (by rw [h3]; decide), h1, List.set_append_right _ _ (by rw [h2]; decide), List.set_append_right _ _ (by rw [h2, buf0_length]; decide), h2, buf0_length]
  rfl
theorem zipBuild (dec : Value) (h : one dec = true) (w : World) : (Instr.build 76 [(2, dec), (7, .bool true)].toArray).run Tryd.prog w = .ok (.agg (zip10 .nilIface dec ++ (buf0 ++ zipEnd .nilIface true)).toArray) w := by
  simp [Instr.build, Tryd.zeroValue76]
  rw [fill_one (off := 7) rfl h (by rw [zipSize]; decide), fill_one (off := 523) rfl rfl (by rw [Array.size_setIfInBounds, zipSize]; decide), fill_nil]
  simp [zipSet]

theorem zipSame (b : Nat) (F : Frags) (p0 p1 p2 : List Value) (h0 : p0.length = 10) (h1 : p1.length = 512) : Same (⟨b, 0, p0 ++ (p1 ++ p2)⟩ :: F) ([⟨b, 0, p0⟩, ⟨b, 10, p1⟩, ⟨b, 522, p2⟩] ++ F) := by
  have := Same.chunks b F [(0, p0), (10, p1), (522, p2)] 0 (by simp [chunksOk, h0, h1])
  simpa using this

theorem zip_one (dec : Value) (h : one dec = true) : (zip10 .nilIface dec ++ (buf0 ++ zipEnd .nilIface true)).all one = true := by
  rw [List.all_append, List.all_append]
  have h1 : (zip10 .nilIface dec).all one = true := by simp only [zip10, List.all_cons, List.all_nil, h]; rfl
  have h2 : buf0.all one = true := by rw [List.all_eq_true]; intro v hv; rw [List.eq_of_mem_replicate hv]; rfl
  rw [h1, h2]; rfl

theorem zip_len (dec : Value) : (zip10 .nilIface dec ++ (buf0 ++ zipEnd .nilIface true)).length = 524 := by
  rw [List.length_append, List.length_append, buf0_length]; rfl

theorem six {hs : List Value} (h : hs.length = 6) : ∃ a0 a1 a2 a3 a4 a5, hs = [a0, a1, a2, a3, a4, a5] := by
  match hs, h with
  | [a0, a1, a2, a3, a4, a5], _ => exact ⟨_, _, _, _, _, _, rfl⟩
theorem Reads.mem {K : Known} {L : Frags} {b o k : Nat} {cs vs : List Value} (hL : ⟨b, o, cs⟩ ∈ L) (h : (cs.drop k).take vs.length = vs) : Reads K L b (o + k) vs := by
  obtain ⟨i, hi⟩ := List.mem_iff_getElem?.1 hL
  exact Reads.frag hi h

end Go.Eng
namespace Go.Eng
open Go Go.Proofs
set_option maxRecDepth 100000

/-- A gzip.Reader whose memory may be used anew. -/
def ZOld (zb : Nat) (L : Frags) : Prop := ∃ c0 c1 c2 c3 c4 c5 rv dcv dg sz bs ev ms DL, bs.length = 512 ∧ DcIn dcv DL ∧ L = [⟨zb, 0, [c0, c1, c2, c3, c4, c5, rv, dcv, dg, sz]⟩, ⟨zb, 10, bs⟩, ⟨zb, 522, [ev, ms]⟩] ++ DL
/-- A gzip.Reader that has read a header; behind it stands rest. -/
def ZAt {K : Known} {ea : Fin 5 → Addr} (src : Src K ea) (zb : Nat) (h : Hd) (ms : Bool) (rest : List UInt8) (L : Frags) : Prop :=
  ∃ f1 f2 f3 bs xa xn X fb DN, src.At rest f1 f2 f3 ∧ bs.length = 512 ∧ ExAt h.extra xa xn X ∧ DecNew src fb DN ∧
    L = [f1, f2, f3, ⟨zb, 0, [.string h.comment, .slice xa xn xn, .int .u64 0, .int .i64 (timeV h.mod), .string h.name, .int .u8 ((h.os : Nat) : Int), .iface src.t src.v, .iface 157 (.pointer (some ⟨fb, 0, none⟩)), .int .u32 ((0 : Nat) : Int), .int .u32 0]⟩, ⟨zb, 10, bs⟩, ⟨zb, 522, [Er.val ea .none, .bool ms]⟩, X] ++ DN
/-- How Reset ends. -/
def ResetEnd {K : Known} {ea : Fin 5 → Addr} (src : Src K ea) (zb : Nat) (l : List UInt8) (L : Frags) : Prop :=
  ((readHead l).1 ≠ .none ∧ ∃ f1 f2 f3 T, src.At (readHead l).2.1 f1 f2 f3 ∧ L = [f1, f2, f3] ++ T) ∨ ((readHead l).1 = .none ∧ ZAt src zb (readHead l).2.2 true (readHead l).2.1 L)
theorem DcIn.one {dcv : Value} {DL : Frags} (h : DcIn dcv DL) : one dcv = true := by
  rcases h with ⟨rfl, _⟩ | ⟨fb, rfl, _⟩
  · rfl
  · rfl
theorem readHeader_in {K : Known} {ea : Fin 5 → Addr} (hs : Sents K ea) (src : Src K ea) (l : List UInt8) (x1 x2 x3 : Frag) (zb d0 : Nat) (c0 c1 c2 c3 c4 c5 c9 dcv : Value) (bs0 : List Value) (DL : Frags) (hDL : DcIn dcv DL) (hA : src.At l x1 x2 x3) (hbs0 : bs0.length = 512) (hd0 : d0 < 4294967296) (EF : Frags) :
    Fn Tryd.prog K 48 #[.pointer (some ⟨zb, 0, none⟩)] ([x1, x2, x3, ⟨zb, 0, [c0, c1, c2, c3, c4, c5, .iface src.t src.v, dcv, .int .u32 ((d0 : Nat) : Int), c9]⟩, ⟨zb, 10, bs0⟩] ++ (EF ++ DL)) fun r L =>
      ∃ hs f1 f2 f3 d2 bs2, hs.length = 6 ∧ hs.all one = true ∧ r = .tuple #[.agg hs.toArray, Er.val ea (readHead l).1] ∧ src.At (readHead l).2.1 f1 f2 f3 ∧ bs2.length = 512 ∧ d2 < 4294967296 ∧
    (((readHead l).1 ≠ .none ∧ L = [f1, f2, f3, ⟨zb, 0, [c0, c1, c2, c3, c4, c5, .iface src.t src.v, dcv, .int .u32 ((d2 : Nat) : Int), c9]⟩, ⟨zb, 10, bs2⟩] ++ (EF ++ DL)) ∨
     ((readHead l).1 = .none ∧ ∃ xa xn X fb DN, ExAt (readHead l).2.2.extra xa xn X ∧ hs = headV (readHead l).2.2 xa xn ∧ d2 = 0 ∧ DecNew src fb DN ∧
        L = [f1, f2, f3, ⟨zb, 0, [c0, c1, c2, c3, c4, c5, .iface src.t src.v, .iface 157 (.pointer (some ⟨fb, 0, none⟩)), .int .u32 ((d2 : Nat) : Int), c9]⟩, ⟨zb, 10, bs2⟩] ++ (EF ++ (X :: DN)))) := by
  have pm : ∀ (a1 a2 a3 a4 a5 : Frag) (DL : Frags), ([a1, a2, a3, a4, a5] ++ (EF ++ DL)).Perm (([a1, a2, a3, a4, a5] ++ DL) ++ EF) := fun a1 a2 a3 a4 a5 DL => by
    rw [List.append_assoc]; exact List.perm_append_comm.append_left _
  refine Fn.sameR (Fn.perm (pm _ _ _ _ _ DL) (Fn.frame (F := EF) (readHeader_spec hs src l x1 x2 x3 zb d0 c0 c1 c2 c3 c4 c5 c9 dcv bs0 DL hDL hA hbs0 hd0))) ?_
  rintro v L ⟨L1, ⟨hs', f1, f2, f3, d2, bs2, h6, h7, rfl, hF, hb2, hd2, ⟨hne, rfl⟩ | ⟨hno, xa, xn, X, fb, DN, hX, hv, hdz, hDN, rfl⟩⟩, rfl⟩
  · exact ⟨_, Same.perm (pm _ _ _ _ _ DL).symm, hs', f1, f2, f3, d2, bs2, h6, h7, rfl, hF, hb2, hd2, .inl ⟨hne, rfl⟩⟩
  · exact ⟨_, Same.perm (pm _ _ _ _ _ (X :: DN)).symm, hs', f1, f2, f3, d2, bs2, h6, h7, rfl, hF, hb2, hd2, .inr ⟨hno, xa, xn, X, fb, DN, hX, hv, hdz, hDN, rfl⟩⟩
theorem zipStore2 (zb : Nat) (v : List Value) (F : Frags) (cs : List Value) (h : cs.length = 524) (dcv : Value) :
    ((⟨zb, 0, cs⟩ : Frag) :: F).set 0 ⟨zb, 0, cs.take 0 ++ (zip10 .nilIface dcv ++ (buf0 ++ zipEnd .nilIface true)) ++ cs.drop (0 + 524)⟩ = ⟨zb, 0, zip10 .nilIface dcv ++ (buf0 ++ zipEnd .nilIface true)⟩ :: F := by
  rw [List.take_zero, List.nil_append, List.drop_eq_nil_of_le (by rw [h]; decide), List.append_nil]
  rfl

theorem reset_walk {K : Known} {ea : Fin 5 → Addr} (hs : Sents K ea) (src : Src K ea) (l : List UInt8) (x1 x2 x3 : Frag) (zb : Nat) (hA : src.At l x1 x2 x3) (c0 c1 c2 c3 c4 c5 rv dcv dg sz ev ms : Value) (bs : List Value) (DL : Frags) (hbs : bs.length = 512) (hDL : DcIn dcv DL) : Fn Tryd.prog K 38 #[.pointer (some ⟨zb, 0, none⟩), .iface src.t src.v] ([x1, x2, x3, ⟨zb, 0, [c0, c1, c2, c3, c4, c5, rv, dcv, dg, sz]⟩, ⟨zb, 10, bs⟩, ⟨zb, 522, [ev, ms]⟩] ++ DL) (fun r L => r = Er.val ea (readHead l).1 ∧ ResetEnd src zb l L) := by
 refine Fn.intro (args := [.pointer (some ⟨zb, 0, none⟩), .iface src.t src.v]) (RR := Ret1 4 _) Tryd.func38 rfl rfl Tryd.ntmps38 (res1 Tryd.results38) ?_
 refine C.reenv (env2 := [(0, .pointer (some ⟨zb, 0, none⟩)), (1, .iface src.t src.v)]) rfl ?_
 refine C.seq ?_
 refine C.region ?_
 refine E.pure (S.assign (v := Er.val ea .none) rfl) rfl ?_
 refine E.keep [0, 1, 4] (env1 := [(0, _), (1, _), (4, _)]) rfl ?_
 refine C.seq ?_
 refine C.region ?_
 refine E.pure (S.move rfl) rfl ?_
 refine E.pure (S.move rfl) rfl ?_
 refine E.pure (S.nilPtr rfl) rfl ?_
 refine E.pure (S.field rfl fa76_2) rfl ?_
 refine E.still (S.load 3 (k := 7) rfl rfl rfl Tryd.isAgg73) rfl ?_
 refine E.pure (S.buildV [(2, dcv), (7, .bool true)] rfl (zipBuild dcv hDL.one)) rfl ?_
 refine E.pure (S.nilPtr rfl) rfl ?_
 refine E.perml [3, 3, 3, 0, 0, 0] (A := [_, _, _, _, _, _]) (F := DL) rfl ?_
 refine E.same (zipSame zb ([x1, x2, x3] ++ DL) [c0, c1, c2, c3, c4, c5, rv, dcv, dg, sz] bs [ev, ms] rfl hbs).symm ?_
 refine E.relist (L2 := ⟨zb, 0, _⟩ :: x1 :: x2 :: x3 :: DL) rfl ?_
 refine E.loud0 (X.storeA 0 (k := 0) rfl rfl rfl (zip_one dcv hDL.one) (zip_len dcv) (by rw [Nat.ble_eq]; simp [hbs]) Tryd.sizeOf76 rfl) ?_
 rintro _ _ ⟨rfl, rfl⟩
 refine E.relist (L2 := ⟨zb, 0, zip10 .nilIface dcv ++ (buf0 ++ zipEnd .nilIface true)⟩ :: x1 :: x2 :: x3 :: DL) (zipStore2 zb [] _ _ (by simp [hbs]) dcv) ?_
 refine E.keep [0, 1, 4] (env1 := [(0, _), (1, _), (4, _)]) rfl ?_
 refine C.same (zipSame zb ([x1, x2, x3] ++ DL) (zip10 .nilIface dcv) buf0 (zipEnd .nilIface true) rfl buf0_length) ?_
 refine C.perml [3, 3, 3, 0, 0, 0] (A := [_, _, _, _, _, _]) (F := DL) rfl ?_
 refine C.relist (L2 := [x1, x2, x3, ⟨zb, 0, [.string ⟨#[]⟩, .slice none 0 0, .int .u64 0, .int .i64 0, .string ⟨#[]⟩, .int .u8 0, .nilIface, dcv, .int .u32 0, .int .u32 0]⟩, ⟨zb, 10, buf0⟩, ⟨zb, 522, [.nilIface, .bool true]⟩] ++ DL) rfl ?_
 refine C.seq ?_
 refine C.seq ?_
 refine C.region ?_
 refine E.pure (S.move rfl) rfl ?_
 refine E.pure (S.assertHas rfl Tryd.underlying71 (src.both _ Tryd.underlying71)) rfl ?_
 refine E.pure (S.move rfl) rfl ?_
 refine E.pure (S.extract rfl rfl) rfl ?_
 refine E.pure (S.extract rfl rfl) rfl ?_
 refine E.pure (S.assign rfl) rfl ?_
 refine E.pure (S.assign rfl) rfl ?_
 refine E.keep [0, 1, 4, 5, 6] (env1 := [(0, _), (1, _), (4, _), (5, _), (6, _)]) rfl ?_
 refine C.seq ?_
 refine C.region ?_
 refine E.pure (S.move rfl) rfl ?_
 refine E.keep [0, 1, 4, 5, 6, 19] (env1 := [(0, _), (1, _), (4, _), (5, _), (6, _), (19, _)]) rfl ?_
 refine C.yes rfl (rfl) ?_
 refine C.region ?_
 refine E.pure (S.move rfl) rfl ?_
 refine E.pure (S.move rfl) rfl ?_
 refine E.pure (S.nilPtr rfl) rfl ?_
 refine E.pure (S.field rfl fa76_1) rfl ?_
 refine E.loud0 (X.store 3 (k := 6) rfl rfl rfl rfl rfl Tryd.sizeOf71) ?_; rintro _ _ ⟨rfl, rfl⟩; refine E.relist (L2 := (_ :: _ :: _ :: _ :: _ :: _ :: _)) rfl ?_
 refine E.keep [0, 1, 4, 5, 6, 19] (env1 := [(0, _), (1, _), (4, _), (5, _), (6, _), (19, _)]) rfl ?_
 refine C.seq ?_
 refine C.region ?_
 refine E.pure (S.move rfl) rfl ?_
 refine E.pure (S.move rfl) rfl ?_
 refine E.pure (S.move rfl) rfl ?_
 refine E.loud1 (X.call rfl Tryd.call48 (readHeader_in hs src l x1 x2 x3 zb 0 _ _ _ _ _ _ (.int .u32 0) dcv buf0 DL hDL hA buf0_length (by decide) [_])) rfl ?_
 rintro _ _ ⟨hs6, f1, f2, f3, d2, bs2, h6, h7, rfl, hF, hb2, hd2, ⟨hne, rfl⟩ | ⟨hno, xa, xn, xf, fb, DN, hX, rfl, rfl, hDN, rfl⟩⟩
 ·
  refine E.relist (L2 := (_ :: _ :: _ :: _ :: _ :: _ :: _)) rfl ?_
  obtain ⟨a0, a1, a2, a3, a4, a5, rfl⟩ := six h6
  refine E.pure (S.move rfl) rfl ?_
  refine E.pure (S.extract rfl rfl) rfl ?_
  refine E.pure (S.extract rfl rfl) rfl ?_
  refine E.pure (S.nilPtr rfl) rfl ?_
  refine E.pure (S.field rfl fa76_0) rfl ?_
  refine E.loud0 (X.storeA 3 (k := 0) rfl rfl rfl h7 rfl rfl Tryd.sizeOf69 rfl) ?_; rintro _ _ ⟨rfl, rfl⟩; refine E.relist (L2 := (_ :: _ :: _ :: _ :: _ :: _ :: _)) rfl ?_
  refine E.pure (S.nilPtr rfl) rfl ?_
  refine E.pure (S.field rfl fa76_6) rfl ?_
  refine E.loud0 (X.store 5 (k := 0) rfl rfl rfl (one_er _) rfl Tryd.sizeOf59) ?_; rintro _ _ ⟨rfl, rfl⟩; refine E.relist (L2 := (_ :: _ :: _ :: _ :: _ :: _ :: _)) rfl ?_
  refine E.keep [0, 1, 4, 5, 6, 19] (env1 := [(0, _), (1, _), (4, _), (5, _), (6, _), (19, _)]) rfl ?_
  refine C.seq ?_
  refine C.region ?_
  refine E.pure (S.move rfl) rfl ?_
  refine E.pure (S.nilPtr rfl) rfl ?_
  refine E.pure (S.field rfl fa76_6) rfl ?_
  refine E.still (S.load 5 (k := 0) rfl rfl rfl Tryd.isAgg59) rfl ?_
  refine E.pure (S.assign rfl) rfl ?_
  refine E.keep [0, 1, 4, 5, 6, 19] (env1 := [(0, _), (1, _), (4, _), (5, _), (6, _), (19, _)]) rfl ?_
  refine C.ret ?_
  refine ⟨_, rfl, rfl, .inl ⟨hne, f1, f2, f3, _, hF, rfl⟩⟩
 ·
  refine E.relist (L2 := (_ :: _ :: _ :: _ :: _ :: _ :: _ :: _)) rfl ?_
  refine E.pure (S.move rfl) rfl ?_
  refine E.pure (S.extract rfl rfl) rfl ?_
  refine E.pure (S.extract rfl rfl) rfl ?_
  refine E.pure (S.nilPtr rfl) rfl ?_
  refine E.pure (S.field rfl fa76_0) rfl ?_
  refine E.loud0 (X.storeA 3 (k := 0) rfl rfl rfl rfl rfl rfl Tryd.sizeOf69 rfl) ?_; rintro _ _ ⟨rfl, rfl⟩; refine E.relist (L2 := (_ :: _ :: _ :: _ :: _ :: _ :: _ :: _)) rfl ?_
  refine E.pure (S.nilPtr rfl) rfl ?_
  refine E.pure (S.field rfl fa76_6) rfl ?_
  refine E.loud0 (X.store 5 (k := 0) rfl rfl rfl (one_er _) rfl Tryd.sizeOf59) ?_; rintro _ _ ⟨rfl, rfl⟩; refine E.relist (L2 := (_ :: _ :: _ :: _ :: _ :: _ :: _ :: _)) rfl ?_
  refine E.keep [0, 1, 4, 5, 6, 19] (env1 := [(0, _), (1, _), (4, _), (5, _), (6, _), (19, _)]) rfl ?_
  refine C.seq ?_
  refine C.region ?_
  refine E.pure (S.move rfl) rfl ?_
  refine E.pure (S.nilPtr rfl) rfl ?_
  refine E.pure (S.field rfl fa76_6) rfl ?_
  refine E.still (S.load 5 (k := 0) rfl rfl rfl Tryd.isAgg59) rfl ?_
  refine E.pure (S.assign rfl) rfl ?_
  refine E.keep [0, 1, 4, 5, 6, 19] (env1 := [(0, _), (1, _), (4, _), (5, _), (6, _), (19, _)]) rfl ?_
  refine C.ret ?_
  refine ⟨_, rfl, rfl, .inr ⟨hno, f1, f2, f3, bs2, xa, xn, xf, fb, DN, hF, hb2, hX, hDN, ?_⟩⟩
  rw [← hno]
  rfl
theorem reset_spec {K : Known} {ea : Fin 5 → Addr} (hs : Sents K ea) (src : Src K ea) (l : List UInt8) (x1 x2 x3 : Frag) (zb : Nat) (hA : src.At l x1 x2 x3) {LZ : Frags} (hZ : ZOld zb LZ) :
    Fn Tryd.prog K 38 #[.pointer (some ⟨zb, 0, none⟩), .iface src.t src.v] ([x1, x2, x3] ++ LZ) fun r L => r = Er.val ea (readHead l).1 ∧ ResetEnd src zb l L := by
  obtain ⟨c0, c1, c2, c3, c4, c5, rv, dcv, dg, sz, bs, ev, ms, DL, h1, h2, rfl⟩ := hZ
  exact reset_walk hs src l x1 x2 x3 zb hA c0 c1 c2 c3 c4 c5 rv dcv dg sz ev ms bs DL h1 h2

theorem newReader_walk {K : Known} {ea : Fin 5 → Addr} (hs : Sents K ea) (src : Src K ea) (l : List UInt8) (x1 x2 x3 : Frag) (hA : src.At l x1 x2 x3) : Fn Tryd.prog K 25 #[.iface src.t src.v] ([x1, x2, x3]) (fun r L => ((readHead l).1 ≠ .none ∧ r = .tuple #[.pointer none, Er.val ea (readHead l).1] ∧ ∃ f1 f2 f3 T, src.At (readHead l).2.1 f1 f2 f3 ∧ L = [f1, f2, f3] ++ T) ∨ ((readHead l).1 = .none ∧ ∃ zb, r = .tuple #[.pointer (some ⟨zb, 0, none⟩), Er.val ea .none] ∧ ZAt src zb (readHead l).2.2 true (readHead l).2.1 L)) := by
 refine Fn.intro (args := [.iface src.t src.v]) (RR := Ret2 2 3 _) Tryd.func25 rfl rfl Tryd.ntmps25 (res2 Tryd.results25) ?_
 refine C.reenv (env2 := [(0, .iface src.t src.v)]) rfl ?_
 refine C.seq ?_
 refine C.region ?_
 refine E.pure (S.assign rfl) rfl ?_
 refine E.pure (S.assign (v := Er.val ea .none) rfl) rfl ?_
 refine E.keep [0, 2, 3] (env1 := [(0, _), (2, _), (3, _)]) rfl ?_
 refine C.seq ?_
 refine C.region ?_
 refine E.loud1 (X.alloc Tryd.zeroValue76) rfl ?_; rintro _ _ ⟨b6, rfl, rfl⟩; refine E.relist (L2 := [_, _, _, _]) rfl ?_
 refine E.relist (L2 := [⟨b6, 0, zip10 .nilIface .nilIface ++ (buf0 ++ zipEnd .nilIface false)⟩, x1, x2, x3]) (by rw [zipZero]) ?_
 refine E.same (zipSame b6 [x1, x2, x3] _ _ _ rfl buf0_length) ?_
 refine E.perml [3, 3, 3, 0, 0, 0] (A := [_, _, _, _, _, _]) (F := []) rfl ?_
 refine E.relist (L2 := [x1, x2, x3, ⟨b6, 0, [.string ⟨#[]⟩, .slice none 0 0, .int .u64 0, .int .i64 0, .string ⟨#[]⟩, .int .u8 0, .nilIface, .nilIface, .int .u32 0, .int .u32 0]⟩, ⟨b6, 10, buf0⟩, ⟨b6, 522, [.nilIface, .bool false]⟩]) rfl ?_
 refine E.pure (S.assign rfl) rfl ?_
 refine E.keep [0, 2, 3, 4] (env1 := [(0, _), (2, _), (3, _), (4, _)]) rfl ?_
 refine C.seq ?_
 refine C.seq ?_
 refine C.region ?_
 refine E.pure (S.move rfl) rfl ?_
 refine E.pure (S.move rfl) rfl ?_
 refine E.loud1 (X.call rfl Tryd.call38 (reset_walk hs src l x1 x2 x3 b6 hA _ _ _ _ _ _ _ _ _ _ _ _ _ [] buf0_length (.inl ⟨rfl, rfl⟩))) rfl ?_
 rintro _ L2 ⟨rfl, hE⟩
 refine E.pure (S.assign rfl) rfl ?_
 refine E.keep [2, 3, 4, 5] (env1 := [(2, _), (3, _), (4, _), (5, _)]) rfl ?_
 refine C.seq ?_
 refine C.region ?_
 refine E.pure (S.move rfl) rfl ?_
 refine E.still (S.neErNil rfl) rfl ?_
 refine E.keep [2, 3, 4, 5, 11] (env1 := [(2, _), (3, _), (4, _), (5, _), (11, _)]) rfl ?_
 first | refine C.ifp rfl (fun h11 => ?_) (fun h11 => ?_) | refine C.ifNone rfl (fun h11 => ?_) (fun h11 => ?_) | refine C.ifSome rfl (fun h11 => ?_) (fun h11 => ?_) | refine C.ifSe rfl (fun h11 => ?_) (fun h11 => ?_) | refine C.ifNotSe rfl (fun h11 => ?_) (fun h11 => ?_) | refine C.cond rfl (fun h11 => ?_) (fun h11 => ?_)
 ·
  have hE2 := hE.resolve_right (fun h => h11 h.1)
  refine C.seq ?_
  refine C.region ?_
  refine E.pure (S.move rfl) rfl ?_
  refine E.pure (S.assign rfl) rfl ?_
  refine E.pure (S.assign rfl) rfl ?_
  refine E.keep [2, 3, 4, 5, 11] (env1 := [(2, _), (3, _), (4, _), (5, _), (11, _)]) rfl ?_
  refine C.ret ?_
  exact ⟨_, _, rfl, rfl, .inl ⟨h11, rfl, hE2.2⟩⟩
 ·
  have hE2 := hE.resolve_left (fun h => h.1 h11)
  refine C.skip ?_
  refine C.seq ?_
  refine C.region ?_
  refine E.pure (S.move rfl) rfl ?_
  refine E.pure (S.assign rfl) rfl ?_
  refine E.pure (S.assign (v := Er.val ea .none) rfl) rfl ?_
  refine E.keep [2, 3, 4, 5, 11] (env1 := [(2, _), (3, _), (4, _), (5, _), (11, _)]) rfl ?_
  refine C.ret ?_
  exact ⟨_, _, rfl, rfl, .inr ⟨h11, b6, rfl, hE2.2⟩⟩
/-- NewReader: nothing but the source is kept if there is an error. -/
theorem zNewReader_spec {K : Known} {ea : Fin 5 → Addr} (hs : Sents K ea) (src : Src K ea) (l : List UInt8) (x1 x2 x3 : Frag) (hA : src.At l x1 x2 x3) :
    Fn Tryd.prog K 25 #[.iface src.t src.v] [x1, x2, x3] (fun r L => ((readHead l).1 ≠ .none ∧ r = .tuple #[.pointer none, Er.val ea (readHead l).1] ∧ ∃ f1 f2 f3, src.At (readHead l).2.1 f1 f2 f3 ∧ L = [f1, f2, f3]) ∨
      ((readHead l).1 = .none ∧ ∃ zb, r = .tuple #[.pointer (some ⟨zb, 0, none⟩), Er.val ea (readHead l).1] ∧ ZAt src zb (readHead l).2.2 true (readHead l).2.1 L)) := by
  refine Fn.lose (newReader_walk hs src l x1 x2 x3 hA) ?_
  rintro v L' (⟨hne, rfl, f1, f2, f3, T, hF, rfl⟩ | ⟨hno, zb, rfl, hz⟩)
  · exact ⟨_, _, Same.refl _, .inl ⟨hne, rfl, f1, f2, f3, hF, rfl⟩⟩
  · exact ⟨L', [], Same.of_eq (List.append_nil _).symm, .inr ⟨hno, zb, by rw [hno], hz⟩⟩

theorem multi_walk {K : Known} (zb : Nat) (ev ms : Value) (on : Bool) : Fn Tryd.prog K 37 #[.pointer (some ⟨zb, 0, none⟩), .bool on] ([⟨zb, 522, [ev, ms]⟩]) (fun r L => r = .tuple #[] ∧ L = [⟨zb, 522, [ev, .bool on]⟩]) := by
 refine Fn.intro (args := [.pointer (some ⟨zb, 0, none⟩), .bool on]) (RR := Ret0 _) Tryd.func37 rfl rfl Tryd.ntmps37 (res0 Tryd.results37) ?_
 refine C.reenv (env2 := [(0, .pointer (some ⟨zb, 0, none⟩)), (1, .bool on)]) rfl ?_
 refine C.region ?_
 refine E.pure (S.move rfl) rfl ?_
 refine E.pure (S.move rfl) rfl ?_
 refine E.pure (S.nilPtr rfl) rfl ?_
 refine E.pure (S.field rfl fa76_7) rfl ?_
 refine E.loud0 (X.store 0 (k := 1) rfl rfl rfl rfl rfl Tryd.sizeOf4) ?_; rintro _ _ ⟨rfl, rfl⟩; refine E.relist (L2 := [_]) rfl ?_
 refine E.keep [] (env1 := []) rfl ?_
 exact ⟨rfl, rfl⟩
end Go.Eng
namespace Go.Eng
open Go Go.Proofs
set_option maxRecDepth 100000

set_option maxHeartbeats 2000000
theorem C.shed {P : Program} {H0 : Known} {n : Nat} {c : Code} {env : Env} {L A F : Frags} {N Y R} (is : List Nat) (hp : picks is L = some (A, F)) (h : wpC P H0 n c env F N Y R) : wpC P H0 n c env L N Y R := by
  refine C.perm ((picks_perm hp).trans List.perm_append_comm) ?_
  intro a w hf hw Q s
  have base : ∀ {w' L'}, To H0 w F w' L' → To H0 w (F ++ A) w' L' := fun t => (To.frame hw t).drop
  exact h a w hf hw.drop Q ⟨fun e l a w h f k => s.normal e l a w h f (base k), fun id M hk e l a w h f k => s.exit id M hk e l a w h f (base k), fun id M hk e l a w h f k => s.goto id M hk e l a w h f (base k), fun e l a w h f k => s.ret e l a w h f (base k)⟩
theorem C.dropR {P : Program} {H0 : Known} {n : Nat} {c : Code} {env : Env} {A F : Frags} {N Y R} (h : wpC P H0 n c env F N Y R) : wpC P H0 n c env (F ++ A) N Y R := by
  intro a w hf hw Q s
  have base : ∀ {w' L'}, To H0 w F w' L' → To H0 w (F ++ A) w' L' := fun t => (To.frame hw t).drop
  exact h a w hf hw.drop Q ⟨fun e l a w h f k => s.normal e l a w h f (base k), fun id M hk e l a w h f k => s.exit id M hk e l a w h f (base k), fun id M hk e l a w h f k => s.goto id M hk e l a w h f (base k), fun e l a w h f k => s.ret e l a w h f (base k)⟩
theorem crcOn_nil : crcOn IEEE 0 [] = 0 := by decide
/-- A gzip.Reader between two reads: what it will still give. -/
def ZRd {K : Known} {ea : Fin 5 → Addr} (src : Src K ea) (zb : Nat) (ms : Bool) (Y : List UInt8 × ZEnd) (L : Frags) : Prop :=
  ∃ Dt gv c0 c1 c2 c3 c4 c5 bs fb DK, bs.length = 512 ∧ DecOk src Dt fb (run Dt .next [] 0) gv DK ∧ gv ≤ (run Dt .next [] 0).1.length ∧ Y = ((run Dt .next [] 0).1.drop gv ++ (gzT ms Dt).1, (gzT ms Dt).2) ∧
    L = [⟨zb, 0, [c0, c1, c2, c3, c4, c5, .iface src.t src.v, .iface 157 (.pointer (some ⟨fb, 0, none⟩)), .int .u32 ((crcOn IEEE 0 ((run Dt .next [] 0).1.take (gv)) : Nat) : Int), .int .u32 (((gv) % 4294967296 : Nat) : Int)]⟩, ⟨zb, 10, bs⟩, ⟨zb, 522, [Er.val ea .none, .bool ms]⟩] ++ DK
/-- What a read gives. -/
def ReadZ {K : Known} {ea : Fin 5 → Addr} (src : Src K ea) (zb : Nat) (ms : Bool) (Y : List UInt8 × ZEnd) (pb po n : Nat) (cs : List Value) (r : Value) (L : Frags) : Prop :=
  ∃ k er, r = .tuple #[.int .i64 ((k : Nat) : Int), Er.val ea er] ∧ k ≤ n ∧ k ≤ Y.1.length ∧
    ((er = .none ∧ 0 < k ∧ ∃ LZ, ZRd src zb ms (Y.1.drop k, Y.2) LZ ∧ L = ⟨pb, po, bytesV (Y.1.take k) ++ cs.drop k⟩ :: LZ) ∨
     (er ≠ .none ∧ k = Y.1.length ∧ kindOf er = Y.2.1 ∧ ∃ f1 f2 f3 LZ, (∃ l, src.At l f1 f2 f3) ∧ (ms = false → Y.2.1 = 1 → src.At Y.2.2 f1 f2 f3) ∧ ZOld zb LZ ∧ L = ⟨pb, po, bytesV (Y.1.take k) ++ cs.drop k⟩ :: f1 :: f2 :: f3 :: LZ))
theorem ZAt.rd {K : Known} {ea : Fin 5 → Addr} {src : Src K ea} {zb : Nat} {h : Hd} {ms : Bool} {rest : List UInt8} {L : Frags} (hZ : ZAt src zb h ms rest L) : ∃ LZ J, ZRd src zb ms (gzR ms rest) LZ ∧ Same L (LZ ++ J) := by
  obtain ⟨f1, f2, f3, bs, xa, xn, Y, fb, DN, hA, hb, hX, hDN, rfl⟩ := hZ
  refine ⟨[⟨zb, 0, [.string h.comment, .slice xa xn xn, .int .u64 0, .int .i64 (timeV h.mod), .string h.name, .int .u8 ((h.os : Nat) : Int), .iface src.t src.v, .iface 157 (.pointer (some ⟨fb, 0, none⟩)), .int .u32 ((0 : Nat) : Int), .int .u32 0]⟩, ⟨zb, 10, bs⟩, ⟨zb, 522, [Er.val ea .none, .bool ms]⟩] ++ (f1 :: f2 :: f3 :: DN), [Y], ⟨rest, 0, .string h.comment, .slice xa xn xn, .int .u64 0, .int .i64 (timeV h.mod), .string h.name, .int .u8 ((h.os : Nat) : Int), bs, fb, f1 :: f2 :: f3 :: DN, hb, hDN.ok hA, Nat.zero_le _, by rw [gzR_eq]; rfl, ?_⟩, ?_⟩
  · rw [List.take_zero, crcOn_nil]; rfl
  · exact Same.perm ((picks_perm (is := [3, 3, 3, 0, 0, 0]) (A := [_, _, _, _, _, _]) (F := _ :: DN) rfl).trans (List.Perm.append_left [_, _, _, _, _, _] (List.perm_append_comm (l₁ := [Y]))))
theorem ZRd.old {K : Known} {ea : Fin 5 → Addr} {src : Src K ea} {zb : Nat} {ms : Bool} {Y : List UInt8 × ZEnd} {L : Frags} (hZ : ZRd src zb ms Y L) : ∃ LZ J, ZOld zb LZ ∧ Same L (LZ ++ J) := by
  obtain ⟨Dt, gv, c0, c1, c2, c3, c4, c5, bs, fb, DK, hb, ⟨hb2, pend, m, x1, x2, x3, Af, Tf, Wf, Hf, TL, hD, _, rfl⟩, _, _, rfl⟩ := hZ
  obtain ⟨DL, J, hr, hS⟩ := hD.rawd
  have s1 := hS [⟨zb, 0, [c0, c1, c2, c3, c4, c5, .iface src.t src.v, .iface 157 (.pointer (some ⟨fb, 0, none⟩)), .int .u32 ((crcOn IEEE 0 ((run Dt .next [] 0).1.take (gv)) : Nat) : Int), .int .u32 (((gv) % 4294967296 : Nat) : Int)]⟩, ⟨zb, 10, bs⟩, ⟨zb, 522, [Er.val ea .none, .bool ms]⟩, x1, x2, x3]
  refine ⟨[⟨zb, 0, [c0, c1, c2, c3, c4, c5, .iface src.t src.v, .iface 157 (.pointer (some ⟨fb, 0, none⟩)), .int .u32 ((crcOn IEEE 0 ((run Dt .next [] 0).1.take (gv)) : Nat) : Int), .int .u32 (((gv) % 4294967296 : Nat) : Int)]⟩, ⟨zb, 10, bs⟩, ⟨zb, 522, [Er.val ea .none, .bool ms]⟩] ++ DL, J ++ [x1, x2, x3], ⟨c0, c1, c2, c3, c4, c5, _, _, _, _, bs, _, _, DL, hb, .inr ⟨fb, rfl, hr⟩, rfl⟩, s1.trans (Same.perm ?_)⟩
  refine List.Perm.trans (l₂ := [⟨zb, 0, [c0, c1, c2, c3, c4, c5, .iface src.t src.v, .iface 157 (.pointer (some ⟨fb, 0, none⟩)), .int .u32 ((crcOn IEEE 0 ((run Dt .next [] 0).1.take (gv)) : Nat) : Int), .int .u32 (((gv) % 4294967296 : Nat) : Int)]⟩, ⟨zb, 10, bs⟩, ⟨zb, 522, [Er.val ea .none, .bool ms]⟩] ++ ([x1, x2, x3] ++ (DL ++ J))) ?_ ?_
  · simp only [List.append_assoc, List.cons_append, List.nil_append]; exact .refl _
  · rw [List.append_assoc]
    refine List.Perm.append_left _ ?_
    rw [← List.append_assoc DL J]
    exact List.perm_append_comm
theorem decRead_in {K : Known} {ea : Fin 5 → Addr} (hs : Sents K ea) (hc : Codes K) {src : Src K ea} {dt : List UInt8} {fb : Nat} {R : ResR} {gv : Nat} {DK : Frags} (hD : DecOk src dt fb R gv DK) (pb po n c : Nat) (cs : List Value) (hn : n = cs.length) (hn0 : 0 < n) (a1 a2 a3 : Frag) :
    Fn Tryd.prog K 119 #[.pointer (some ⟨fb, 0, none⟩), .slice (some ⟨pb, po, none⟩) (n) (c)] ([a1, a2, a3, ⟨pb, po, cs⟩] ++ DK) fun r L => ∃ k er L1, r = .tuple #[.int .i64 ((k : Nat) : Int), Er.val ea er] ∧ k ≤ n ∧ k ≤ (R.1.drop gv).length ∧
      L = [a1, a2, a3, ⟨pb, po, bytesV ((R.1.drop gv).take k) ++ cs.drop k⟩] ++ L1 ∧ ((er = .none ∧ 0 < k ∧ DecOk src dt fb R (gv + k) L1) ∨ (er ≠ .none ∧ gv + k = R.1.length ∧ DecFin src dt fb R er L1)) := by
  have pm : ∀ (B : Frag) (DK : Frags), ([a1, a2, a3, B] ++ DK).Perm ((DK ++ [B]) ++ [a1, a2, a3]) := fun B DK =>
    (List.Perm.append_left [a1, a2, a3] (List.perm_append_comm (l₁ := [B]))).trans List.perm_append_comm
  refine Fn.sameR (Fn.perm (pm _ DK) (Fn.frame (F := [a1, a2, a3]) (decRead_spec hs hc hD pb po n c cs hn hn0))) ?_
  rintro v L ⟨L0, ⟨k, er, L1, rfl, h1, h2, rfl, h3⟩, rfl⟩
  exact ⟨_, Same.perm (pm _ L1).symm, k, er, L1, rfl, h1, h2, rfl, h3⟩
theorem eightB {l : List UInt8} (h : fullErr l 8 = .none) : ∃ v0 v1 v2 v3 v4 v5 v6 v7 r, l = v0 :: v1 :: v2 :: v3 :: v4 :: v5 :: v6 :: v7 :: r := by
  have hl := full_len h
  match l, hl with
  | v0 :: v1 :: v2 :: v3 :: v4 :: v5 :: v6 :: v7 :: r, _ => exact ⟨_, _, _, _, _, _, _, _, _, rfl⟩
theorem kind_full {l : List UInt8} {m : Nat} (h : fullErr l m ≠ .none) : kindOf (noEof (fullErr l m)) = 5 := by
  unfold fullErr at h ⊢
  split at h
  · exact absurd rfl h
  · rename_i h1
    rw [if_neg h1]
    split
    · rw [noEof_eof rfl]; rfl
    · rw [noEof_other (by simp)]; rfl

theorem zRead_walk {K : Known} {ea : Fin 5 → Addr} (hs : Sents K ea) (hc : Codes K) (src : Src K ea) (zb : Nat) (ms : Bool) (Y : List UInt8 × ZEnd) (pb po n c : Nat) (cs : List Value) (hn : n = cs.length) (hn0 : 0 < n) (hnc : n ≤ c) (hnl : n ≤ 4611686018427387904) (D0 : List UInt8) (gv0 : Nat) (c0 c1 c2 c3 c4 c5 : Value) (bs0 : List Value) (fb0 : Nat) (DK0 : Frags) (hb0 : bs0.length = 512) (hD0 : DecOk src D0 fb0 (run D0 .next [] 0) gv0 DK0) (hg0 : gv0 ≤ (run D0 .next [] 0).1.length) (e0 : Er) (he0 : e0 = .none) (hX0 : Y = ((run D0 .next [] 0).1.drop gv0 ++ (gzT ms D0).1, (gzT ms D0).2)) : Fn Tryd.prog K 36 #[.pointer (some ⟨zb, 0, none⟩), .slice (some ⟨pb, po, none⟩) (n) (c)] ([⟨zb, 0, [c0, c1, c2, c3, c4, c5, .iface src.t src.v, .iface 157 (.pointer (some ⟨fb0, 0, none⟩)), .int .u32 ((crcOn IEEE 0 ((run D0 .next [] 0).1.take gv0) : Nat) : Int), .int .u32 (((gv0) % 4294967296 : Nat) : Int)]⟩, ⟨zb, 10, bs0⟩, ⟨zb, 522, [Er.val ea e0, .bool ms]⟩, ⟨pb, po, cs⟩] ++ DK0) (fun r L => ∃ L2 J, Same L (L2 ++ J) ∧ ReadZ src zb ms Y pb po n cs r L2) := by
 refine Fn.intro (args := [.pointer (some ⟨zb, 0, none⟩), .slice (some ⟨pb, po, none⟩) (n) (c)]) (RR := Ret2 4 5 _) Tryd.func36 rfl rfl Tryd.ntmps36 (res2 Tryd.results36) ?_
 refine C.reenv (env2 := [(0, .pointer (some ⟨zb, 0, none⟩)), (1, .slice (some ⟨pb, po, none⟩) (n) (c))]) rfl ?_
 refine C.seq ?_
 refine C.region ?_
 refine E.pure (S.assign rfl) rfl ?_
 refine E.pure (S.assign (v := Er.val ea .none) rfl) rfl ?_
 refine E.keep [0, 1, 4, 5] (env1 := [(0, _), (1, _), (4, _), (5, _)]) rfl ?_
 refine C.seq ?_
 refine C.seq ?_
 refine C.region ?_
 refine E.pure (S.move rfl) rfl ?_
 refine E.pure (S.nilPtr rfl) rfl ?_
 refine E.pure (S.field rfl fa76_6) rfl ?_
 refine E.still (S.load 2 (k := 0) rfl rfl rfl Tryd.isAgg59) rfl ?_
 refine E.still (S.neErNil rfl) rfl ?_
 refine E.keep [0, 1, 4, 5, 14] (env1 := [(0, _), (1, _), (4, _), (5, _), (14, _)]) rfl ?_
 first | refine C.ifp rfl (fun h14 => ?_) (fun h14 => ?_) | refine C.ifNone rfl (fun h14 => ?_) (fun h14 => ?_) | refine C.ifSome rfl (fun h14 => ?_) (fun h14 => ?_) | refine C.ifSe rfl (fun h14 => ?_) (fun h14 => ?_) | refine C.ifNotSe rfl (fun h14 => ?_) (fun h14 => ?_) | refine C.cond rfl (fun h14 => ?_) (fun h14 => ?_)
 ·
  exact absurd he0 h14
 ·
  subst he0
  refine C.skip ?_
  refine C.seq ?_
  refine C.block ?_
  refine C.loop (fun mm ee ll => ∃ (Dt : List UInt8), ∃ (gv : Nat), ∃ (k : Nat), ∃ (bs : List Value), ∃ (fb : Nat), ∃ (DK : Frags), keeps ee [0, 1, 4] = some [(0, .pointer (some ⟨zb, 0, none⟩)), (1, .slice (some ⟨pb, po, none⟩) (n) (c)), (4, .int .i64 ((k : Nat) : Int))] ∧ ll = [⟨zb, 0, [c0, c1, c2, c3, c4, c5, .iface src.t src.v, .iface 157 (.pointer (some ⟨fb, 0, none⟩)), .int .u32 ((crcOn IEEE 0 ((run Dt .next [] 0).1.take (gv)) : Nat) : Int), .int .u32 (((gv) % 4294967296 : Nat) : Int)]⟩, ⟨zb, 10, bs⟩, ⟨zb, 522, [.nilIface, .bool ms]⟩, ⟨pb, po, bytesV (Y.1.take k) ++ cs.drop k⟩] ++ DK ∧ (DecOk src Dt fb (run Dt .next [] 0) gv DK) ∧ (bs.length = 512) ∧ (gv ≤ (run Dt .next [] 0).1.length) ∧ ((Y.1.drop k, Y.2) = ((run Dt .next [] 0).1.drop gv ++ (gzT ms Dt).1, (gzT ms Dt).2)) ∧ (k ≤ n) ∧ (k ≤ Y.1.length) ∧ mm = Dt.length) (_) ⟨D0, gv0, 0, bs0, fb0, DK0, rfl, rfl, hD0, hb0, hg0, hX0, Nat.zero_le _, Nat.zero_le _, rfl⟩ ?_
  rintro m0 _ _ ⟨Dt, gv, k, bs, fb, DK, hk0, rfl, hD, hbs, hgv, hX, hkn, hkX, hm0⟩
  refine C.weaken _ hk0 ?_
  refine C.seq ?_
  refine C.seq ?_
  refine C.region ?_
  refine E.pure (S.move rfl) rfl ?_
  refine E.pure (S.eq (b := ((0 : Nat) : Int)) rfl rfl) rfl ?_
  refine E.keep [0, 1, 4, 20] (env1 := [(0, _), (1, _), (4, _), (20, _)]) rfl ?_
  refine C.ifp rfl (fun h20 => ?_) (fun h20 => ?_)
  ·
   have hkz : k = 0 := by omega
   subst hkz
   refine C.skip ?_
   refine C.block ?_
   refine C.seq ?_
   refine C.relist (L2 := [⟨zb, 0, [c0, c1, c2, c3, c4, c5, .iface src.t src.v, .iface 157 (.pointer (some ⟨fb, 0, none⟩)), .int .u32 ((crcOn IEEE 0 ((run Dt .next [] 0).1.take (gv)) : Nat) : Int), .int .u32 (((gv) % 4294967296 : Nat) : Int)]⟩, ⟨zb, 10, bs⟩, ⟨zb, 522, [.nilIface, .bool ms]⟩, ⟨pb, po, cs⟩] ++ DK) rfl ?_
   refine C.region ?_
   refine E.pure (S.move rfl) rfl ?_
   refine E.pure (S.move rfl) rfl ?_
   refine E.pure (S.nilPtr rfl) rfl ?_
   refine E.pure (S.field rfl fa76_2) rfl ?_
   refine E.still (S.load 0 (k := 7) rfl rfl rfl Tryd.isAgg73) rfl ?_
   refine E.pure (S.move rfl) rfl ?_
   refine E.loud1 (X.invoke rfl rfl (dmRead fb) Tryd.call119 (decRead_in hs hc hD pb po n c cs hn hn0 _ _ _)) rfl ?_; rintro _ _ ⟨j, er, L1, rfl, hj1, hj2, rfl, hE⟩; refine E.relist (L2 := (_ :: _ :: _ :: _ :: _)) rfl ?_
   refine E.pure (S.move rfl) rfl ?_
   refine E.pure (S.extract rfl rfl) rfl ?_
   refine E.pure (S.extract rfl rfl) rfl ?_
   refine E.pure (S.assign rfl) rfl ?_
   refine E.pure (S.nilPtr rfl) rfl ?_
   refine E.pure (S.field rfl fa76_6) rfl ?_
   refine E.loud0 (X.store 2 (k := 0) rfl rfl rfl (one_er _) rfl Tryd.sizeOf59) ?_; rintro _ _ ⟨rfl, rfl⟩; refine E.relist (L2 := (_ :: _ :: _ :: _ :: _)) rfl ?_
   refine E.keep [0, 1, 4, 20] (env1 := [(0, _), (1, _), (4, _), (20, _)]) rfl ?_
   have hX1 : Y.1 = (run Dt .next [] 0).1.drop gv ++ (gzT ms Dt).1 := (Prod.mk.inj hX).1
   have hX2 : Y.2 = (gzT ms Dt).2 := (Prod.mk.inj hX).2
   have hXt : ((run Dt .next [] 0).1.drop gv).take j = Y.1.take j := by rw [hX1, List.take_append_of_le_length hj2]
   have hXd : Y.1.drop j = (run Dt .next [] 0).1.drop (gv + j) ++ (gzT ms Dt).1 := by rw [hX1, List.drop_append_of_le_length hj2, List.drop_drop]
   have hrl : ((run Dt .next [] 0).1.drop gv).length = (run Dt .next [] 0).1.length - gv := List.length_drop
   have hjX : j ≤ Y.1.length := by rw [hX1, List.length_append]; omega
   have htk : (Y.1.take j).length = j := by rw [List.length_take]; omega
   have hcr : crcOn IEEE (crcOn IEEE 0 ((run Dt .next [] 0).1.take (gv))) (Y.1.take j) = crcOn IEEE 0 ((run Dt .next [] 0).1.take (gv + j)) := by rw [crcOn_append, ← hXt, ← List.take_add]
   have hcl : crcOn IEEE 0 ((run Dt .next [] 0).1.take (gv)) < 4294967296 := crcOn_lt (by decide) (by decide) _
   refine C.relist (L2 := [⟨zb, 0, [c0, c1, c2, c3, c4, c5, .iface src.t src.v, .iface 157 (.pointer (some ⟨fb, 0, none⟩)), .int .u32 ((crcOn IEEE 0 ((run Dt .next [] 0).1.take (gv)) : Nat) : Int), .int .u32 (((gv) % 4294967296 : Nat) : Int)]⟩, ⟨zb, 10, bs⟩, ⟨zb, 522, [Er.val ea er, .bool ms]⟩, ⟨pb, po, bytesV (Y.1.take j) ++ cs.drop j⟩] ++ L1) (by rw [hXt]; rfl) ?_
   refine C.seq ?_
   refine C.draw [0, 0, 2, 4, 8, 0, 0, 96, 144, 511, 1023, 1535] (.pure 0 510 (.pure 1 225 (.pure 2 227 (.pure 3 231 (.pure 5 95 (.pure 6 63 (.pure 7 127 (.seg [(4, 239)] (.alt 8 (.pure 9 511 (.pure 10 1023 (.alt 11 .done .stop))) .stop))))))))) mixed (by decide +kernel) ?_
   refine D.pure rfl (S.move rfl) rfl ?_
   refine D.pure rfl (S.move rfl) rfl ?_
   refine D.pure rfl (S.nilPtr rfl) rfl ?_
   refine D.pure rfl (S.field rfl fa76_3) rfl ?_
   refine D.pure rfl (S.move rfl) rfl ?_
   refine D.pure rfl (S.move rfl) rfl ?_
   refine D.pure rfl (S.slH rfl rfl (by omega) Tryd.underlying22 Tryd.sizeOf5) rfl ?_
   refine D.reslot (v := .slice (some ⟨pb, po, none⟩) ((Y.1.take j).length) (c)) (slice_to (by simp [part]) (by rw [htk]) rfl) ?_
   refine D.seg (by decide) ?_
   refine W.still rfl (S.load 0 (k := 8) rfl rfl rfl Tryd.isAgg52) rfl ?_
   refine W.nil ?_
   refine D.one ?_
   refine O.loud1 rfl (X.call rfl Tryd.call44 (UpdateIEEE_spec (crcOn IEEE 0 ((run Dt .next [] 0).1.take (gv))) pb po c (Y.1.take j) hcl (Reads.frag (i := 3) (k := 0) rfl (by rw [List.drop_zero, List.take_left'] ; rfl)) (by omega) (by omega))) rfl ?_; rintro _ _ ⟨rfl, rfl⟩; refine D.relist (L2 := (_ :: _ :: _ :: _ :: _)) rfl ?_
   refine D.reslot (v := .int .u32 ((crcOn IEEE 0 ((run Dt .next [] 0).1.take (gv + j)) : Nat) : Int)) (congrArg (fun y : Nat => Value.int .u32 (y : Int)) (by exact hcr)) ?_
   refine D.pure rfl (S.nilPtr rfl) rfl ?_
   refine D.pure rfl (S.field rfl fa76_3) rfl ?_
   refine D.one ?_
   refine O.loud0 rfl (X.store 0 (k := 8) rfl rfl rfl rfl rfl Tryd.sizeOf52) ?_; rintro _ _ ⟨rfl, rfl⟩; refine D.relist (L2 := (_ :: _ :: _ :: _ :: _)) rfl ?_
   refine D.keep [0, 1, 4, 20] (env1 := [(0, _), (1, _), (4, _), (20, _)]) rfl ?_
   refine C.seq ?_
   refine C.region ?_
   refine E.pure (S.move rfl) rfl ?_
   refine E.pure (S.nilPtr rfl) rfl ?_
   refine E.pure (S.field rfl fa76_4) rfl ?_
   refine E.still (S.load 0 (k := 9) rfl rfl rfl Tryd.isAgg52) rfl ?_
   refine E.pure (S.move rfl) rfl ?_
   first | refine E.pure (S.conv rfl Tryd.underlying3 Tryd.underlying52 (N.in_u32 (by omega))) rfl ?_ | refine E.pure (S.conv rfl Tryd.underlying3 Tryd.underlying52 (N.mod_u32 _)) rfl ?_
   first | refine E.pure (S.add rfl rfl (N.add_u32 (by omega))) rfl ?_ | refine E.pure (S.add rfl rfl (N.addU32w _ _)) rfl ?_
   refine E.reslot (v := .int .u32 (((gv + j) % 4294967296 : Nat) : Int)) (congrArg (fun y : Nat => Value.int .u32 (y : Int)) (by omega)) ?_
   refine E.pure (S.nilPtr rfl) rfl ?_
   refine E.pure (S.field rfl fa76_4) rfl ?_
   refine E.loud0 (X.store 0 (k := 9) rfl rfl rfl rfl rfl Tryd.sizeOf52) ?_; rintro _ _ ⟨rfl, rfl⟩; refine E.relist (L2 := (_ :: _ :: _ :: _ :: _)) rfl ?_
   refine E.keep [0, 1, 4, 20] (env1 := [(0, _), (1, _), (4, _), (20, _)]) rfl ?_
   refine C.seq ?_
   refine C.seq ?_
   refine C.draw [0, 1, 2, 4, 0, 24] (.pure 0 16 (.pure 1 17 (.pure 2 19 (.seg [(3, 23), (4, 15), (5, 31)] .done)))) mixed (by decide +kernel) ?_
   refine D.pure rfl (S.move rfl) rfl ?_
   refine D.pure rfl (S.nilPtr rfl) rfl ?_
   refine D.pure rfl (S.field rfl fa76_6) rfl ?_
   refine D.seg (by decide) ?_
   refine W.still rfl (S.load 2 (k := 0) rfl rfl rfl Tryd.isAgg59) rfl ?_
   refine W.still rfl (S.loadBase rfl hs.g0 Tryd.isAgg59) rfl ?_
   refine W.still rfl (S.neEr hs rfl rfl) rfl ?_
   refine W.nil ?_
   refine D.keep [0, 1, 4, 20, 58] (env1 := [(0, _), (1, _), (4, _), (20, _), (58, _)]) rfl ?_
   first | refine C.ifp rfl (fun h58 => ?_) (fun h58 => ?_) | refine C.ifNone rfl (fun h58 => ?_) (fun h58 => ?_) | refine C.ifSome rfl (fun h58 => ?_) (fun h58 => ?_) | refine C.ifSe rfl (fun h58 => ?_) (fun h58 => ?_) | refine C.ifNotSe rfl (fun h58 => ?_) (fun h58 => ?_) | refine C.cond rfl (fun h58 => ?_) (fun h58 => ?_)
   ·
    refine C.seq ?_
    refine C.draw [0, 0, 2, 4, 8, 1, 63] (.pure 0 30 (.pure 1 33 (.pure 2 35 (.pure 3 39 (.pure 5 31 (.seg [(4, 47), (6, 63)] .done)))))) mixed (by decide +kernel) ?_
    refine D.pure rfl (S.move rfl) rfl ?_
    refine D.pure rfl (S.move rfl) rfl ?_
    refine D.pure rfl (S.nilPtr rfl) rfl ?_
    refine D.pure rfl (S.field rfl fa76_6) rfl ?_
    refine D.pure rfl (S.assign rfl) rfl ?_
    refine D.seg (by decide) ?_
    refine W.still rfl (S.load 2 (k := 0) rfl rfl rfl Tryd.isAgg59) rfl ?_
    refine W.pure rfl (S.assign rfl) rfl ?_
    refine W.nil ?_
    refine D.keep [0, 1, 4, 5, 20, 58] (env1 := [(0, _), (1, _), (4, _), (5, _), (20, _), (58, _)]) rfl ?_
    refine C.ret ?_
    rcases hE with ⟨rfl, hj0, hOk⟩ | ⟨hne, hgj, hb3, y1, y2, y3, Af, Tf, Wf, Hf, TL, hDS, hEO, rfl⟩
    · exact ⟨_, _, rfl, rfl, _, [], (Same.perm (picks_perm (is := [3, 0, 0, 0]) (A := [_, _, _, _]) (F := L1) rfl)).trans (Same.of_eq (List.append_nil _).symm), j, .none, rfl, hj1, hjX, .inl ⟨rfl, hj0, _, ⟨Dt, gv + j, c0, c1, c2, c3, c4, c5, bs, fb, L1, hbs, hOk, by omega, by rw [hXd, hX2], rfl⟩, rfl⟩⟩
    · obtain ⟨hbad, h5, lx, hAx⟩ := hEO.resolve_left fun ⟨q, _, h, _⟩ => h58 h
      have hT := gzT_bad (ms := ms) hbad
      rw [hT] at hX1 hX2
      obtain ⟨DL, J, hraw, hS⟩ := hDS.rawd
      have hs1 := hS [⟨zb, 0, [c0, c1, c2, c3, c4, c5, .iface src.t src.v, .iface 157 (.pointer (some ⟨fb, 0, none⟩)), .int .u32 ((crcOn IEEE 0 ((run Dt .next [] 0).1.take (gv + j)) : Nat) : Int), .int .u32 (((gv + j) % 4294967296 : Nat) : Int)]⟩, ⟨zb, 10, bs⟩, ⟨zb, 522, [Er.val ea er, .bool ms]⟩, ⟨pb, po, bytesV (Y.1.take j) ++ cs.drop j⟩, y1, y2, y3]
      refine ⟨_, _, rfl, rfl, ⟨pb, po, bytesV (Y.1.take j) ++ cs.drop j⟩ :: y1 :: y2 :: y3 :: ([⟨zb, 0, [c0, c1, c2, c3, c4, c5, .iface src.t src.v, .iface 157 (.pointer (some ⟨fb, 0, none⟩)), .int .u32 ((crcOn IEEE 0 ((run Dt .next [] 0).1.take (gv + j)) : Nat) : Int), .int .u32 (((gv + j) % 4294967296 : Nat) : Int)]⟩, ⟨zb, 10, bs⟩, ⟨zb, 522, [Er.val ea er, .bool ms]⟩] ++ DL), J, hs1.trans (Same.perm ?_), j, er, rfl, hj1, hjX, .inr ⟨hne, ?_, ?_, y1, y2, y3, _, ⟨lx, hAx⟩, ?_, ⟨c0, c1, c2, c3, c4, c5, _, _, _, _, bs, _, _, DL, hbs, .inr ⟨fb, rfl, hraw⟩, rfl⟩, rfl⟩⟩
      · exact (picks_perm (is := [3, 3, 3, 3, 0, 0, 0]) (A := [_, _, _, _, _, _, _]) (F := DL) rfl).append_right J
      · rw [hX1, List.append_nil]; omega
      · rw [hX2]; exact h5.1
      · intro _ h; rw [hX2] at h; cases h
   ·
    subst h58
    obtain ⟨_, hgj, hb3, y1, y2, y3, Af, Tf, Wf, Hf, TL, hDS, hEO, rfl⟩ := hE.resolve_left (fun h => by cases h.1)
    obtain ⟨q, hRq, _, hql, hAt⟩ := hEO.resolve_right (fun h => by have := h.2.1.1; cases this)
    obtain ⟨DL, J, hraw, hS⟩ := hDS.rawd
    refine C.same (hS [⟨zb, 0, [c0, c1, c2, c3, c4, c5, .iface src.t src.v, .iface 157 (.pointer (some ⟨fb, 0, none⟩)), .int .u32 ((crcOn IEEE 0 ((run Dt .next [] 0).1.take (gv + j)) : Nat) : Int), .int .u32 (((gv + j) % 4294967296 : Nat) : Int)]⟩, ⟨zb, 10, bs⟩, ⟨zb, 522, [Er.val ea .eof, .bool ms]⟩, ⟨pb, po, bytesV (Y.1.take j) ++ cs.drop j⟩, y1, y2, y3]) ?_
    refine C.dropR ?_
    have hall : (run Dt .next [] 0).1.take (gv + j) = (run Dt .next [] 0).1 := List.take_of_length_le (by omega)
    have hnil : (run Dt .next [] 0).1.drop (gv + j) = [] := List.drop_eq_nil_of_le (by omega)
    rw [hnil, List.nil_append] at hXd
    refine C.skip ?_
    refine C.seq ?_
    refine C.seq ?_
    refine C.same (Same.splitAt (k := 8) 1 rfl rfl (List.take_append_drop 8 _).symm (by rw [List.length_take]; omega) rfl) ?_
    refine C.relist (L2 := [_, _, _, _, _, _, _, _] ++ DL) rfl ?_
    refine C.draw [0, 1, 2, 4, 0, 16, 32, 64, 136, 256, 512, 512, 2047, 8191] (.pure 0 240 (.pure 1 241 (.pure 2 243 (.pure 4 15 (.pure 5 31 (.pure 6 63 (.pure 7 127 (.seg [(3, 247)] (.alt 8 (.pure 9 511 (.pure 10 3071 (.pure 11 6143 (.pure 12 4095 (.pure 13 8191 .done))))) .stop))))))))) mixed (by decide +kernel) ?_
    refine D.pure rfl (S.move rfl) rfl ?_
    refine D.pure rfl (S.nilPtr rfl) rfl ?_
    refine D.pure rfl (S.field rfl fa76_1) rfl ?_
    refine D.pure rfl (S.move rfl) rfl ?_
    refine D.pure rfl (S.nilPtr rfl) rfl ?_
    refine D.pure rfl (S.field rfl fa76_5) rfl ?_
    refine D.pure rfl (S.slArr (l := 0) (k := .i64) (h := 8) rfl rfl rfl (by omega) (by omega) Tryd.underlying74 Tryd.sizeOf5) rfl ?_
    refine D.reslot (v := .slice (some ⟨zb, 10, none⟩) (8) (512)) (slice_to (by simp [part]) rfl rfl) ?_
    refine D.seg (by decide) ?_
    refine W.still rfl (S.load 2 (k := 6) rfl rfl rfl Tryd.isAgg71) rfl ?_
    refine W.nil ?_
    refine D.one ?_
    refine O.loud1 rfl (OpX.pick [5, 5, 5, 0] (F := (_ :: _ :: _ :: _ :: _)) rfl (X.call rfl Tryd.call45 (readFull_spec hs src (Dt.drop q) y1 y2 y3 zb 10 8 512 (List.take 8 bs) hAt (by rw [List.length_take]; omega) (by omega) (by omega)))) rfl ?_; rintro _ _ ⟨_, ⟨f1, f2, f3, hF, rfl, rfl⟩, rfl⟩; refine D.relist (L2 := (_ :: _ :: _ :: _ :: _ :: _ :: _ :: _ :: _)) rfl ?_
    refine D.pure rfl (S.move rfl) rfl ?_
    refine D.pure rfl (S.extract rfl rfl) rfl ?_
    refine D.pure rfl (S.extract rfl rfl) rfl ?_
    refine D.pure rfl (S.assign rfl) rfl ?_
    refine D.pure rfl (S.assign rfl) rfl ?_
    refine D.keep [0, 1, 4, 7, 20, 58] (env1 := [(0, _), (1, _), (4, _), (7, _), (20, _), (58, _)]) rfl ?_
    refine C.same (Same.joinAt 3 3 rfl rfl (by rw [show 10 + 8 = 10 + (8 : Nat) from rfl]; congr 1; simp only [List.length_append, bytesV_length, List.length_take, List.length_drop, show ∀ a b : Nat, Nat.min a b = min a b from fun _ _ => rfl]; omega)) ?_
    refine C.relist (L2 := [_, _, _, _, _, _, _] ++ DL) rfl ?_
    refine C.seq ?_
    refine C.region ?_
    refine E.pure (S.move rfl) rfl ?_
    refine E.still (S.neErNil rfl) rfl ?_
    refine E.keep [0, 1, 4, 7, 20, 58, 77] (env1 := [(0, _), (1, _), (4, _), (7, _), (20, _), (58, _), (77, _)]) rfl ?_
    first | refine C.ifp rfl (fun h77 => ?_) (fun h77 => ?_) | refine C.ifNone rfl (fun h77 => ?_) (fun h77 => ?_) | refine C.ifSome rfl (fun h77 => ?_) (fun h77 => ?_) | refine C.ifSe rfl (fun h77 => ?_) (fun h77 => ?_) | refine C.ifNotSe rfl (fun h77 => ?_) (fun h77 => ?_) | refine C.cond rfl (fun h77 => ?_) (fun h77 => ?_)
    ·
     have hbj := buf_join (bs := bs) (l := Dt.drop q) (m := 8) (by omega)
     have hjl : j = Y.1.length := by have hT := gzT_short (ms := ms) hRq (fullErr_ne.1 h77); rw [hT] at hX1; rw [hX1, List.append_nil]; omega
     refine C.seq ?_
     refine C.region ?_
     refine E.pure (S.move rfl) rfl ?_
     refine E.pure (S.move rfl) rfl ?_
     refine E.loud1 (OpX.pick [] (F := (_ :: _ :: _ :: _ :: _ :: _ :: _ :: _)) rfl (X.call rfl Tryd.call46 (gogzip_noEOF (L := []) hs _))) rfl ?_; rintro _ _ ⟨_, ⟨rfl, rfl⟩, rfl⟩; refine E.relist (L2 := (_ :: _ :: _ :: _ :: _ :: _ :: _ :: _)) rfl ?_
     refine E.pure (S.nilPtr rfl) rfl ?_
     refine E.pure (S.field rfl fa76_6) rfl ?_
     refine E.loud0 (X.store 5 (k := 0) rfl rfl rfl (one_er _) rfl Tryd.sizeOf59) ?_; rintro _ _ ⟨rfl, rfl⟩; refine E.relist (L2 := (_ :: _ :: _ :: _ :: _ :: _ :: _ :: _)) rfl ?_
     refine E.keep [0, 1, 4, 7, 20, 58, 77] (env1 := [(0, _), (1, _), (4, _), (7, _), (20, _), (58, _), (77, _)]) rfl ?_
     refine C.seq ?_
     refine C.draw [0, 0, 2, 4, 8, 1, 63] (.pure 0 30 (.pure 1 33 (.pure 2 35 (.pure 3 39 (.pure 5 31 (.seg [(4, 47), (6, 63)] .done)))))) mixed (by decide +kernel) ?_
     refine D.pure rfl (S.move rfl) rfl ?_
     refine D.pure rfl (S.move rfl) rfl ?_
     refine D.pure rfl (S.nilPtr rfl) rfl ?_
     refine D.pure rfl (S.field rfl fa76_6) rfl ?_
     refine D.pure rfl (S.assign rfl) rfl ?_
     refine D.seg (by decide) ?_
     refine W.still rfl (S.load 5 (k := 0) rfl rfl rfl Tryd.isAgg59) rfl ?_
     refine W.pure rfl (S.assign rfl) rfl ?_
     refine W.nil ?_
     refine D.keep [0, 1, 4, 5, 7, 20, 58, 77] (env1 := [(0, _), (1, _), (4, _), (5, _), (7, _), (20, _), (58, _), (77, _)]) rfl ?_
     refine C.ret ?_
     refine ⟨_, _, rfl, rfl, _, [], (Same.perm (picks_perm (is := [6, 1, 1, 1, 1, 0, 0]) (A := [_, _, _, _, _, _, _]) (F := DL) rfl)).trans (Same.of_eq (List.append_nil _).symm), j, noEof (fullErr (Dt.drop q) 8), rfl, hj1, hjX, .inr ⟨noEof_ne h77, hjl, by rw [hX2, gzT_short hRq (fullErr_ne.1 h77)]; exact kind_full h77, _, _, _, _, ⟨_, hF⟩, (fun _ h => by rw [hX2, gzT_short hRq (fullErr_ne.1 h77)] at h; cases h), ⟨c0, c1, c2, c3, c4, c5, _, _, _, _, _, _, _, DL, (hbj.trans hbs), .inr ⟨fb, rfl, hraw⟩, rfl⟩, rfl⟩⟩
    ·
     rw [h77]
     obtain ⟨v0, v1, v2, v3, v4, v5, v6, v7, l8, hl8⟩ := eightB h77
     have hv0 := v0.toNat_lt
     have hv1 := v1.toNat_lt
     have hv2 := v2.toNat_lt
     have hv3 := v3.toNat_lt
     have hv4 := v4.toNat_lt
     have hv5 := v5.toNat_lt
     have hv6 := v6.toNat_lt
     have hv7 := v7.toNat_lt
     have hn8 := full_len h77
     have h8 : ¬ (Dt.drop q).length < 8 := by omega
     refine C.relist (L2 := [⟨zb, 10, u8 v0 :: u8 v1 :: u8 v2 :: u8 v3 :: u8 v4 :: u8 v5 :: u8 v6 :: u8 v7 :: bs.drop 8⟩, f1, f2, f3, ⟨zb, 0, [c0, c1, c2, c3, c4, c5, .iface src.t src.v, .iface 157 (.pointer (some ⟨fb, 0, none⟩)), .int .u32 ((crcOn IEEE 0 ((run Dt .next [] 0).1.take (gv + j)) : Nat) : Int), .int .u32 (((gv + j) % 4294967296 : Nat) : Int)]⟩, ⟨zb, 522, [Er.val ea .eof, .bool ms]⟩, ⟨pb, po, bytesV (Y.1.take j) ++ cs.drop j⟩] ++ DL) (by rw [buf_full (full_len h77), hl8]; rfl) ?_
     have hbs8 : (u8 v0 :: u8 v1 :: u8 v2 :: u8 v3 :: u8 v4 :: u8 v5 :: u8 v6 :: u8 v7 :: bs.drop 8).length = 512 := by simp only [List.length_cons, List.length_drop]; omega
     have ht0 : le32at (Dt.drop q) 0 = le32 v0.toNat v1.toNat v2.toNat v3.toNat := by rw [hl8]; rfl
     have ht4 : le32at (Dt.drop q) 4 = le32 v4.toNat v5.toNat v6.toNat v7.toNat := by rw [hl8]; rfl
     have hle0 := le32_lt hv0 hv1 hv2 hv3
     have hle4 := le32_lt hv4 hv5 hv6 hv7
     have hlen : gv + j = (run Dt .next [] 0).1.length := hgj
     have hj0 : (crcOn IEEE 0 ((run Dt .next [] 0).1.take (gv + j))) = crcOn IEEE 0 (run Dt .next [] 0).1 := by rw [hall]
     have hjl : j = Y.1.length ∨ True := .inr trivial
     refine C.skip ?_
     refine C.seq ?_
     refine C.region ?_
     refine E.pure (S.move rfl) rfl ?_
     refine E.pure (S.nilPtr rfl) rfl ?_
     refine E.pure (S.field rfl fa76_5) rfl ?_
     refine E.pure (S.slArr (l := 0) (k := .i64) (h := 4) rfl rfl rfl (by omega) (by omega) Tryd.underlying74 Tryd.sizeOf5) rfl ?_
     refine E.reslot (v := .slice (some ⟨zb, 10, none⟩) (4) (512)) (slice_to (by simp [part]) rfl rfl) ?_
     refine E.loud1 (X.call rfl Tryd.call47 (le32_spec zb 10 4 512 v0 v1 v2 v3 [] (by omega) (Reads.frag (i := 0) (k := 0) rfl rfl))) rfl ?_; rintro _ _ ⟨rfl, rfl⟩; refine E.relist (L2 := (_ :: _ :: _ :: _ :: _ :: _ :: _ :: _)) rfl ?_
     refine E.pure (S.assign rfl) rfl ?_
     refine E.keep [0, 1, 4, 7, 8, 20, 58, 77] (env1 := [(0, _), (1, _), (4, _), (7, _), (8, _), (20, _), (58, _), (77, _)]) rfl ?_
     refine C.seq ?_
     refine C.region ?_
     refine E.pure (S.move rfl) rfl ?_
     refine E.pure (S.nilPtr rfl) rfl ?_
     refine E.pure (S.field rfl fa76_5) rfl ?_
     refine E.pure (S.slArr (l := 4) (h := 8) rfl rfl rfl (by omega) (by omega) Tryd.underlying74 Tryd.sizeOf5) rfl ?_
     refine E.reslot (v := .slice (some ⟨zb, 14, none⟩) (4) (508)) (slice_to (by simp [part]) rfl rfl) ?_
     refine E.loud1 (X.call rfl Tryd.call47 (le32_spec zb 14 4 508 v4 v5 v6 v7 [] (by omega) (Reads.frag (i := 0) (k := 4) rfl rfl))) rfl ?_; rintro _ _ ⟨rfl, rfl⟩; refine E.relist (L2 := (_ :: _ :: _ :: _ :: _ :: _ :: _ :: _)) rfl ?_
     refine E.pure (S.assign rfl) rfl ?_
     refine E.keep [0, 1, 4, 7, 8, 9, 20, 58, 77] (env1 := [(0, _), (1, _), (4, _), (7, _), (8, _), (9, _), (20, _), (58, _), (77, _)]) rfl ?_
     refine C.seq ?_
     refine C.seq ?_
     refine C.region ?_
     refine E.pure (S.move rfl) rfl ?_
     refine E.pure (S.move rfl) rfl ?_
     refine E.pure (S.nilPtr rfl) rfl ?_
     refine E.pure (S.field rfl fa76_3) rfl ?_
     refine E.still (S.load 4 (k := 8) rfl rfl rfl Tryd.isAgg52) rfl ?_
     refine E.pure (S.ne rfl rfl) rfl ?_
     refine E.pure (S.move rfl) rfl ?_
     refine E.fork (fun g104 => ?_) (fun g104 => ?_)
     ·
      have hnf : ¬ fits (run Dt .next [] 0).1 (Dt.drop q) := fun h => by rw [fits, ht0, ht4] at h; omega
      have hjl : j = Y.1.length := by have hT := gzT_sum (ms := ms) hRq h8 hnf; rw [hT] at hX1; rw [hX1, List.append_nil]; omega
      refine E.guardNo 104 true rfl rfl rfl rfl ?_
      refine E.guardNo 104 true rfl rfl rfl rfl ?_
      refine E.guardNo 104 true rfl rfl rfl rfl ?_
      refine E.guardNo 104 true rfl rfl rfl rfl ?_
      refine E.guardNo 104 true rfl rfl rfl rfl ?_
      refine E.guardNo 104 true rfl rfl rfl rfl ?_
      refine E.pure (S.pickT rfl rfl) rfl ?_
      refine E.keep [0, 1, 4, 7, 8, 9, 20, 58, 77, 111] (env1 := [(0, _), (1, _), (4, _), (7, _), (8, _), (9, _), (20, _), (58, _), (77, _), (111, _)]) rfl ?_
      refine C.yes rfl (rfl) ?_
      refine C.seq ?_
      refine C.region ?_
      refine E.pure (S.move rfl) rfl ?_
      refine E.still (S.loadBase rfl hs.g2 Tryd.isAgg59) rfl ?_
      refine E.pure (S.nilPtr rfl) rfl ?_
      refine E.pure (S.field rfl fa76_6) rfl ?_
      refine E.loud0 (X.store 5 (k := 0) rfl rfl rfl rfl rfl Tryd.sizeOf59) ?_; rintro _ _ ⟨rfl, rfl⟩; refine E.relist (L2 := (_ :: _ :: _ :: _ :: _ :: _ :: _ :: _)) rfl ?_
      refine E.keep [0, 1, 4, 7, 8, 9, 20, 58, 77, 111] (env1 := [(0, _), (1, _), (4, _), (7, _), (8, _), (9, _), (20, _), (58, _), (77, _), (111, _)]) rfl ?_
      refine C.seq ?_
      refine C.draw [0, 0, 2, 4, 8, 1, 63] (.pure 0 30 (.pure 1 33 (.pure 2 35 (.pure 3 39 (.pure 5 31 (.seg [(4, 47), (6, 63)] .done)))))) mixed (by decide +kernel) ?_
      refine D.pure rfl (S.move rfl) rfl ?_
      refine D.pure rfl (S.move rfl) rfl ?_
      refine D.pure rfl (S.nilPtr rfl) rfl ?_
      refine D.pure rfl (S.field rfl fa76_6) rfl ?_
      refine D.pure rfl (S.assign rfl) rfl ?_
      refine D.seg (by decide) ?_
      refine W.still rfl (S.load 5 (k := 0) rfl rfl rfl Tryd.isAgg59) rfl ?_
      refine W.pure rfl (S.assign rfl) rfl ?_
      refine W.nil ?_
      refine D.keep [0, 1, 4, 5, 7, 8, 9, 20, 58, 77, 111] (env1 := [(0, _), (1, _), (4, _), (5, _), (7, _), (8, _), (9, _), (20, _), (58, _), (77, _), (111, _)]) rfl ?_
      refine C.ret ?_
      refine ⟨_, _, rfl, rfl, _, [], (Same.perm (picks_perm (is := [6, 1, 1, 1, 1, 0, 0]) (A := [_, _, _, _, _, _, _]) (F := DL) rfl)).trans (Same.of_eq (List.append_nil _).symm), j, .se 2, rfl, hj1, hjX, .inr ⟨by simp, hjl, by rw [hX2, gzT_sum hRq h8 hnf]; rfl, _, _, _, _, ⟨_, hF⟩, (fun _ h => by rw [hX2, gzT_sum hRq h8 hnf] at h; cases h), ⟨c0, c1, c2, c3, c4, c5, _, _, _, _, _, _, _, DL, hbs8, .inr ⟨fb, rfl, hraw⟩, rfl⟩, rfl⟩⟩
     ·
      refine E.wanted 104 rfl rfl ?_
      refine E.pure (S.move rfl) rfl ?_
      refine E.wanted 104 rfl rfl ?_
      refine E.pure (S.move rfl) rfl ?_
      refine E.wanted 104 rfl rfl ?_
      refine E.pure (S.nilPtr rfl) rfl ?_
      refine E.wanted 104 rfl rfl ?_
      refine E.pure (S.field rfl fa76_4) rfl ?_
      refine E.wanted 104 rfl rfl ?_
      refine E.still (S.load 4 (k := 9) rfl rfl rfl Tryd.isAgg52) rfl ?_
      refine E.wanted 104 rfl rfl ?_
      refine E.pure (S.ne rfl rfl) rfl ?_
      refine E.pure (S.pickF rfl rfl) rfl ?_
      refine E.keep [0, 1, 4, 7, 8, 9, 20, 58, 77, 111] (env1 := [(0, _), (1, _), (4, _), (7, _), (8, _), (9, _), (20, _), (58, _), (77, _), (111, _)]) rfl ?_
      refine C.ifp rfl (fun h111 => ?_) (fun h111 => ?_)
      ·
       have hnf : ¬ fits (run Dt .next [] 0).1 (Dt.drop q) := fun h => by rw [fits, ht0, ht4] at h; omega
       have hjl : j = Y.1.length := by have hT := gzT_sum (ms := ms) hRq h8 hnf; rw [hT] at hX1; rw [hX1, List.append_nil]; omega
       refine C.seq ?_
       refine C.region ?_
       refine E.pure (S.move rfl) rfl ?_
       refine E.still (S.loadBase rfl hs.g2 Tryd.isAgg59) rfl ?_
       refine E.pure (S.nilPtr rfl) rfl ?_
       refine E.pure (S.field rfl fa76_6) rfl ?_
       refine E.loud0 (X.store 5 (k := 0) rfl rfl rfl rfl rfl Tryd.sizeOf59) ?_; rintro _ _ ⟨rfl, rfl⟩; refine E.relist (L2 := (_ :: _ :: _ :: _ :: _ :: _ :: _ :: _)) rfl ?_
       refine E.keep [0, 1, 4, 7, 8, 9, 20, 58, 77, 111] (env1 := [(0, _), (1, _), (4, _), (7, _), (8, _), (9, _), (20, _), (58, _), (77, _), (111, _)]) rfl ?_
       refine C.seq ?_
       refine C.draw [0, 0, 2, 4, 8, 1, 63] (.pure 0 30 (.pure 1 33 (.pure 2 35 (.pure 3 39 (.pure 5 31 (.seg [(4, 47), (6, 63)] .done)))))) mixed (by decide +kernel) ?_
       refine D.pure rfl (S.move rfl) rfl ?_
       refine D.pure rfl (S.move rfl) rfl ?_
       refine D.pure rfl (S.nilPtr rfl) rfl ?_
       refine D.pure rfl (S.field rfl fa76_6) rfl ?_
       refine D.pure rfl (S.assign rfl) rfl ?_
       refine D.seg (by decide) ?_
       refine W.still rfl (S.load 5 (k := 0) rfl rfl rfl Tryd.isAgg59) rfl ?_
       refine W.pure rfl (S.assign rfl) rfl ?_
       refine W.nil ?_
       refine D.keep [0, 1, 4, 5, 7, 8, 9, 20, 58, 77, 111] (env1 := [(0, _), (1, _), (4, _), (5, _), (7, _), (8, _), (9, _), (20, _), (58, _), (77, _), (111, _)]) rfl ?_
       refine C.ret ?_
       refine ⟨_, _, rfl, rfl, _, [], (Same.perm (picks_perm (is := [6, 1, 1, 1, 1, 0, 0]) (A := [_, _, _, _, _, _, _]) (F := DL) rfl)).trans (Same.of_eq (List.append_nil _).symm), j, .se 2, rfl, hj1, hjX, .inr ⟨by simp, hjl, by rw [hX2, gzT_sum hRq h8 hnf]; rfl, _, _, _, _, ⟨_, hF⟩, (fun _ h => by rw [hX2, gzT_sum hRq h8 hnf] at h; cases h), ⟨c0, c1, c2, c3, c4, c5, _, _, _, _, _, _, _, DL, hbs8, .inr ⟨fb, rfl, hraw⟩, rfl⟩, rfl⟩⟩
      ·
       have hfit : fits (run Dt .next [] 0).1 (Dt.drop q) := by rw [fits, ht0, ht4]; omega
       refine C.skip ?_
       refine C.seq ?_
       refine C.region ?_
       refine E.pure (S.move rfl) rfl ?_
       refine E.pure (S.move rfl) rfl ?_
       refine E.pure (S.nilPtr rfl) rfl ?_
       refine E.pure (S.field rfl fa76_3) rfl ?_
       refine E.loud0 (X.store 4 (k := 8) rfl rfl rfl rfl rfl Tryd.sizeOf52) ?_; rintro _ _ ⟨rfl, rfl⟩; refine E.relist (L2 := (_ :: _ :: _ :: _ :: _ :: _ :: _ :: _)) rfl ?_
       refine E.pure (S.nilPtr rfl) rfl ?_
       refine E.pure (S.field rfl fa76_4) rfl ?_
       refine E.loud0 (X.store 4 (k := 9) rfl rfl rfl rfl rfl Tryd.sizeOf52) ?_; rintro _ _ ⟨rfl, rfl⟩; refine E.relist (L2 := (_ :: _ :: _ :: _ :: _ :: _ :: _ :: _)) rfl ?_
       refine E.keep [0, 1, 4, 7, 8, 9, 20, 58, 77, 111] (env1 := [(0, _), (1, _), (4, _), (7, _), (8, _), (9, _), (20, _), (58, _), (77, _), (111, _)]) rfl ?_
       refine C.seq ?_
       refine C.seq ?_
       refine C.region ?_
       refine E.pure (S.move rfl) rfl ?_
       refine E.pure (S.nilPtr rfl) rfl ?_
       refine E.pure (S.field rfl fa76_7) rfl ?_
       refine E.still (S.load 5 (k := 1) rfl rfl rfl Tryd.isAgg4) rfl ?_
       refine E.pure (S.notB rfl) rfl ?_
       refine E.keep [0, 1, 4, 7, 8, 9, 20, 58, 77, 111, 131] (env1 := [(0, _), (1, _), (4, _), (7, _), (8, _), (9, _), (20, _), (58, _), (77, _), (111, _), (131, _)]) rfl ?_
       first | refine C.ifp rfl (fun h131 => ?_) (fun h131 => ?_) | refine C.ifNone rfl (fun h131 => ?_) (fun h131 => ?_) | refine C.ifSome rfl (fun h131 => ?_) (fun h131 => ?_) | refine C.ifSe rfl (fun h131 => ?_) (fun h131 => ?_) | refine C.ifNotSe rfl (fun h131 => ?_) (fun h131 => ?_) | refine C.cond rfl (fun h131 => ?_) (fun h131 => ?_)
       ·
        have hms : ms = false := by simpa using h131
        have hjl : j = Y.1.length := by have hT := gzT_one (ms := ms) hRq h8 hfit hms; rw [hT] at hX1; rw [hX1, List.append_nil]; omega
        refine C.seq ?_
        refine C.draw [0, 0, 1, 7] (.pure 0 2 (.pure 2 3 (.seg [(1, 5), (3, 7)] .done))) mixed (by decide +kernel) ?_
        refine D.pure rfl (S.move rfl) rfl ?_
        refine D.pure rfl (S.assign rfl) rfl ?_
        refine D.seg (by decide) ?_
        refine W.still rfl (S.loadBase rfl hs.g0 Tryd.isAgg59) rfl ?_
        refine W.pure rfl (S.assign rfl) rfl ?_
        refine W.nil ?_
        refine D.keep [0, 1, 4, 5, 7, 8, 9, 20, 58, 77, 111, 131] (env1 := [(0, _), (1, _), (4, _), (5, _), (7, _), (8, _), (9, _), (20, _), (58, _), (77, _), (111, _), (131, _)]) rfl ?_
        refine C.ret ?_
        refine ⟨_, _, rfl, rfl, _, [], (Same.perm (picks_perm (is := [6, 1, 1, 1, 1, 0, 0]) (A := [_, _, _, _, _, _, _]) (F := DL) rfl)).trans (Same.of_eq (List.append_nil _).symm), j, .eof, rfl, hj1, hjX, .inr ⟨by simp, hjl, by rw [hX2, gzT_one hRq h8 hfit hms]; rfl, _, _, _, _, ⟨_, hF⟩, fun _ _ => by rw [hX2, gzT_one hRq h8 hfit hms]; exact hF, ⟨c0, c1, c2, c3, c4, c5, _, _, _, _, _, _, _, DL, hbs8, .inr ⟨fb, rfl, hraw⟩, rfl⟩, rfl⟩⟩
       ·
        have hms2 : ms ≠ false := by simpa using h131
        refine C.skip ?_
        refine C.seq ?_
        refine C.region ?_
        refine E.pure (S.move rfl) rfl ?_
        refine E.pure (S.nilPtr rfl) rfl ?_
        refine E.pure (S.field rfl fa76_6) rfl ?_
        refine E.loud0 (X.store 5 (k := 0) rfl rfl rfl rfl rfl Tryd.sizeOf59) ?_; rintro _ _ ⟨rfl, rfl⟩; refine E.relist (L2 := (_ :: _ :: _ :: _ :: _ :: _ :: _ :: _)) rfl ?_
        refine E.keep [0, 1, 4, 7, 8, 9, 20, 58, 77, 111, 131] (env1 := [(0, _), (1, _), (4, _), (7, _), (8, _), (9, _), (20, _), (58, _), (77, _), (111, _), (131, _)]) rfl ?_
        refine C.seq ?_
        refine C.perml [1, 1, 1, 1, 0, 0, 0] (A := [_, _, _, _, _, _, _]) (F := DL) rfl ?_
        refine C.relist (L2 := [_, _, _, _, _, _, _] ++ DL) rfl ?_
        refine C.region ?_
        refine E.pure (S.move rfl) rfl ?_
        refine E.pure (S.move rfl) rfl ?_
        refine E.loud1 (X.call rfl Tryd.call48 (readHeader_in hs src ((Dt.drop q).drop 8) f1 f2 f3 zb 0 _ _ _ _ _ _ _ _ _ DL (.inr ⟨fb, rfl, hraw⟩) hF hbs8 (by decide) [_, _])) rfl ?_
        rintro _ _ ⟨hs6, g1, g2, g3, d2, bs2, h6, h7, rfl, hG, hb2, hd2, ⟨hne, rfl⟩ | ⟨hno, xa, xn, xf, fb2, DN, hX3, rfl, rfl, hDN, rfl⟩⟩
        ·
         refine E.relist (L2 := (_ :: _ :: _ :: _ :: _ :: _ :: _ :: _)) rfl ?_
         refine E.pure (S.move rfl) rfl ?_
         refine E.pure (S.extract rfl rfl) rfl ?_
         refine E.pure (S.extract rfl rfl) rfl ?_
         refine E.pure (S.nilPtr rfl) rfl ?_
         refine E.pure (S.field rfl fa76_6) rfl ?_
         refine E.loud0 (X.store 5 (k := 0) rfl rfl rfl (one_er _) rfl Tryd.sizeOf59) ?_; rintro _ _ ⟨rfl, rfl⟩; refine E.relist (L2 := (_ :: _ :: _ :: _ :: _ :: _ :: _ :: _)) rfl ?_
         refine E.keep [0, 1, 4, 7, 8, 9, 20, 58, 77, 111, 131] (env1 := [(0, _), (1, _), (4, _), (7, _), (8, _), (9, _), (20, _), (58, _), (77, _), (111, _), (131, _)]) rfl ?_
         refine C.seq ?_
         refine C.region ?_
         refine E.pure (S.move rfl) rfl ?_
         refine E.pure (S.nilPtr rfl) rfl ?_
         refine E.pure (S.field rfl fa76_6) rfl ?_
         refine E.still (S.load 5 (k := 0) rfl rfl rfl Tryd.isAgg59) rfl ?_
         refine E.still (S.neErNil rfl) rfl ?_
         refine E.keep [0, 1, 4, 7, 8, 9, 20, 58, 77, 111, 131, 149] (env1 := [(0, _), (1, _), (4, _), (7, _), (8, _), (9, _), (20, _), (58, _), (77, _), (111, _), (131, _), (149, _)]) rfl ?_
         first | refine C.ifp rfl (fun h149 => ?_) (fun h149 => ?_) | refine C.ifNone rfl (fun h149 => ?_) (fun h149 => ?_) | refine C.ifSome rfl (fun h149 => ?_) (fun h149 => ?_) | refine C.ifSe rfl (fun h149 => ?_) (fun h149 => ?_) | refine C.ifNotSe rfl (fun h149 => ?_) (fun h149 => ?_) | refine C.cond rfl (fun h149 => ?_) (fun h149 => ?_)
         ·
          have hjl : j = Y.1.length := by have hT := gzT_head (ms := ms) hRq h8 hfit hms2 h149; rw [hT] at hX1; rw [hX1, List.append_nil]; omega
          refine C.seq ?_
          refine C.draw [0, 0, 2, 4, 8, 1, 63] (.pure 0 30 (.pure 1 33 (.pure 2 35 (.pure 3 39 (.pure 5 31 (.seg [(4, 47), (6, 63)] .done)))))) mixed (by decide +kernel) ?_
          refine D.pure rfl (S.move rfl) rfl ?_
          refine D.pure rfl (S.move rfl) rfl ?_
          refine D.pure rfl (S.nilPtr rfl) rfl ?_
          refine D.pure rfl (S.field rfl fa76_6) rfl ?_
          refine D.pure rfl (S.assign rfl) rfl ?_
          refine D.seg (by decide) ?_
          refine W.still rfl (S.load 5 (k := 0) rfl rfl rfl Tryd.isAgg59) rfl ?_
          refine W.pure rfl (S.assign rfl) rfl ?_
          refine W.nil ?_
          refine D.keep [0, 1, 4, 5, 7, 8, 9, 20, 58, 77, 111, 131, 149] (env1 := [(0, _), (1, _), (4, _), (5, _), (7, _), (8, _), (9, _), (20, _), (58, _), (77, _), (111, _), (131, _), (149, _)]) rfl ?_
          refine C.ret ?_
          refine ⟨_, _, rfl, rfl, _, [], (Same.perm (picks_perm (is := [6, 0, 0, 0, 0, 0, 0]) (A := [_, _, _, _, _, _, _]) (F := DL) rfl)).trans (Same.of_eq (List.append_nil _).symm), j, (readHead ((Dt.drop q).drop 8)).1, rfl, hj1, hjX, .inr ⟨h149, hjl, by rw [hX2, gzT_head hRq h8 hfit hms2 h149], _, _, _, _, ⟨_, hG⟩, fun h => absurd h hms2, ⟨c0, c1, c2, c3, c4, c5, _, _, _, _, _, _, _, DL, hb2, .inr ⟨fb, rfl, hraw⟩, rfl⟩, rfl⟩⟩
         ·
          exact absurd h149 hne
        ·
         refine E.relist (L2 := (_ :: _ :: _ :: _ :: _ :: _ :: _ :: _ :: _)) rfl ?_
         refine E.pure (S.move rfl) rfl ?_
         refine E.pure (S.extract rfl rfl) rfl ?_
         refine E.pure (S.extract rfl rfl) rfl ?_
         refine E.pure (S.nilPtr rfl) rfl ?_
         refine E.pure (S.field rfl fa76_6) rfl ?_
         refine E.loud0 (X.store 5 (k := 0) rfl rfl rfl (one_er _) rfl Tryd.sizeOf59) ?_; rintro _ _ ⟨rfl, rfl⟩; refine E.relist (L2 := (_ :: _ :: _ :: _ :: _ :: _ :: _ :: _ :: _)) rfl ?_
         refine E.keep [0, 1, 4, 7, 8, 9, 20, 58, 77, 111, 131] (env1 := [(0, _), (1, _), (4, _), (7, _), (8, _), (9, _), (20, _), (58, _), (77, _), (111, _), (131, _)]) rfl ?_
         refine C.seq ?_
         refine C.region ?_
         refine E.pure (S.move rfl) rfl ?_
         refine E.pure (S.nilPtr rfl) rfl ?_
         refine E.pure (S.field rfl fa76_6) rfl ?_
         refine E.still (S.load 5 (k := 0) rfl rfl rfl Tryd.isAgg59) rfl ?_
         refine E.still (S.neErNil rfl) rfl ?_
         refine E.keep [0, 1, 4, 7, 8, 9, 20, 58, 77, 111, 131, 149] (env1 := [(0, _), (1, _), (4, _), (7, _), (8, _), (9, _), (20, _), (58, _), (77, _), (111, _), (131, _), (149, _)]) rfl ?_
         first | refine C.ifp rfl (fun h149 => ?_) (fun h149 => ?_) | refine C.ifNone rfl (fun h149 => ?_) (fun h149 => ?_) | refine C.ifSome rfl (fun h149 => ?_) (fun h149 => ?_) | refine C.ifSe rfl (fun h149 => ?_) (fun h149 => ?_) | refine C.ifNotSe rfl (fun h149 => ?_) (fun h149 => ?_) | refine C.cond rfl (fun h149 => ?_) (fun h149 => ?_)
         ·
          exact absurd hno h149
         ·
          refine C.relist (L2 := [_, _, _, _, _, ⟨zb, 522, [.nilIface, .bool ms]⟩, _, _] ++ DN) (by rw [h149]; rfl) ?_
          refine C.shed [7] (A := [_]) (F := _ :: _ :: _ :: _ :: _ :: _ :: _ :: DN) rfl ?_
          refine C.perml [3, 3, 3, 3, 0, 0, 0] (A := [_, _, _, _, _, _, _]) (F := DN) rfl ?_
          refine C.relist (L2 := [_, _, _, _] ++ (g1 :: g2 :: g3 :: DN)) rfl ?_
          refine C.skip ?_
          have hT := gzT_next (ms := ms) hRq h8 hfit hms2 h149
          have hle := readHead_le ((Dt.drop q).drop 8)
          rw [gzR_eq] at hT
          refine ⟨_, ?_, (readHead ((Dt.drop q).drop 8)).2.1, 0, j, bs2, fb2, g1 :: g2 :: g3 :: DN, rfl, (by rw [List.take_zero, crcOn_nil]; rfl), hDN.ok hG, hb2, Nat.zero_le _, by rw [hXd, hX2, hT]; rfl, hj1, hjX, rfl⟩; rw [hm0]; simp only [List.length_drop] at hle h8 hn8; omega
  ·
   have hkz : 0 < k := by omega
   refine C.exit rfl ?_
   refine C.seq ?_
   refine C.region ?_
   refine E.pure (S.move rfl) rfl ?_
   refine E.pure (S.assign rfl) rfl ?_
   refine E.pure (S.assign (v := Er.val ea .none) rfl) rfl ?_
   refine E.keep [0, 1, 4, 5, 20] (env1 := [(0, _), (1, _), (4, _), (5, _), (20, _)]) rfl ?_
   refine C.ret ?_
   exact ⟨_, _, rfl, rfl, _, [], (Same.perm (picks_perm (is := [3, 0, 0, 0]) (A := [_, _, _, _]) (F := DK) rfl)).trans (Same.of_eq (List.append_nil _).symm), k, .none, rfl, hkn, hkX, .inl ⟨rfl, by omega, _, ⟨Dt, gv, c0, c1, c2, c3, c4, c5, bs, fb, DK, hbs, hD, hgv, hX, rfl⟩, rfl⟩⟩
end Go.Eng
namespace Go.Eng
open Go Go.Proofs
set_option maxRecDepth 100000

theorem kind_spec {K : Known} {ea : Fin 5 → Addr} (hs : Sents K ea) (e : Er) : Fn Tryd.prog K 27 #[Er.val ea e] ([]) (fun r L => r = .int .i64 ((kindOf e : Nat) : Int) ∧ L = []) := by
 refine Fn.intro (args := [Er.val ea e]) (RR := Ret1 2 _) Tryd.func27 rfl rfl Tryd.ntmps27 (res1 Tryd.results27) ?_
 refine C.reenv (env2 := [(0, Er.val ea e)]) rfl ?_
 refine C.seq ?_
 refine C.region ?_
 refine E.pure (S.assign rfl) rfl ?_
 refine E.keep [0, 2] (env1 := [(0, _), (2, _)]) rfl ?_
 refine C.seq ?_
 refine C.block ?_
 refine C.seq ?_
 refine C.region ?_
 refine E.pure (S.move rfl) rfl ?_
 refine E.still (S.eqErNil rfl) rfl ?_
 refine E.pure (S.assign rfl) rfl ?_
 refine E.keep [0, 2, 3] (env1 := [(0, _), (2, _), (3, _)]) rfl ?_
 first | refine C.ifp rfl (fun h3 => ?_) (fun h3 => ?_) | refine C.ifNone rfl (fun h3 => ?_) (fun h3 => ?_) | refine C.ifSome rfl (fun h3 => ?_) (fun h3 => ?_) | refine C.ifSe rfl (fun h3 => ?_) (fun h3 => ?_) | refine C.ifNotSe rfl (fun h3 => ?_) (fun h3 => ?_) | refine C.cond rfl (fun h3 => ?_) (fun h3 => ?_)
 ·
  refine C.seq ?_
  refine C.region ?_
  refine E.pure (S.assign rfl) rfl ?_
  refine E.keep [0, 2, 3] (env1 := [(0, _), (2, _), (3, _)]) rfl ?_
  refine C.ret ?_
  exact ⟨_, rfl, by rw [h3]; rfl, rfl⟩
 ·
  refine C.seq ?_
  refine C.region ?_
  refine E.pure (S.move rfl) rfl ?_
  refine E.still (S.loadBase rfl hs.g0 Tryd.isAgg59) rfl ?_
  refine E.still (S.eqEr hs rfl rfl) rfl ?_
  refine E.pure (S.assign rfl) rfl ?_
  refine E.keep [0, 2, 3, 6] (env1 := [(0, _), (2, _), (3, _), (6, _)]) rfl ?_
  first | refine C.ifp rfl (fun h6 => ?_) (fun h6 => ?_) | refine C.ifNone rfl (fun h6 => ?_) (fun h6 => ?_) | refine C.ifSome rfl (fun h6 => ?_) (fun h6 => ?_) | refine C.ifSe rfl (fun h6 => ?_) (fun h6 => ?_) | refine C.ifNotSe rfl (fun h6 => ?_) (fun h6 => ?_) | refine C.cond rfl (fun h6 => ?_) (fun h6 => ?_)
  ·
   refine C.seq ?_
   refine C.region ?_
   refine E.pure (S.assign rfl) rfl ?_
   refine E.keep [0, 2, 3, 6] (env1 := [(0, _), (2, _), (3, _), (6, _)]) rfl ?_
   refine C.ret ?_
   first | exact ⟨_, rfl, by rw [h3]; rfl, rfl⟩ | exact ⟨_, rfl, by rw [h6]; rfl, rfl⟩ | exact ⟨_, rfl, by rw [h10]; rfl, rfl⟩ | exact ⟨_, rfl, by rw [h14]; rfl, rfl⟩ | exact ⟨_, rfl, by rw [kindOf_other h3 h6 h10 h14]; rfl, rfl⟩
  ·
   refine C.seq ?_
   refine C.region ?_
   refine E.pure (S.move rfl) rfl ?_
   refine E.still (S.loadBase rfl hs.g1 Tryd.isAgg59) rfl ?_
   refine E.still (S.eqEr hs rfl rfl) rfl ?_
   refine E.pure (S.assign rfl) rfl ?_
   refine E.keep [0, 2, 3, 6, 10] (env1 := [(0, _), (2, _), (3, _), (6, _), (10, _)]) rfl ?_
   first | refine C.ifp rfl (fun h10 => ?_) (fun h10 => ?_) | refine C.ifNone rfl (fun h10 => ?_) (fun h10 => ?_) | refine C.ifSome rfl (fun h10 => ?_) (fun h10 => ?_) | refine C.ifSe rfl (fun h10 => ?_) (fun h10 => ?_) | refine C.ifNotSe rfl (fun h10 => ?_) (fun h10 => ?_) | refine C.cond rfl (fun h10 => ?_) (fun h10 => ?_)
   ·
    refine C.seq ?_
    refine C.region ?_
    refine E.pure (S.assign rfl) rfl ?_
    refine E.keep [0, 2, 3, 6, 10] (env1 := [(0, _), (2, _), (3, _), (6, _), (10, _)]) rfl ?_
    refine C.ret ?_
    first | exact ⟨_, rfl, by rw [h3]; rfl, rfl⟩ | exact ⟨_, rfl, by rw [h6]; rfl, rfl⟩ | exact ⟨_, rfl, by rw [h10]; rfl, rfl⟩ | exact ⟨_, rfl, by rw [h14]; rfl, rfl⟩ | exact ⟨_, rfl, by rw [kindOf_other h3 h6 h10 h14]; rfl, rfl⟩
   ·
    refine C.seq ?_
    refine C.region ?_
    refine E.pure (S.move rfl) rfl ?_
    refine E.still (S.loadBase rfl hs.g2 Tryd.isAgg59) rfl ?_
    refine E.still (S.eqEr hs rfl rfl) rfl ?_
    refine E.pure (S.assign rfl) rfl ?_
    refine E.keep [0, 2, 3, 6, 10, 14] (env1 := [(0, _), (2, _), (3, _), (6, _), (10, _), (14, _)]) rfl ?_
    first | refine C.ifp rfl (fun h14 => ?_) (fun h14 => ?_) | refine C.ifNone rfl (fun h14 => ?_) (fun h14 => ?_) | refine C.ifSome rfl (fun h14 => ?_) (fun h14 => ?_) | refine C.ifSe rfl (fun h14 => ?_) (fun h14 => ?_) | refine C.ifNotSe rfl (fun h14 => ?_) (fun h14 => ?_) | refine C.cond rfl (fun h14 => ?_) (fun h14 => ?_)
    ·
     refine C.seq ?_
     refine C.region ?_
     refine E.pure (S.assign rfl) rfl ?_
     refine E.keep [0, 2, 3, 6, 10, 14] (env1 := [(0, _), (2, _), (3, _), (6, _), (10, _), (14, _)]) rfl ?_
     refine C.ret ?_
     first | exact ⟨_, rfl, by rw [h3]; rfl, rfl⟩ | exact ⟨_, rfl, by rw [h6]; rfl, rfl⟩ | exact ⟨_, rfl, by rw [h10]; rfl, rfl⟩ | exact ⟨_, rfl, by rw [h14]; rfl, rfl⟩ | exact ⟨_, rfl, by rw [kindOf_other h3 h6 h10 h14]; rfl, rfl⟩
    ·
     refine C.seq ?_
     refine C.region ?_
     refine E.pure (S.move rfl) rfl ?_
     refine E.pure (S.buildV (v := .agg #[]) [] rfl (fun w => by simp [Instr.build, Instr.fill, Value.cells, Tryd.zeroValue99])) rfl ?_
     refine E.pure (S.mkIface rfl conc99) rfl ?_
     refine E.still (S.eqErOther rfl rfl rfl rfl rfl) rfl ?_
     refine E.pure (S.assign rfl) rfl ?_
     refine E.keep [0, 2, 3, 6, 10, 14, 18] (env1 := [(0, _), (2, _), (3, _), (6, _), (10, _), (14, _), (18, _)]) rfl ?_
     refine C.no rfl (rfl) ?_
     refine C.skip ?_
     refine C.seq ?_
     refine C.region ?_
     refine E.pure (S.assign rfl) rfl ?_
     refine E.keep [0, 2, 3, 6, 10, 14, 18] (env1 := [(0, _), (2, _), (3, _), (6, _), (10, _), (14, _), (18, _)]) rfl ?_
     refine C.ret ?_
     first | exact ⟨_, rfl, by rw [h3]; rfl, rfl⟩ | exact ⟨_, rfl, by rw [h6]; rfl, rfl⟩ | exact ⟨_, rfl, by rw [h10]; rfl, rfl⟩ | exact ⟨_, rfl, by rw [h14]; rfl, rfl⟩ | exact ⟨_, rfl, by rw [kindOf_other h3 h6 h10 h14]; rfl, rfl⟩
/-- The extra field as it is handed out. -/
def ExOut (ex : Option (List UInt8)) (v : Value) (g : Frag) : Prop := match ex with
  | none => v = .slice none 0 0
  | some d => Own d v g
theorem exOut_one {ex : Option (List UInt8)} {v : Value} {g : Frag} (h : ExOut ex v g) : one v = true := by
  cases ex with
  | none => have h' : v = _ := h; rw [h']; rfl
  | some d => obtain ⟨b, o, c, cs, rfl, _⟩ := h; rfl

theorem headerOf_none {K : Known} (h : Hd) (hm : h.mod < 4294967296)  : Fn Tryd.prog K 28 #[.agg #[.string h.comment, .slice (none) 0 0, .int .u64 0, .int .i64 (timeV h.mod), .string h.name, .int .u8 ((h.os : Nat) : Int)]] ([]) (fun r L => r = .agg #[.string h.name, .string h.comment, .slice none 0 0, .int .i64 ((h.mod : Nat) : Int), .int .u8 ((h.os : Nat) : Int)]) := by
 refine Fn.intro (args := [.agg #[.string h.comment, .slice (none) 0 0, .int .u64 0, .int .i64 (timeV h.mod), .string h.name, .int .u8 ((h.os : Nat) : Int)]]) (RR := RetC 2 5  _) Tryd.func28 rfl rfl Tryd.ntmps28 (resC Tryd.results28 Tryd.isAgg27 Tryd.sizeOf27) ?_
 refine C.reenv (env2 := [(0, .agg #[.string h.comment, .slice (none) 0 0, .int .u64 0, .int .i64 (timeV h.mod), .string h.name, .int .u8 ((h.os : Nat) : Int)])]) rfl ?_
 refine C.seq ?_
 refine C.region ?_
 refine E.loud1 (X.box rfl) rfl ?_; rintro _ _ ⟨b1, rfl, rfl⟩; refine E.relist (L2 := [_]) rfl ?_
 refine E.loud1 (X.alloc Tryd.zeroValue27) rfl ?_; rintro _ _ ⟨b2, rfl, rfl⟩; refine E.relist (L2 := [_, _]) rfl ?_
 refine E.keep [1, 2] (env1 := [(1, _), (2, _)]) rfl ?_
 refine C.seq ?_
 refine C.known ?_
 intro K2 hK2 hc2
 refine C.draw [0, 1, 0, 4, 0, 16, 32, 0, 128, 330, 0, 2047] (.pure 0 1532 (.pure 1 1533 (.pure 2 1523 (.pure 3 1527 (.pure 4 1423 (.pure 5 1439 (.pure 7 1151 (.pure 8 1279 (.alt 6 (.pure 9 1535 (.alt 10 (.alt 11 .done .stop) .stop)) (.alt 10 (.alt 6 (.pure 9 1535 (.alt 11 .done .stop)) .stop) .stop)))))))))) mixed (by decide +kernel) ?_
 refine D.pure rfl (S.field rfl fa69_3) rfl ?_
 refine D.known rfl (loadBaseK rfl (hc2 ⟨b1, 0, _⟩ (.tail _ (.head _)) 4 _ rfl) Tryd.isAgg9) rfl ?_
 refine D.pure rfl (S.field rfl fa69_0) rfl ?_
 refine D.known rfl (loadBaseK rfl (hc2 ⟨b1, 0, _⟩ (.tail _ (.head _)) 0 _ rfl) Tryd.isAgg9) rfl ?_
 refine D.pure rfl (S.field rfl fa69_1) rfl ?_
 refine D.known rfl (loadBaseK rfl (hc2 ⟨b1, 0, _⟩ (.tail _ (.head _)) 1 _ rfl) Tryd.isAgg22) rfl ?_
 refine D.pure rfl (S.field rfl fa69_4) rfl ?_
 refine D.known rfl (loadBaseK rfl (hc2 ⟨b1, 0, _⟩ (.tail _ (.head _)) 5 _ rfl) Tryd.isAgg5) rfl ?_
 refine D.alt ?_ ⟨?_, trivial⟩
 ·
  refine O.loud1 rfl (OpX.pick [] (F := []) rfl (X.call rfl Tryd.call24 clone_nil)) rfl ?_; rintro _ _ ⟨_, ⟨rfl, rfl⟩, rfl⟩; refine D.relist (L2 := []) rfl ?_
  refine D.pure rfl (S.buildV (v := .agg #[.string h.name, .string h.comment, .slice none 0 0, .int .i64 0, .int .u8 ((h.os : Nat) : Int)]) [(0, .string h.name), (1, .string h.comment), (2, .slice none 0 0), (4, .int .u8 ((h.os : Nat) : Int))] rfl (fun w => by simp [Instr.build, Instr.fill, Value.cells, Tryd.zeroValue27])) rfl ?_
  refine D.one ?_
  refine O.loud1 rfl (X.alloc Tryd.zeroValue27) rfl ?_; rintro _ _ ⟨b3, rfl, rfl⟩; refine D.relist (L2 := [_]) rfl ?_
  refine D.one ?_
  refine O.loud0 rfl (X.storeA 0 (k := 0) rfl rfl rfl rfl rfl rfl Tryd.sizeOf27 rfl) ?_; rintro _ _ ⟨rfl, rfl⟩; refine D.relist (L2 := [_]) rfl ?_
  refine D.keep [1, 2, 3] (env1 := [(1, _), (2, _), (3, _)]) rfl ?_
  refine C.relist (L2 := [_, _, _]) rfl ?_
  refine C.seq ?_
  refine C.seq ?_
  refine C.region ?_
  refine E.pure (S.field rfl fa69_2) rfl ?_
  refine E.still (S.loadA 2 (k := 2) rfl rfl rfl rfl Tryd.isAgg67 Tryd.sizeOf67) rfl ?_
  refine E.loud1 (OpX.pick [] (F := [_, _, _]) rfl (X.call rfl Tryd.call40 (isZero_spec (timeN h.mod)))) rfl ?_; rintro _ _ ⟨_, ⟨_, rfl, rfl⟩, rfl⟩; refine E.relist (L2 := [_, _, _, _]) rfl ?_
  refine E.pure (S.notB rfl) rfl ?_
  refine E.keep [1, 2, 3, 17] (env1 := [(1, _), (2, _), (3, _), (17, _)]) rfl ?_
  first | refine C.ifp rfl (fun h17 => ?_) (fun h17 => ?_) | refine C.cond rfl (fun h17 => ?_) (fun h17 => ?_)
  ·
   have hz : h.mod ≠ 0 := by
     intro hz
     rw [timeN, if_pos hz] at h17
     simp at h17
   refine C.region ?_
   refine E.pure (S.field rfl fa69_2) rfl ?_
   refine E.still (S.loadA 3 (k := 2) rfl rfl rfl rfl Tryd.isAgg67 Tryd.sizeOf67) rfl ?_
   refine E.reslot (v := .agg #[.int .u64 0, .int .i64 ((h.mod + 62135596800 : Nat) : Int)]) (by show Value.agg #[.int .u64 0, .int .i64 (timeV h.mod)] = _; rw [timeV, timeN, if_neg hz]) ?_
   refine E.loud1 (OpX.pick [] (F := [_, _, _, _]) rfl (X.call rfl Tryd.call41 (timeUnix_spec h.mod (by omega)))) rfl ?_; rintro _ _ ⟨_, ⟨_, rfl, rfl⟩, rfl⟩; refine E.relist (L2 := [_, _, _, _, _]) rfl ?_
   refine E.pure (S.field rfl fa27_3) rfl ?_
   refine E.loud0 (X.store 2 (k := 3) rfl rfl rfl rfl rfl Tryd.sizeOf2) ?_; rintro _ _ ⟨rfl, rfl⟩; refine E.relist (L2 := [_, _, _, _, _]) rfl ?_
   refine E.keep [1, 2, 3, 17] (env1 := [(1, _), (2, _), (3, _), (17, _)]) rfl ?_
   refine C.seq ?_
   refine C.region ?_
   refine E.still (S.loadA 2 (k := 0) rfl rfl rfl rfl Tryd.isAgg27 Tryd.sizeOf27) rfl ?_
   refine E.loud0 (X.storeA 3 (k := 0) rfl rfl rfl rfl rfl rfl Tryd.sizeOf27 rfl) ?_; rintro _ _ ⟨rfl, rfl⟩; refine E.relist (L2 := [_, _, _, _, _]) rfl ?_
   refine E.keep [1, 2, 3, 17] (env1 := [(1, _), (2, _), (3, _), (17, _)]) rfl ?_
   refine C.ret ?_
   refine ⟨_, ⟨_, _, 3, rfl, rfl, rfl⟩, rfl⟩
  ·
   have hz : h.mod = 0 := by
     unfold timeN at h17
     split at h17
     · assumption
     · simp at h17
   refine C.skip ?_
   refine C.seq ?_
   refine C.region ?_
   refine E.still (S.loadA 1 (k := 0) rfl rfl rfl rfl Tryd.isAgg27 Tryd.sizeOf27) rfl ?_
   refine E.loud0 (X.storeA 2 (k := 0) rfl rfl rfl rfl rfl rfl Tryd.sizeOf27 rfl) ?_; rintro _ _ ⟨rfl, rfl⟩; refine E.relist (L2 := [_, _, _, _]) rfl ?_
   refine E.keep [1, 2, 3, 17] (env1 := [(1, _), (2, _), (3, _), (17, _)]) rfl ?_
   refine C.ret ?_
   refine ⟨_, ⟨_, _, 2, rfl, rfl, rfl⟩, (by rw [hz]; rfl)⟩
 ·
  refine O.loud1 rfl (X.alloc Tryd.zeroValue27) rfl ?_; rintro _ _ ⟨b3, rfl, rfl⟩; refine D.relist (L2 := [_]) rfl ?_
  refine D.one ?_
  refine O.loud1 rfl (OpX.pick [] (F := [_]) rfl (X.call rfl Tryd.call24 clone_nil)) rfl ?_; rintro _ _ ⟨_, ⟨rfl, rfl⟩, rfl⟩; refine D.relist (L2 := [_]) rfl ?_
  refine D.pure rfl (S.buildV (v := .agg #[.string h.name, .string h.comment, .slice none 0 0, .int .i64 0, .int .u8 ((h.os : Nat) : Int)]) [(0, .string h.name), (1, .string h.comment), (2, .slice none 0 0), (4, .int .u8 ((h.os : Nat) : Int))] rfl (fun w => by simp [Instr.build, Instr.fill, Value.cells, Tryd.zeroValue27])) rfl ?_
  refine D.one ?_
  refine O.loud0 rfl (X.storeA 0 (k := 0) rfl rfl rfl rfl rfl rfl Tryd.sizeOf27 rfl) ?_; rintro _ _ ⟨rfl, rfl⟩; refine D.relist (L2 := [_]) rfl ?_
  refine D.keep [1, 2, 3] (env1 := [(1, _), (2, _), (3, _)]) rfl ?_
  refine C.relist (L2 := [_, _, _]) rfl ?_
  refine C.seq ?_
  refine C.seq ?_
  refine C.region ?_
  refine E.pure (S.field rfl fa69_2) rfl ?_
  refine E.still (S.loadA 2 (k := 2) rfl rfl rfl rfl Tryd.isAgg67 Tryd.sizeOf67) rfl ?_
  refine E.loud1 (OpX.pick [] (F := [_, _, _]) rfl (X.call rfl Tryd.call40 (isZero_spec (timeN h.mod)))) rfl ?_; rintro _ _ ⟨_, ⟨_, rfl, rfl⟩, rfl⟩; refine E.relist (L2 := [_, _, _, _]) rfl ?_
  refine E.pure (S.notB rfl) rfl ?_
  refine E.keep [1, 2, 3, 17] (env1 := [(1, _), (2, _), (3, _), (17, _)]) rfl ?_
  first | refine C.ifp rfl (fun h17 => ?_) (fun h17 => ?_) | refine C.cond rfl (fun h17 => ?_) (fun h17 => ?_)
  ·
   have hz : h.mod ≠ 0 := by
     intro hz
     rw [timeN, if_pos hz] at h17
     simp at h17
   refine C.region ?_
   refine E.pure (S.field rfl fa69_2) rfl ?_
   refine E.still (S.loadA 3 (k := 2) rfl rfl rfl rfl Tryd.isAgg67 Tryd.sizeOf67) rfl ?_
   refine E.reslot (v := .agg #[.int .u64 0, .int .i64 ((h.mod + 62135596800 : Nat) : Int)]) (by show Value.agg #[.int .u64 0, .int .i64 (timeV h.mod)] = _; rw [timeV, timeN, if_neg hz]) ?_
   refine E.loud1 (OpX.pick [] (F := [_, _, _, _]) rfl (X.call rfl Tryd.call41 (timeUnix_spec h.mod (by omega)))) rfl ?_; rintro _ _ ⟨_, ⟨_, rfl, rfl⟩, rfl⟩; refine E.relist (L2 := [_, _, _, _, _]) rfl ?_
   refine E.pure (S.field rfl fa27_3) rfl ?_
   refine E.loud0 (X.store 2 (k := 3) rfl rfl rfl rfl rfl Tryd.sizeOf2) ?_; rintro _ _ ⟨rfl, rfl⟩; refine E.relist (L2 := [_, _, _, _, _]) rfl ?_
   refine E.keep [1, 2, 3, 17] (env1 := [(1, _), (2, _), (3, _), (17, _)]) rfl ?_
   refine C.seq ?_
   refine C.region ?_
   refine E.still (S.loadA 2 (k := 0) rfl rfl rfl rfl Tryd.isAgg27 Tryd.sizeOf27) rfl ?_
   refine E.loud0 (X.storeA 3 (k := 0) rfl rfl rfl rfl rfl rfl Tryd.sizeOf27 rfl) ?_; rintro _ _ ⟨rfl, rfl⟩; refine E.relist (L2 := [_, _, _, _, _]) rfl ?_
   refine E.keep [1, 2, 3, 17] (env1 := [(1, _), (2, _), (3, _), (17, _)]) rfl ?_
   refine C.ret ?_
   refine ⟨_, ⟨_, _, 3, rfl, rfl, rfl⟩, rfl⟩
  ·
   have hz : h.mod = 0 := by
     unfold timeN at h17
     split at h17
     · assumption
     · simp at h17
   refine C.skip ?_
   refine C.seq ?_
   refine C.region ?_
   refine E.still (S.loadA 1 (k := 0) rfl rfl rfl rfl Tryd.isAgg27 Tryd.sizeOf27) rfl ?_
   refine E.loud0 (X.storeA 2 (k := 0) rfl rfl rfl rfl rfl rfl Tryd.sizeOf27 rfl) ?_; rintro _ _ ⟨rfl, rfl⟩; refine E.relist (L2 := [_, _, _, _]) rfl ?_
   refine E.keep [1, 2, 3, 17] (env1 := [(1, _), (2, _), (3, _), (17, _)]) rfl ?_
   refine C.ret ?_
   refine ⟨_, ⟨_, _, 2, rfl, rfl, rfl⟩, (by rw [hz]; rfl)⟩
theorem headerOf_some {K : Known} (h : Hd) (hm : h.mod < 4294967296) (eb : Nat) (d : List UInt8) (hd : d.length < 65536) : Fn Tryd.prog K 28 #[.agg #[.string h.comment, .slice (some ⟨eb, 0, none⟩) d.length d.length, .int .u64 0, .int .i64 (timeV h.mod), .string h.name, .int .u8 ((h.os : Nat) : Int)]] ([⟨eb, 0, bytesV d⟩]) (fun r L => ∃ v g, Own d v g ∧ g ∈ L ∧ r = .agg #[.string h.name, .string h.comment, v, .int .i64 ((h.mod : Nat) : Int), .int .u8 ((h.os : Nat) : Int)]) := by
 refine Fn.intro (args := [.agg #[.string h.comment, .slice (some ⟨eb, 0, none⟩) d.length d.length, .int .u64 0, .int .i64 (timeV h.mod), .string h.name, .int .u8 ((h.os : Nat) : Int)]]) (RR := RetC 2 5  _) Tryd.func28 rfl rfl Tryd.ntmps28 (resC Tryd.results28 Tryd.isAgg27 Tryd.sizeOf27) ?_
 refine C.reenv (env2 := [(0, .agg #[.string h.comment, .slice (some ⟨eb, 0, none⟩) d.length d.length, .int .u64 0, .int .i64 (timeV h.mod), .string h.name, .int .u8 ((h.os : Nat) : Int)])]) rfl ?_
 refine C.seq ?_
 refine C.region ?_
 refine E.loud1 (X.box rfl) rfl ?_; rintro _ _ ⟨b1, rfl, rfl⟩; refine E.relist (L2 := [_, _]) rfl ?_
 refine E.loud1 (X.alloc Tryd.zeroValue27) rfl ?_; rintro _ _ ⟨b2, rfl, rfl⟩; refine E.relist (L2 := [_, _, _]) rfl ?_
 refine E.keep [1, 2] (env1 := [(1, _), (2, _)]) rfl ?_
 refine C.seq ?_
 refine C.known ?_
 intro K2 hK2 hc2
 have hKB : KB K2 eb 0 d := fun j hj => hc2 ⟨eb, 0, bytesV d⟩ (.tail _ (.tail _ (.head _))) j _ (bytesV_get hj)
 refine C.draw [0, 1, 0, 4, 0, 16, 32, 0, 128, 330, 0, 2047] (.pure 0 1532 (.pure 1 1533 (.pure 2 1523 (.pure 3 1527 (.pure 4 1423 (.pure 5 1439 (.pure 7 1151 (.pure 8 1279 (.alt 6 (.pure 9 1535 (.alt 10 (.alt 11 .done .stop) .stop)) (.alt 10 (.alt 6 (.pure 9 1535 (.alt 11 .done .stop)) .stop) .stop)))))))))) mixed (by decide +kernel) ?_
 refine D.pure rfl (S.field rfl fa69_3) rfl ?_
 refine D.known rfl (loadBaseK rfl (hc2 ⟨b1, 0, _⟩ (.tail _ (.head _)) 4 _ rfl) Tryd.isAgg9) rfl ?_
 refine D.pure rfl (S.field rfl fa69_0) rfl ?_
 refine D.known rfl (loadBaseK rfl (hc2 ⟨b1, 0, _⟩ (.tail _ (.head _)) 0 _ rfl) Tryd.isAgg9) rfl ?_
 refine D.pure rfl (S.field rfl fa69_1) rfl ?_
 refine D.known rfl (loadBaseK rfl (hc2 ⟨b1, 0, _⟩ (.tail _ (.head _)) 1 _ rfl) Tryd.isAgg22) rfl ?_
 refine D.pure rfl (S.field rfl fa69_4) rfl ?_
 refine D.known rfl (loadBaseK rfl (hc2 ⟨b1, 0, _⟩ (.tail _ (.head _)) 5 _ rfl) Tryd.isAgg5) rfl ?_
 refine D.alt ?_ ⟨?_, trivial⟩
 ·
  refine O.loud1 rfl (X.call rfl Tryd.call24 (clone_spec eb 0 d.length d hKB.reads (by omega))) rfl ?_; rintro _ _ ⟨g, ⟨cb, co, cc, cs, rfl, rfl, hcc⟩, rfl⟩; refine D.relist (L2 := [_]) rfl ?_
  refine D.pure rfl (S.buildV (v := .agg #[.string h.name, .string h.comment, .slice (some ⟨cb, co, none⟩) d.length cc, .int .i64 0, .int .u8 ((h.os : Nat) : Int)]) [(0, .string h.name), (1, .string h.comment), (2, .slice (some ⟨cb, co, none⟩) d.length cc), (4, .int .u8 ((h.os : Nat) : Int))] rfl (fun w => by simp [Instr.build, Instr.fill, Value.cells, Tryd.zeroValue27])) rfl ?_
  refine D.one ?_
  refine O.loud1 rfl (X.alloc Tryd.zeroValue27) rfl ?_; rintro _ _ ⟨b3, rfl, rfl⟩; refine D.relist (L2 := [_, _]) rfl ?_
  refine D.one ?_
  refine O.loud0 rfl (X.storeA 0 (k := 0) rfl rfl rfl rfl rfl rfl Tryd.sizeOf27 rfl) ?_; rintro _ _ ⟨rfl, rfl⟩; refine D.relist (L2 := [_, _]) rfl ?_
  refine D.keep [1, 2, 3] (env1 := [(1, _), (2, _), (3, _)]) rfl ?_
  refine C.relist (L2 := [_, _, _, _, _]) rfl ?_
  refine C.seq ?_
  refine C.seq ?_
  refine C.region ?_
  refine E.pure (S.field rfl fa69_2) rfl ?_
  refine E.still (S.loadA 3 (k := 2) rfl rfl rfl rfl Tryd.isAgg67 Tryd.sizeOf67) rfl ?_
  refine E.loud1 (OpX.pick [] (F := [_, _, _, _, _]) rfl (X.call rfl Tryd.call40 (isZero_spec (timeN h.mod)))) rfl ?_; rintro _ _ ⟨_, ⟨_, rfl, rfl⟩, rfl⟩; refine E.relist (L2 := [_, _, _, _, _, _]) rfl ?_
  refine E.pure (S.notB rfl) rfl ?_
  refine E.keep [1, 2, 3, 17] (env1 := [(1, _), (2, _), (3, _), (17, _)]) rfl ?_
  first | refine C.ifp rfl (fun h17 => ?_) (fun h17 => ?_) | refine C.cond rfl (fun h17 => ?_) (fun h17 => ?_)
  ·
   have hz : h.mod ≠ 0 := by
     intro hz
     rw [timeN, if_pos hz] at h17
     simp at h17
   refine C.region ?_
   refine E.pure (S.field rfl fa69_2) rfl ?_
   refine E.still (S.loadA 4 (k := 2) rfl rfl rfl rfl Tryd.isAgg67 Tryd.sizeOf67) rfl ?_
   refine E.reslot (v := .agg #[.int .u64 0, .int .i64 ((h.mod + 62135596800 : Nat) : Int)]) (by show Value.agg #[.int .u64 0, .int .i64 (timeV h.mod)] = _; rw [timeV, timeN, if_neg hz]) ?_
   refine E.loud1 (OpX.pick [] (F := [_, _, _, _, _, _]) rfl (X.call rfl Tryd.call41 (timeUnix_spec h.mod (by omega)))) rfl ?_; rintro _ _ ⟨_, ⟨_, rfl, rfl⟩, rfl⟩; refine E.relist (L2 := [_, _, _, _, _, _, _]) rfl ?_
   refine E.pure (S.field rfl fa27_3) rfl ?_
   refine E.loud0 (X.store 2 (k := 3) rfl rfl rfl rfl rfl Tryd.sizeOf2) ?_; rintro _ _ ⟨rfl, rfl⟩; refine E.relist (L2 := [_, _, _, _, _, _, _]) rfl ?_
   refine E.keep [1, 2, 3, 17] (env1 := [(1, _), (2, _), (3, _), (17, _)]) rfl ?_
   refine C.seq ?_
   refine C.region ?_
   refine E.still (S.loadA 2 (k := 0) rfl rfl rfl rfl Tryd.isAgg27 Tryd.sizeOf27) rfl ?_
   refine E.loud0 (X.storeA 4 (k := 0) rfl rfl rfl rfl rfl rfl Tryd.sizeOf27 rfl) ?_; rintro _ _ ⟨rfl, rfl⟩; refine E.relist (L2 := [_, _, _, _, _, _, _]) rfl ?_
   refine E.keep [1, 2, 3, 17] (env1 := [(1, _), (2, _), (3, _), (17, _)]) rfl ?_
   refine C.ret ?_
   refine ⟨_, ⟨_, _, 4, rfl, rfl, rfl⟩, _, ⟨cb, co, bytesV d ++ cs⟩, ⟨cb, co, cc, cs, rfl, rfl, hcc⟩, by simp, rfl⟩
  ·
   have hz : h.mod = 0 := by
     unfold timeN at h17
     split at h17
     · assumption
     · simp at h17
   refine C.skip ?_
   refine C.seq ?_
   refine C.region ?_
   refine E.still (S.loadA 1 (k := 0) rfl rfl rfl rfl Tryd.isAgg27 Tryd.sizeOf27) rfl ?_
   refine E.loud0 (X.storeA 3 (k := 0) rfl rfl rfl rfl rfl rfl Tryd.sizeOf27 rfl) ?_; rintro _ _ ⟨rfl, rfl⟩; refine E.relist (L2 := [_, _, _, _, _, _]) rfl ?_
   refine E.keep [1, 2, 3, 17] (env1 := [(1, _), (2, _), (3, _), (17, _)]) rfl ?_
   refine C.ret ?_
   refine ⟨_, ⟨_, _, 3, rfl, rfl, rfl⟩, _, ⟨cb, co, bytesV d ++ cs⟩, ⟨cb, co, cc, cs, rfl, rfl, hcc⟩, by simp, (by rw [hz]; rfl)⟩
 ·
  refine O.loud1 rfl (X.alloc Tryd.zeroValue27) rfl ?_; rintro _ _ ⟨b3, rfl, rfl⟩; refine D.relist (L2 := [_]) rfl ?_
  refine D.one ?_
  refine O.loud1 rfl (X.call rfl Tryd.call24 (clone_spec eb 0 d.length d hKB.reads (by omega))) rfl ?_; rintro _ _ ⟨g, ⟨cb, co, cc, cs, rfl, rfl, hcc⟩, rfl⟩; refine D.relist (L2 := [_, _]) rfl ?_
  refine D.pure rfl (S.buildV (v := .agg #[.string h.name, .string h.comment, .slice (some ⟨cb, co, none⟩) d.length cc, .int .i64 0, .int .u8 ((h.os : Nat) : Int)]) [(0, .string h.name), (1, .string h.comment), (2, .slice (some ⟨cb, co, none⟩) d.length cc), (4, .int .u8 ((h.os : Nat) : Int))] rfl (fun w => by simp [Instr.build, Instr.fill, Value.cells, Tryd.zeroValue27])) rfl ?_
  refine D.one ?_
  refine O.loud0 rfl (X.storeA 1 (k := 0) rfl rfl rfl rfl rfl rfl Tryd.sizeOf27 rfl) ?_; rintro _ _ ⟨rfl, rfl⟩; refine D.relist (L2 := [_, _]) rfl ?_
  refine D.keep [1, 2, 3] (env1 := [(1, _), (2, _), (3, _)]) rfl ?_
  refine C.relist (L2 := [_, _, _, _, _]) rfl ?_
  refine C.seq ?_
  refine C.seq ?_
  refine C.region ?_
  refine E.pure (S.field rfl fa69_2) rfl ?_
  refine E.still (S.loadA 3 (k := 2) rfl rfl rfl rfl Tryd.isAgg67 Tryd.sizeOf67) rfl ?_
  refine E.loud1 (OpX.pick [] (F := [_, _, _, _, _]) rfl (X.call rfl Tryd.call40 (isZero_spec (timeN h.mod)))) rfl ?_; rintro _ _ ⟨_, ⟨_, rfl, rfl⟩, rfl⟩; refine E.relist (L2 := [_, _, _, _, _, _]) rfl ?_
  refine E.pure (S.notB rfl) rfl ?_
  refine E.keep [1, 2, 3, 17] (env1 := [(1, _), (2, _), (3, _), (17, _)]) rfl ?_
  first | refine C.ifp rfl (fun h17 => ?_) (fun h17 => ?_) | refine C.cond rfl (fun h17 => ?_) (fun h17 => ?_)
  ·
   have hz : h.mod ≠ 0 := by
     intro hz
     rw [timeN, if_pos hz] at h17
     simp at h17
   refine C.region ?_
   refine E.pure (S.field rfl fa69_2) rfl ?_
   refine E.still (S.loadA 4 (k := 2) rfl rfl rfl rfl Tryd.isAgg67 Tryd.sizeOf67) rfl ?_
   refine E.reslot (v := .agg #[.int .u64 0, .int .i64 ((h.mod + 62135596800 : Nat) : Int)]) (by show Value.agg #[.int .u64 0, .int .i64 (timeV h.mod)] = _; rw [timeV, timeN, if_neg hz]) ?_
   refine E.loud1 (OpX.pick [] (F := [_, _, _, _, _, _]) rfl (X.call rfl Tryd.call41 (timeUnix_spec h.mod (by omega)))) rfl ?_; rintro _ _ ⟨_, ⟨_, rfl, rfl⟩, rfl⟩; refine E.relist (L2 := [_, _, _, _, _, _, _]) rfl ?_
   refine E.pure (S.field rfl fa27_3) rfl ?_
   refine E.loud0 (X.store 3 (k := 3) rfl rfl rfl rfl rfl Tryd.sizeOf2) ?_; rintro _ _ ⟨rfl, rfl⟩; refine E.relist (L2 := [_, _, _, _, _, _, _]) rfl ?_
   refine E.keep [1, 2, 3, 17] (env1 := [(1, _), (2, _), (3, _), (17, _)]) rfl ?_
   refine C.seq ?_
   refine C.region ?_
   refine E.still (S.loadA 3 (k := 0) rfl rfl rfl rfl Tryd.isAgg27 Tryd.sizeOf27) rfl ?_
   refine E.loud0 (X.storeA 4 (k := 0) rfl rfl rfl rfl rfl rfl Tryd.sizeOf27 rfl) ?_; rintro _ _ ⟨rfl, rfl⟩; refine E.relist (L2 := [_, _, _, _, _, _, _]) rfl ?_
   refine E.keep [1, 2, 3, 17] (env1 := [(1, _), (2, _), (3, _), (17, _)]) rfl ?_
   refine C.ret ?_
   refine ⟨_, ⟨_, _, 4, rfl, rfl, rfl⟩, _, ⟨cb, co, bytesV d ++ cs⟩, ⟨cb, co, cc, cs, rfl, rfl, hcc⟩, by simp, rfl⟩
  ·
   have hz : h.mod = 0 := by
     unfold timeN at h17
     split at h17
     · assumption
     · simp at h17
   refine C.skip ?_
   refine C.seq ?_
   refine C.region ?_
   refine E.still (S.loadA 2 (k := 0) rfl rfl rfl rfl Tryd.isAgg27 Tryd.sizeOf27) rfl ?_
   refine E.loud0 (X.storeA 3 (k := 0) rfl rfl rfl rfl rfl rfl Tryd.sizeOf27 rfl) ?_; rintro _ _ ⟨rfl, rfl⟩; refine E.relist (L2 := [_, _, _, _, _, _]) rfl ?_
   refine E.keep [1, 2, 3, 17] (env1 := [(1, _), (2, _), (3, _), (17, _)]) rfl ?_
   refine C.ret ?_
   refine ⟨_, ⟨_, _, 3, rfl, rfl, rfl⟩, _, ⟨cb, co, bytesV d ++ cs⟩, ⟨cb, co, cc, cs, rfl, rfl, hcc⟩, by simp, (by rw [hz]; rfl)⟩
theorem headerOf_spec {K : Known} (h : Hd) (hm : h.mod < 4294967296) (xa : Option Addr) (xn : Nat) (X : Frag) (hX : ExAt h.extra xa xn X) :
    Fn Tryd.prog K 28 #[.agg #[.string h.comment, .slice xa xn xn, .int .u64 0, .int .i64 (timeV h.mod), .string h.name, .int .u8 ((h.os : Nat) : Int)]] [X] (fun r L => ∃ v g, ExOut h.extra v g ∧ L = [g] ∧ r = .agg #[.string h.name, .string h.comment, v, .int .i64 ((h.mod : Nat) : Int), .int .u8 ((h.os : Nat) : Int)]) := by
  cases hx : h.extra with
  | none =>
    rw [hx] at hX
    obtain ⟨rfl, rfl, _⟩ := hX
    refine Fn.lose (Fn.frame (F := [X]) (headerOf_none h hm)) ?_
    rintro v _ ⟨L1, rfl, rfl⟩
    refine ⟨[X], L1, Same.perm List.perm_append_comm, .slice none 0 0, X, rfl, rfl, rfl⟩
  | some d =>
    rw [hx] at hX
    obtain ⟨b, rfl, rfl, rfl, hd⟩ := hX
    refine Fn.lose (headerOf_some h hm b d hd) ?_
    rintro r L' ⟨v, g, h1, h2, rfl⟩
    obtain ⟨A', B', rfl⟩ := List.append_of_mem h2
    exact ⟨[g], A' ++ B', Same.perm List.perm_middle, v, g, h1, rfl, rfl⟩


theorem rd4_mod (l : List UInt8) (f d : Nat) (h : Hd) : (rd4 l f d h).2.2.mod = h.mod := by
  unfold rd4; split
  · rfl
  · split
    · rfl
    · split <;> rfl
theorem rd3_mod (l : List UInt8) (f d : Nat) (h : Hd) : (rd3 l f d h).2.2.mod = h.mod := by
  unfold rd3; split
  · exact rd4_mod ..
  · split
    · rfl
    · exact rd4_mod ..
theorem rd2_mod (l : List UInt8) (f d : Nat) (h : Hd) : (rd2 l f d h).2.2.mod = h.mod := by
  unfold rd2; split
  · exact rd3_mod ..
  · split
    · rfl
    · exact rd3_mod ..
theorem rd1_mod (l : List UInt8) (f d : Nat) (h : Hd) : (rd1 l f d h).2.2.mod = h.mod := by
  unfold rd1; split
  · exact rd2_mod ..
  · split
    · rfl
    · split
      · rfl
      · exact rd2_mod ..
theorem readHead_mod (l : List UInt8) : (readHead l).2.2.mod < 4294967296 := by
  unfold readHead; split
  · exact Nat.zero_lt_succ _
  · split
    · rw [rd1_mod]; exact le32_lt (UInt8.toNat_lt _) (UInt8.toNat_lt _) (UInt8.toNat_lt _) (UInt8.toNat_lt _)
    · exact Nat.zero_lt_succ _

end Go.Eng
namespace Go.Eng
open Go Go.Proofs
set_option maxRecDepth 100000

theorem sizes_le : ∀ x ∈ sizesL, x ≤ 258 := by decide
theorem more_le : ∀ x ∈ moreL, x ≤ 5 := by decide
theorem getD_le {l : List Nat} {m : Nat} (h : ∀ x ∈ l, x ≤ m) (i : Nat) : l.getD i 0 ≤ m := by
  rcases Nat.lt_or_ge i l.length with h1 | h1
  · rw [List.getD_eq_getElem?_getD, List.getElem?_eq_getElem h1]; exact h _ (List.getElem_mem h1)
  · rw [List.getD_eq_getElem?_getD, List.getElem?_eq_none h1]; exact Nat.zero_le _
theorem copyR_le {t : Tabs} {D : List UInt8} {v p n d p2 : Nat} (h : copyR t D v p = some (n, d, p2)) : n ≤ 290 := by
  unfold copyR at h
  have h1 := getD_le sizes_le (v - 257)
  have h2 := takeB_lt D p (moreL.getD (v - 257) 0)
  have h3 : 2 ^ moreL.getD (v - 257) 0 ≤ 2 ^ 5 := Nat.pow_le_pow_right (by omega) (getD_le more_le _)
  split at h
  · cases h
  · split at h
    · cases h
    · split at h
      · cases h
      · split at h
        · cases h
        · simp only [Option.some.injEq, Prod.mk.injEq] at h
          omega
theorem copyN_len (out : List UInt8) (d n : Nat) : (copyN out d n).length = out.length + n := by
  induction n with
  | zero => rfl
  | succ n ih => rw [copyN, List.length_append, ih]; rfl

theorem run_len_aux (D : List UInt8) : ∀ k ph out p, 8 * D.length - p < k → (run D ph out p).1.length ≤ out.length + 300 * (8 * D.length - p) := by
  intro k
  induction k with
  | zero => exact fun ph out p hk => absurd hk (Nat.not_lt_zero _)
  | succ k ih =>
    intro ph out p hk
    have st : ∀ ph o2 p2, p < p2 ∧ p2 ≤ 8 * D.length → o2.length ≤ out.length + 300 * (p2 - p) → (run D ph o2 p2).1.length ≤ out.length + 300 * (8 * D.length - p) := fun ph o2 p2 h h2 => by
      have := ih ph o2 p2 (by omega)
      omega
    have n0 : out.length ≤ out.length + 300 * (8 * D.length - p) := Nat.le_add_right _ _
    rw [run.eq_def]
    split
    · split
      · exact n0
      · rename_i hl
        unfold left at hl
        split
        · split
          · exact n0
          · rename_i n hn
            unfold storedN at hn
            split at hn
            · cases hn
            · split
              · simp only [List.length_append, List.length_drop]; omega
              · split
                · simp only [List.length_append, List.length_take, List.length_drop]; omega
                · split
                  · rename_i h
                    exact st _ _ _ h (by simp only [List.length_append, List.length_take, List.length_drop]; omega)
                  · exact n0
        · split
          · split
            · rename_i h; exact st _ _ _ h (Nat.le_add_right _ _)
            · exact n0
          · split
            · split
              · exact n0
              · split
                · rename_i h; exact st _ _ _ h (Nat.le_add_right _ _)
                · exact n0
            · exact n0
    · split
      · exact n0
      · split
        · split
          · rename_i h; exact st _ _ _ h (by rw [List.length_append, List.length_singleton]; omega)
          · exact n0
        · split
          · split
            · exact n0
            · split
              · rename_i h; exact st _ _ _ h (Nat.le_add_right _ _)
              · exact n0
          · split
            · exact n0
            · split
              · exact n0
              · rename_i n d p2 hc
                have hn := copyR_le hc
                split
                · exact n0
                · split
                  · rename_i h; exact st _ _ _ h (by rw [copyN_len]; omega)
                  · exact n0
theorem run_len (D : List UInt8) (ph : Ph) (out : List UInt8) (p : Nat) : (run D ph out p).1.length ≤ out.length + 300 * (8 * D.length - p) := run_len_aux D _ ph out p (Nat.lt_succ_self _)

theorem gzR_len_aux (ms : Bool) : ∀ k D, D.length < k → D.length ≤ 65536 → (gzR ms D).1.length ≤ 157286400 * D.length := by
  intro k
  induction k with
  | zero => exact fun D hk _ => absurd hk (Nat.not_lt_zero _)
  | succ k ih =>
    intro D hk hD
    have h1 := run_len D .next [] 0
    simp only [List.length_nil] at h1
    rw [gzR]
    split
    · simp only; omega
    · split
      · simp only; omega
      · split
        · simp only; omega
        · split
          · simp only; omega
          · split
            · simp only; omega
            · split
              · rename_i h
                have := ih _ (Nat.lt_of_lt_of_le h (Nat.le_of_lt_succ hk)) (by omega)
                simp only [List.length_append]
                omega
              · simp only; omega
theorem gzR_len (ms : Bool) (D : List UInt8) (h : D.length ≤ 65536) : (gzR ms D).1.length ≤ 10307921510400 := by
  have := gzR_len_aux ms _ D (Nat.lt_succ_self _) h
  omega
end Go.Eng
namespace Go.Eng
open Go Go.Proofs
set_option maxRecDepth 100000

set_option maxHeartbeats 1000000
/-- A slice of ints. -/
def SzA (K : Known) (sv : Value) : Prop := ∃ a n c, sv = .slice a n c ∧ n ≤ 9223372036854775807 ∧ (n = 0 ∨ ∃ b o, a = some ⟨b, o, none⟩ ∧ ∀ j, j < n → ∃ v : Int, cellAt K b (o + j * 1) = some (.int .i64 v))
theorem SzA.nil (K : Known) : SzA K (.slice none 0 0) := ⟨none, 0, 0, rfl, by decide, .inl rfl⟩

theorem sizeAt_none {K : Known} (a : Option Addr) (c i : Nat) : Fn Tryd.prog K 43 #[.slice a 0 c, .int .i64 ((i : Nat) : Int)] ([]) (fun r L => r = .int .i64 ((512 : Nat) : Int) ∧ L = []) := by
 refine Fn.intro (args := [.slice a 0 c, .int .i64 ((i : Nat) : Int)]) (RR := Ret1 4 _) Tryd.func43 rfl rfl Tryd.ntmps43 (res1 Tryd.results43) ?_
 refine C.reenv (env2 := [(0, .slice a 0 c), (1, .int .i64 ((i : Nat) : Int))]) rfl ?_
 refine C.seq ?_
 refine C.region ?_
 refine E.pure (S.assign rfl) rfl ?_
 refine E.keep [0, 1, 4] (env1 := [(0, _), (1, _), (4, _)]) rfl ?_
 refine C.seq ?_
 refine C.seq ?_
 refine C.region ?_
 refine E.pure (S.move rfl) rfl ?_
 refine E.pure (S.lenSl rfl Tryd.underlying39) rfl ?_
 refine E.pure (S.eq (b := ((0 : Nat) : Int)) rfl rfl) rfl ?_
 refine E.reslot (v := .bool true) (congrArg Value.bool (by decide)) ?_
 refine E.keep [0, 1, 4, 7] (env1 := [(0, _), (1, _), (4, _), (7, _)]) rfl ?_
 refine C.yes rfl (rfl) ?_
 refine C.seq ?_
 refine C.region ?_
 refine E.pure (S.assign rfl) rfl ?_
 refine E.keep [0, 1, 4, 7] (env1 := [(0, _), (1, _), (4, _), (7, _)]) rfl ?_
 refine C.ret ?_
 exact ⟨_, rfl, rfl, rfl⟩
theorem clamp (v : Int) : ∃ k : Nat, 1 ≤ k ∧ k ≤ 4096 ∧ (if (if v < 4096 then v else 4096) > 1 then (if v < 4096 then v else 4096) else (1 : Int)) = (k : Int) := by
  by_cases h1 : v < 4096
  · rw [if_pos h1]
    by_cases h2 : v > 1
    · rw [if_pos h2]; exact ⟨v.toNat, by omega, by omega, by omega⟩
    · rw [if_neg h2]; exact ⟨1, by omega, by omega, rfl⟩
  · rw [if_neg h1, if_pos (by decide)]; exact ⟨4096, by omega, by omega, rfl⟩

theorem sizeAt_some {K : Known} (b o n c i : Nat) (hn0 : 0 < n) (hn : n ≤ 9223372036854775807) (hv : ∀ j, j < n → ∃ v : Int, cellAt K b (o + j * 1) = some (.int .i64 v)) : Fn Tryd.prog K 43 #[.slice (some ⟨b, o, none⟩) (n) (c), .int .i64 ((i : Nat) : Int)] ([]) (fun r L => ∃ k : Nat, 1 ≤ k ∧ k ≤ 4096 ∧ r = .int .i64 (k : Int) ∧ L = []) := by
 refine Fn.intro (args := [.slice (some ⟨b, o, none⟩) (n) (c), .int .i64 ((i : Nat) : Int)]) (RR := Ret1 4 _) Tryd.func43 rfl rfl Tryd.ntmps43 (res1 Tryd.results43) ?_
 refine C.reenv (env2 := [(0, .slice (some ⟨b, o, none⟩) (n) (c)), (1, .int .i64 ((i : Nat) : Int))]) rfl ?_
 refine C.seq ?_
 refine C.region ?_
 refine E.pure (S.assign rfl) rfl ?_
 refine E.keep [0, 1, 4] (env1 := [(0, _), (1, _), (4, _)]) rfl ?_
 refine C.seq ?_
 refine C.seq ?_
 refine C.region ?_
 refine E.pure (S.move rfl) rfl ?_
 refine E.pure (S.lenSl rfl Tryd.underlying39) rfl ?_
 refine E.pure (S.eq (b := ((0 : Nat) : Int)) rfl rfl) rfl ?_
 refine E.reslot (v := .bool false) (congrArg Value.bool (decide_eq_false (by omega))) ?_
 refine E.keep [0, 1, 4, 7] (env1 := [(0, _), (1, _), (4, _), (7, _)]) rfl ?_
 refine C.no rfl (rfl) ?_
 refine C.skip ?_
 refine C.seq ?_
 refine C.region ?_
 refine E.pure (S.move rfl) rfl ?_
 refine E.pure (S.move rfl) rfl ?_
 refine E.pure (S.move rfl) rfl ?_
 refine E.pure (S.lenSl rfl Tryd.underlying39) rfl ?_
 refine E.pure (S.rem (a := ((i : Nat) : Int)) (b := ((n : Nat) : Int)) (r := ((i % n : Nat) : Int)) rfl rfl (by omega) (by rw [← Int.ofNat_tmod])) rfl ?_
 have hil := Nat.mod_lt i hn0
 obtain ⟨v, hcell⟩ := hv (i % n) hil
 refine E.pure (S.ixSl rfl rfl (by omega) Tryd.underlying39 Tryd.sizeOf3) rfl ?_
 refine E.still (S.loadBase rfl hcell Tryd.isAgg3) rfl ?_
 refine E.pure (S.min2 rfl rfl) rfl ?_
 refine E.pure (S.max2 rfl rfl) rfl ?_
 obtain ⟨kk, hk1, hk2, hk3⟩ := clamp v
 refine E.reslot (v := .int .i64 (kk : Int)) (congrArg (Value.int .i64) hk3) ?_
 refine E.pure (S.assign rfl) rfl ?_
 refine E.keep [0, 4, 7] (env1 := [(0, _), (4, _), (7, _)]) rfl ?_
 refine C.ret ?_
 exact ⟨_, rfl, kk, hk1, hk2, rfl, rfl⟩
theorem sizeAt_spec {K : Known} {sv : Value} (h : SzA K sv) (i : Nat) (L : Frags) : Fn Tryd.prog K 43 #[sv, .int .i64 ((i : Nat) : Int)] L fun r L' => ∃ k : Nat, 1 ≤ k ∧ k ≤ 4096 ∧ r = .int .i64 (k : Int) ∧ L' = L := by
  obtain ⟨a, n, c, rfl, h1, h2⟩ := h
  refine Fn.mono (R := fun v L' => ∃ L1, (∃ k : Nat, 1 ≤ k ∧ k ≤ 4096 ∧ v = .int .i64 (k : Int) ∧ L1 = []) ∧ L' = L1 ++ L) ?_ ?_
  · refine Fn.frame (L := []) (F := L) ?_
    rcases Nat.eq_zero_or_pos n with rfl | h0
    · exact Fn.mono (sizeAt_none a c i) fun v L h => ⟨512, by decide, by decide, h.1, h.2⟩
    · obtain ⟨b, o, rfl, hv⟩ := h2.resolve_left (by omega)
      exact sizeAt_some b o n c i h0 h1 hv
  · rintro v L' ⟨L1, ⟨k, h1, h2, rfl, rfl⟩, rfl⟩
    exact ⟨k, h1, h2, rfl, rfl⟩
/-- A result of unpacking: how it opened, the header, the bytes, the end. -/
abbrev UnpR := Nat × Hd × List UInt8 × Nat
def unV (u : UnpR) (ev bv : Value) : Value := .agg #[.int .i64 ((u.1 : Nat) : Int), .string u.2.1.name, .string u.2.1.comment, ev, .int .i64 ((u.2.1.mod : Nat) : Int), .int .u8 ((u.2.1.os : Nat) : Int), bv, .int .i64 ((u.2.2.2 : Nat) : Int)]
/-- Bytes that are read in memory. -/
def RdV (v : Value) (l : List UInt8) (G : Frags) : Prop := ∃ a c, v = .slice a l.length c ∧ ∀ (K : Known) (L : Frags), (∀ f ∈ G, f ∈ L) → (l = [] ∨ ∃ b o, a = some ⟨b, o, none⟩ ∧ Reads K L b o (bytesV l))
def UnpV (u : UnpR) (r : Value) (G : Frags) : Prop := ∃ ev bv, r = unV u ev bv ∧ RdV ev (u.2.1.extra.getD []) G ∧ RdV bv u.2.2.1 G
theorem RdV.mono {v : Value} {l : List UInt8} {G G2 : Frags} (h : RdV v l G) (hs : ∀ f ∈ G, f ∈ G2) : RdV v l G2 := by
  obtain ⟨a, c, e, h⟩ := h
  exact ⟨a, c, e, fun K L hL => h K L fun f hf => hL f (hs f hf)⟩
theorem UnpV.mono {u : UnpR} {r : Value} {G G2 : Frags} (h : UnpV u r G) (hs : ∀ f ∈ G, f ∈ G2) : UnpV u r G2 := by
  obtain ⟨ev, bv, e, h1, h2⟩ := h
  exact ⟨ev, bv, e, h1.mono hs, h2.mono hs⟩
theorem RdV.nil : RdV (.slice none 0 0) [] [] := ⟨none, 0, rfl, fun _ _ _ => .inl rfl⟩
theorem exOut_rd {ex : Option (List UInt8)} {v : Value} {g : Frag} (h : ExOut ex v g) : RdV v (ex.getD []) [g] := by
  cases ex with
  | none => have h' : v = _ := h; subst h'; exact ⟨_, _, rfl, fun _ _ _ => .inl rfl⟩
  | some d =>
    obtain ⟨b, o, c, cs, rfl, rfl, _⟩ := h
    exact ⟨_, _, rfl, fun K L hL => .inr ⟨b, o, rfl, Reads.mem (k := 0) (hL _ (.head _)) (by rw [List.drop_zero]; exact List.take_left' rfl)⟩⟩
theorem sl_rd {v : Value} {l : List UInt8} {Lf : Frags} (h : Sl 1 v l.length (bytesV l) Lf) : RdV v l Lf := by
  rcases h.2 with ⟨rfl, h2, rfl⟩ | ⟨b, o, c, cs, rfl, rfl, h3, h4, h5, h6⟩
  · have := List.eq_nil_of_length_eq_zero h2
    subst this
    exact RdV.nil
  · rw [Nat.mul_one] at h6
    exact ⟨_, _, rfl, fun K L hL => .inr ⟨b, o, rfl, Reads.mem (k := 0) (hL _ (.head _)) (by rw [List.drop_zero, bytesV_length]; exact h6)⟩⟩
/-- How rest ends. -/
def RestEnd {K : Known} {ea : Fin 5 → Addr} (src : Src K ea) (zb : Nat) (ms : Bool) (h : Hd) (Y : List UInt8 × ZEnd) (r : Value) (L : Frags) : Prop :=
  ∃ GL f1 f2 f3 LZ, UnpV (0, h, Y.1, Y.2.1) r GL ∧ (∃ l, src.At l f1 f2 f3) ∧ (ms = false → Y.2.1 = 1 → src.At Y.2.2 f1 f2 f3) ∧ ZOld zb LZ ∧ L = GL ++ (f1 :: f2 :: f3 :: LZ)
theorem zRead_spec {K : Known} {ea : Fin 5 → Addr} (hs : Sents K ea) (hc : Codes K) {src : Src K ea} {zb : Nat} {ms : Bool} {Y : List UInt8 × ZEnd} {LZ : Frags} (hZ : ZRd src zb ms Y LZ) (pb po n c : Nat) (cs : List Value) (hn : n = cs.length) (hn0 : 0 < n) (hnc : n ≤ c) (hnl : n ≤ 4611686018427387904) (G : Frags) :
    Fn Tryd.prog K 36 #[.pointer (some ⟨zb, 0, none⟩), .slice (some ⟨pb, po, none⟩) (n) (c)] (⟨pb, po, cs⟩ :: (G ++ LZ)) fun r L => ∃ k er LZ2, r = .tuple #[.int .i64 ((k : Nat) : Int), Er.val ea er] ∧ k ≤ n ∧ k ≤ Y.1.length ∧ L = ⟨pb, po, bytesV (Y.1.take k) ++ cs.drop k⟩ :: (G ++ LZ2) ∧
      ((er = .none ∧ 0 < k ∧ ZRd src zb ms (Y.1.drop k, Y.2) LZ2) ∨
       (er ≠ .none ∧ k = Y.1.length ∧ kindOf er = Y.2.1 ∧ ∃ f1 f2 f3 LZ, (∃ l, src.At l f1 f2 f3) ∧ (ms = false → Y.2.1 = 1 → src.At Y.2.2 f1 f2 f3) ∧ ZOld zb LZ ∧ LZ2 = f1 :: f2 :: f3 :: LZ)) := by
  obtain ⟨Dt, gv, c0, c1, c2, c3, c4, c5, bs, fb, DK, hb, hD, hg, hY, rfl⟩ := hZ
  have pm : ∀ (B a1 a2 a3 : Frag) (DK : Frags), (B :: (G ++ ([a1, a2, a3] ++ DK))).Perm (([a1, a2, a3, B] ++ DK) ++ G) := fun B a1 a2 a3 DK => by
    refine (List.Perm.cons B List.perm_append_comm).trans ?_
    refine List.Perm.trans ?_ (List.Perm.append_right G (List.perm_middle (l₁ := [a1, a2, a3]) (l₂ := DK)).symm)
    exact .refl _
  refine Fn.lose (Fn.perm (pm _ _ _ _ DK) (Fn.frame (F := G) (zRead_walk hs hc src zb ms Y pb po n c cs hn hn0 hnc hnl Dt gv c0 c1 c2 c3 c4 c5 bs fb DK hb hD hg .none rfl hY))) ?_
  rintro v L ⟨L1, ⟨L2, J, hS, k, er, rfl, h1, h2, h3⟩, rfl⟩
  have hs2 : ∀ (B : Frag) (LZ : Frags), L2 = B :: LZ → Same (L1 ++ G) ((B :: (G ++ LZ)) ++ J) := fun B LZ e => by
    subst e
    have q1 := (Same.perm (List.perm_append_comm (l₁ := L1) (l₂ := G))).trans (Same.appendL G hS)
    refine q1.trans (Same.perm ?_)
    rw [← List.append_assoc]
    exact (List.perm_middle (l₁ := G) (l₂ := LZ)).append_right J
  rcases h3 with ⟨rfl, h3, LZ, h4, h5⟩ | ⟨h3, h4, h5, f1, f2, f3, LZ, h6, h7, h8, h9⟩
  · exact ⟨_, J, hs2 _ LZ h5, k, .none, LZ, rfl, h1, h2, rfl, .inl ⟨rfl, h3, h4⟩⟩
  · exact ⟨_, J, hs2 _ _ h9, k, er, _, rfl, h1, h2, rfl, .inr ⟨h3, h4, h5, f1, f2, f3, LZ, h6, h7, h8, rfl⟩⟩
theorem zat_rd {K : Known} {ea : Fin 5 → Addr} {src : Src K ea} {zb : Nat} {h : Hd} {rest : List UInt8} {f1 f2 f3 : Frag} {bs : List Value} {xa : Option Addr} {xn fb : Nat} {DN : Frags} (ms : Bool) (hA : src.At rest f1 f2 f3) (hb : bs.length = 512) (hDN : DecNew src fb DN) :
    ∃ LZ, ZRd src zb ms (gzR ms rest) LZ ∧ ∀ G, Same (G ++ ([f1, f2, f3, ⟨zb, 0, [.string h.comment, .slice xa xn xn, .int .u64 0, .int .i64 (timeV h.mod), .string h.name, .int .u8 ((h.os : Nat) : Int), .iface src.t src.v, .iface 157 (.pointer (some ⟨fb, 0, none⟩)), .int .u32 ((0 : Nat) : Int), .int .u32 0]⟩, ⟨zb, 10, bs⟩, ⟨zb, 522, [Er.val ea .none, .bool ms]⟩] ++ DN)) (G ++ LZ) := by
  refine ⟨[⟨zb, 0, [.string h.comment, .slice xa xn xn, .int .u64 0, .int .i64 (timeV h.mod), .string h.name, .int .u8 ((h.os : Nat) : Int), .iface src.t src.v, .iface 157 (.pointer (some ⟨fb, 0, none⟩)), .int .u32 ((0 : Nat) : Int), .int .u32 0]⟩, ⟨zb, 10, bs⟩, ⟨zb, 522, [Er.val ea .none, .bool ms]⟩] ++ (f1 :: f2 :: f3 :: DN), ⟨rest, 0, .string h.comment, .slice xa xn xn, .int .u64 0, .int .i64 (timeV h.mod), .string h.name, .int .u8 ((h.os : Nat) : Int), bs, fb, f1 :: f2 :: f3 :: DN, hb, hDN.ok hA, Nat.zero_le _, by rw [gzR_eq]; rfl, ?_⟩, fun G => Same.appendL G (Same.perm ?_)⟩
  · rw [List.take_zero, crcOn_nil]; rfl
  · exact picks_perm (is := [3, 3, 3, 0, 0, 0]) (A := [_, _, _, _, _, _]) (F := DN) rfl
theorem lf_out (a1 a2 a3 a4 : Frag) (Lf LZ : Frags) : ([a1, a2, a3, a4] ++ (Lf ++ LZ)).Perm (Lf ++ ([a1, a2, a3, a4] ++ LZ)) := by
  rw [← List.append_assoc, ← List.append_assoc]
  exact List.perm_append_comm.append_right LZ

theorem zRead_in3 {K : Known} {ea : Fin 5 → Addr} (hs : Sents K ea) (hc : Codes K) {src : Src K ea} {zb : Nat} {ms : Bool} {Y : List UInt8 × ZEnd} {LZ : Frags} (hZ : ZRd src zb ms Y LZ) (pb po n c : Nat) (cs : List Value) (hn : n = cs.length) (hn0 : 0 < n) (hnc : n ≤ c) (hnl : n ≤ 4611686018427387904) (a1 a2 a3 : Frag) (Lf : Frags) :
    Fn Tryd.prog K 36 #[.pointer (some ⟨zb, 0, none⟩), .slice (some ⟨pb, po, none⟩) (n) (c)] (⟨pb, po, cs⟩ :: a1 :: a2 :: a3 :: (Lf ++ LZ)) fun r L => ∃ k er LZ2, r = .tuple #[.int .i64 ((k : Nat) : Int), Er.val ea er] ∧ k ≤ n ∧ k ≤ Y.1.length ∧ L = ⟨pb, po, bytesV (Y.1.take k) ++ cs.drop k⟩ :: a1 :: a2 :: a3 :: (Lf ++ LZ2) ∧
      ((er = .none ∧ 0 < k ∧ ZRd src zb ms (Y.1.drop k, Y.2) LZ2) ∨
       (er ≠ .none ∧ k = Y.1.length ∧ kindOf er = Y.2.1 ∧ ∃ f1 f2 f3 LZ, (∃ l, src.At l f1 f2 f3) ∧ (ms = false → Y.2.1 = 1 → src.At Y.2.2 f1 f2 f3) ∧ ZOld zb LZ ∧ LZ2 = f1 :: f2 :: f3 :: LZ)) := by
  have := zRead_spec hs hc hZ pb po n c cs hn hn0 hnc hnl ([a1, a2, a3] ++ Lf)
  simpa only [List.append_assoc, List.cons_append, List.nil_append] using this
theorem sl_one {v : Value} {m : Nat} {xs : List Value} {Lf : Frags} (h : Sl 1 v m xs Lf) : one v = true := by
  rcases h.2 with ⟨rfl, _⟩ | ⟨b, o, c, cs, rfl, _⟩ <;> rfl

theorem rest_walk {K : Known} {ea : Fin 5 → Addr} (hs : Sents K ea) (hc : Codes K) (src : Src K ea) (zb : Nat) (h : Hd) (hm : h.mod < 4294967296) (ms : Bool) (rest : List UInt8) (sv : Value) (hsz : SzA K sv) (hlen : (gzR ms rest).1.length ≤ 70368744177664) (f1 f2 f3 : Frag) (bs : List Value) (xa : Option Addr) (xn : Nat) (Xf : Frag) (fb : Nat) (DN : Frags) (hA : src.At rest f1 f2 f3) (hbs : bs.length = 512) (hX : ExAt h.extra xa xn Xf) (hDN : DecNew src fb DN) : Fn Tryd.prog K 35 #[.pointer (some ⟨zb, 0, none⟩), sv] ([f1, f2, f3, ⟨zb, 0, [.string h.comment, .slice xa xn xn, .int .u64 0, .int .i64 (timeV h.mod), .string h.name, .int .u8 ((h.os : Nat) : Int), .iface src.t src.v, .iface 157 (.pointer (some ⟨fb, 0, none⟩)), .int .u32 ((0 : Nat) : Int), .int .u32 0]⟩, ⟨zb, 10, bs⟩, ⟨zb, 522, [Er.val ea .none, .bool ms]⟩, Xf] ++ DN) (fun r L => ∃ L2 J, Same L (L2 ++ J) ∧ RestEnd src zb ms h (gzR ms rest) r L2) := by
 refine Fn.intro (args := [.pointer (some ⟨zb, 0, none⟩), sv]) (RR := RetC 4 8  _) Tryd.func35 rfl rfl Tryd.ntmps35 (resC Tryd.results35 Tryd.isAgg43 Tryd.sizeOf43) ?_
 refine C.reenv (env2 := [(0, .pointer (some ⟨zb, 0, none⟩)), (1, sv)]) rfl ?_
 refine C.seq ?_
 refine C.region ?_
 refine E.loud1 (X.alloc Tryd.zeroValue43) rfl ?_; rintro _ _ ⟨b4, rfl, rfl⟩; refine E.relist (L2 := (_ :: _ :: _ :: _ :: _ :: _ :: _ :: _ :: _)) rfl ?_
 refine E.relist (L2 := [⟨b4, 0, [.int .i64 0, .string ⟨#[]⟩, .string ⟨#[]⟩, .slice none 0 0, .int .i64 0, .int .u8 0, .slice none 0 0, .int .i64 0]⟩, f1, f2, f3, ⟨zb, 0, [.string h.comment, .slice xa xn xn, .int .u64 0, .int .i64 (timeV h.mod), .string h.name, .int .u8 ((h.os : Nat) : Int), .iface src.t src.v, .iface 157 (.pointer (some ⟨fb, 0, none⟩)), .int .u32 ((0 : Nat) : Int), .int .u32 0]⟩, ⟨zb, 10, bs⟩, ⟨zb, 522, [Er.val ea .none, .bool ms]⟩, Xf] ++ DN) (by kernel_rfl) ?_
 refine E.keep [0, 1, 4] (env1 := [(0, _), (1, _), (4, _)]) rfl ?_
 refine C.seq ?_
 refine C.region ?_
 refine E.pure (S.move rfl) rfl ?_
 refine E.pure (S.nilPtr rfl) rfl ?_
 refine E.pure (S.field rfl fa76_0) rfl ?_
 refine E.still (S.loadA 4 (k := 0) rfl rfl rfl rfl Tryd.isAgg69 Tryd.sizeOf69) rfl ?_
 refine E.loud1 (OpX.pick [7] (F := (_ :: _ :: _ :: _ :: _ :: _ :: _ :: _)) rfl (X.call rfl Tryd.call28 (headerOf_spec h hm xa xn Xf hX))) rfl ?_; rintro _ _ ⟨_, ⟨ev, g, hO, rfl, rfl⟩, rfl⟩; refine E.relist (L2 := (_ :: _ :: _ :: _ :: _ :: _ :: _ :: _ :: _)) rfl ?_
 refine E.pure (S.buildV (v := .agg #[.int .i64 0, .string h.name, .string h.comment, ev, .int .i64 ((h.mod : Nat) : Int), .int .u8 ((h.os : Nat) : Int), .slice none 0 0, .int .i64 0]) [(1, .agg #[.string h.name, .string h.comment, ev, .int .i64 ((h.mod : Nat) : Int), .int .u8 ((h.os : Nat) : Int)])] rfl (fun w => by simp [Instr.build, Instr.fill, Value.cells, Tryd.zeroValue43])) rfl ?_
 refine E.loud1 (X.alloc Tryd.zeroValue43) rfl ?_; rintro _ _ ⟨b5, rfl, rfl⟩; refine E.relist (L2 := (_ :: _ :: _ :: _ :: _ :: _ :: _ :: _ :: _ :: _)) rfl ?_
 refine E.loud0 (X.storeA 0 (k := 0) rfl rfl rfl (by simp only [List.all_cons, List.all_nil, exOut_one hO]; rfl) rfl rfl Tryd.sizeOf43 rfl) ?_; rintro _ _ ⟨rfl, rfl⟩; refine E.relist (L2 := (_ :: _ :: _ :: _ :: _ :: _ :: _ :: _ :: _ :: _)) rfl ?_
 refine E.keep [0, 1, 4, 5] (env1 := [(0, _), (1, _), (4, _), (5, _)]) rfl ?_
 refine C.relist (L2 := [⟨b5, 0, [.int .i64 0, .string h.name, .string h.comment, ev, .int .i64 ((h.mod : Nat) : Int), .int .u8 ((h.os : Nat) : Int), .slice none 0 0, .int .i64 0]⟩, g, ⟨b4, 0, [.int .i64 0, .string ⟨#[]⟩, .string ⟨#[]⟩, .slice none 0 0, .int .i64 0, .int .u8 0, .slice none 0 0, .int .i64 0]⟩] ++ ([f1, f2, f3, ⟨zb, 0, [.string h.comment, .slice xa xn xn, .int .u64 0, .int .i64 (timeV h.mod), .string h.name, .int .u8 ((h.os : Nat) : Int), .iface src.t src.v, .iface 157 (.pointer (some ⟨fb, 0, none⟩)), .int .u32 ((0 : Nat) : Int), .int .u32 0]⟩, ⟨zb, 10, bs⟩, ⟨zb, 522, [Er.val ea .none, .bool ms]⟩] ++ DN)) rfl ?_
 obtain ⟨LZ0, hZ0, hSm⟩ := zat_rd (zb := zb) (h := h) (xa := xa) (xn := xn) ms hA hbs hDN
 refine C.same (hSm _) ?_
 refine C.seq ?_
 refine C.region ?_
 refine E.pure (S.assign rfl) rfl ?_
 refine E.keep [0, 1, 4, 5, 6] (env1 := [(0, _), (1, _), (4, _), (5, _), (6, _)]) rfl ?_
 refine C.block ?_
 refine C.loop (fun mm ee ll => ∃ (i : Nat), ∃ (k : Nat), ∃ (bv : Value), ∃ (Lf : Frags), ∃ (LZ : Frags), keeps ee [0, 1, 4, 5, 6] = some [(0, .pointer (some ⟨zb, 0, none⟩)), (1, sv), (4, .pointer (some ⟨b4, 0, none⟩)), (5, .pointer (some ⟨b5, 0, none⟩)), (6, .int .i64 ((i : Nat) : Int))] ∧ ll = [⟨b5, 0, [.int .i64 0, .string h.name, .string h.comment, ev, .int .i64 ((h.mod : Nat) : Int), .int .u8 ((h.os : Nat) : Int), bv, .int .i64 0]⟩, g, ⟨b4, 0, [.int .i64 0, .string ⟨#[]⟩, .string ⟨#[]⟩, .slice none 0 0, .int .i64 0, .int .u8 0, .slice none 0 0, .int .i64 0]⟩] ++ (Lf ++ LZ) ∧ (ZRd src zb ms ((gzR ms rest).1.drop k, (gzR ms rest).2) LZ) ∧ (Sl 1 bv ((gzR ms rest).1.take k).length (bytesV ((gzR ms rest).1.take k)) Lf) ∧ (i ≤ k) ∧ (k ≤ (gzR ms rest).1.length) ∧ mm = (gzR ms rest).1.length - k) (_) ⟨0, 0, .slice none 0 0, [], LZ0, rfl, rfl, hZ0, Sl.nil 1, Nat.le_refl _, Nat.zero_le _, rfl⟩ ?_
 rintro m0 _ _ ⟨i, k, bv, Lf, LZ, hk0, rfl, hZ, hSl, hik, hkX, hm0⟩
 refine C.weaken _ hk0 ?_
 refine C.seq ?_
 refine C.block ?_
 refine C.seq ?_
 refine C.region ?_
 refine E.pure (S.move rfl) rfl ?_
 refine E.pure (S.move rfl) rfl ?_
 refine E.loud1 (X.call rfl Tryd.call43 (sizeAt_spec hsz i _)) rfl ?_; rintro _ _ ⟨n, hn1, hn2, rfl, rfl⟩; refine E.relist (L2 := (_ :: _ :: _ :: _)) rfl ?_
 refine E.loud1 (X.make (l := n) (c := n) (bytes := 1) Tryd.underlying22 infoB (z := .int .u8 0) rfl rfl rfl rfl rfl rfl (Nat.le_refl _) (by omega) (by omega)) rfl ?_; rintro _ _ ⟨nb, rfl, rfl⟩; refine E.relist (L2 := (_ :: _ :: _ :: _ :: _)) rfl ?_
 refine E.pure (S.assign rfl) rfl ?_
 refine E.keep [0, 1, 4, 5, 6, 7] (env1 := [(0, _), (1, _), (4, _), (5, _), (6, _), (7, _)]) rfl ?_
 refine C.seq ?_
 refine C.region ?_
 refine E.pure (S.move rfl) rfl ?_
 refine E.pure (S.move rfl) rfl ?_
 refine E.loud1 (X.call rfl Tryd.call36 (zRead_in3 hs hc hZ nb 0 n n (List.replicate n (.int .u8 0)) (by rw [List.length_replicate]) (by omega) (Nat.le_refl _) (by omega) _ _ _ Lf)) rfl ?_; rintro _ _ ⟨j, er, LZ2, rfl, hj1, hj2, rfl, hE⟩; refine E.relist (L2 := (_ :: _ :: _ :: _ :: _)) rfl ?_
 refine E.pure (S.move rfl) rfl ?_
 refine E.pure (S.extract rfl rfl) rfl ?_
 refine E.pure (S.extract rfl rfl) rfl ?_
 refine E.pure (S.assign rfl) rfl ?_
 refine E.pure (S.assign rfl) rfl ?_
 refine E.keep [0, 1, 4, 5, 6, 7, 8, 9] (env1 := [(0, _), (1, _), (4, _), (5, _), (6, _), (7, _), (8, _), (9, _)]) rfl ?_
 have hjl : (((gzR ms rest).1.drop k).take j).length = j := by rw [List.length_take]; exact Nat.min_eq_left hj2
 have hap : (gzR ms rest).1.take (k + j) = (gzR ms rest).1.take k ++ ((gzR ms rest).1.drop k).take j := List.take_add
 have hjl2 := hjl
 refine C.seq ?_
 refine C.draw [0, 1, 0, 0, 12, 18, 63, 127] (.pure 0 28 (.pure 2 11 (.pure 3 7 (.pure 4 15 (.seg [(1, 29)] (.alt 5 (.pure 6 63 (.alt 7 .done .stop)) .stop)))))) mixed (by decide +kernel) ?_
 refine D.pure rfl (S.field rfl fa43_2) rfl ?_
 refine D.pure rfl (S.move rfl) rfl ?_
 refine D.pure rfl (S.move rfl) rfl ?_
 refine D.pure rfl (S.slH rfl rfl (by omega) Tryd.underlying22 Tryd.sizeOf5) rfl ?_
 refine D.reslot (v := .slice (some ⟨nb, 0, none⟩) (j) (n)) (slice_to (by simp [part]) rfl rfl) ?_
 refine D.seg (by decide) ?_
 refine W.still rfl (S.load 1 (k := 6) rfl rfl rfl Tryd.isAgg22) rfl ?_
 refine W.nil ?_
 refine D.one ?_
 refine O.loud1 rfl (OpX.perm (lf_out _ _ _ _ Lf LZ2) (X.appendB (ys := ((gzR ms rest).1.drop k).take j) (L := [_, _, _, _] ++ LZ2) rfl rfl hSl (by rw [hjl]) (.inr ⟨nb, 0, rfl, Reads.mem (k := 0) (List.mem_append_right _ (.head _)) (by rw [List.drop_zero]; exact List.take_left' rfl)⟩) (by rw [hjl, List.length_take]; omega))) rfl ?_
 rintro bv2 _ ⟨Lf2, hSl2, rfl⟩
 refine D.same (Same.perm (lf_out _ _ _ _ Lf2 LZ2).symm) ?_
 refine D.relist (L2 := [_, _, _, _] ++ (Lf2 ++ LZ2)) rfl ?_
 rw [← hap] at hSl2
 refine D.pure rfl (S.field rfl fa43_2) rfl ?_
 refine D.one ?_
 refine O.loud0 rfl (X.store 1 (k := 6) rfl rfl rfl (sl_one hSl2) rfl Tryd.sizeOf22) ?_; rintro _ _ ⟨rfl, rfl⟩; refine D.relist (L2 := (_ :: _ :: _ :: _ :: _)) rfl ?_
 refine D.keep [0, 1, 4, 5, 6, 7, 8, 9] (env1 := [(0, _), (1, _), (4, _), (5, _), (6, _), (7, _), (8, _), (9, _)]) rfl ?_
 refine C.seq ?_
 refine C.region ?_
 refine E.pure (S.move rfl) rfl ?_
 refine E.still (S.neErNil rfl) rfl ?_
 refine E.keep [0, 1, 4, 5, 6, 7, 8, 9, 36] (env1 := [(0, _), (1, _), (4, _), (5, _), (6, _), (7, _), (8, _), (9, _), (36, _)]) rfl ?_
 first | refine C.ifp rfl (fun h36 => ?_) (fun h36 => ?_) | refine C.ifNone rfl (fun h36 => ?_) (fun h36 => ?_) | refine C.ifSome rfl (fun h36 => ?_) (fun h36 => ?_) | refine C.ifSe rfl (fun h36 => ?_) (fun h36 => ?_) | refine C.ifNotSe rfl (fun h36 => ?_) (fun h36 => ?_) | refine C.cond rfl (fun h36 => ?_) (fun h36 => ?_)
 ·
  refine C.seq ?_
  refine C.region ?_
  refine E.pure (S.move rfl) rfl ?_
  refine E.loud1 (OpX.pick [] (F := (_ :: _ :: _ :: _ :: _)) rfl (X.call rfl Tryd.call27 (kind_spec hs _))) rfl ?_; rintro _ _ ⟨_, ⟨rfl, rfl⟩, rfl⟩; refine E.relist (L2 := (_ :: _ :: _ :: _ :: _)) rfl ?_
  refine E.pure (S.field rfl fa43_3) rfl ?_
  refine E.loud0 (X.store 1 (k := 7) rfl rfl rfl rfl rfl Tryd.sizeOf3) ?_; rintro _ _ ⟨rfl, rfl⟩; refine E.relist (L2 := (_ :: _ :: _ :: _ :: _)) rfl ?_
  refine E.keep [0, 1, 4, 5, 6, 7, 8, 9, 36] (env1 := [(0, _), (1, _), (4, _), (5, _), (6, _), (7, _), (8, _), (9, _), (36, _)]) rfl ?_
  refine C.seq ?_
  refine C.region ?_
  refine E.still (S.loadA 1 (k := 0) rfl rfl rfl rfl Tryd.isAgg43 Tryd.sizeOf43) rfl ?_
  refine E.loud0 (X.storeA 3 (k := 0) rfl rfl rfl (by show ([.int .i64 0, .string h.name, .string h.comment, ev, .int .i64 ((h.mod : Nat) : Int), .int .u8 ((h.os : Nat) : Int), bv2, .int .i64 ((kindOf er : Nat) : Int)] : List Value).all one = true; simp only [List.all_cons, List.all_nil, exOut_one hO, sl_one hSl2]; rfl) rfl rfl Tryd.sizeOf43 rfl) ?_; rintro _ _ ⟨rfl, rfl⟩; refine E.relist (L2 := (_ :: _ :: _ :: _ :: _)) rfl ?_
  refine E.keep [0, 1, 4, 5, 6, 7, 8, 9, 36] (env1 := [(0, _), (1, _), (4, _), (5, _), (6, _), (7, _), (8, _), (9, _), (36, _)]) rfl ?_
  refine C.ret ?_
  obtain ⟨hne, hjX, hkd, w1, w2, w3, LZ3, hAt, hms, hOld, rfl⟩ := hE.resolve_left (fun hh => h36 hh.1)
  have hkj : (gzR ms rest).1.take (k + j) = (gzR ms rest).1 := List.take_of_length_le (by rw [List.length_drop] at hjX; omega)
  rw [hkj] at hSl2
  refine ⟨_, ⟨_, _, 3, rfl, rfl, rfl⟩, (g :: Lf2) ++ (w1 :: w2 :: w3 :: LZ3), _, (Same.perm (picks_perm (is := [2, 0, 0, 0]) (A := [_, _, _, _]) (F := Lf2 ++ (w1 :: w2 :: w3 :: LZ3)) rfl)).trans (Same.perm ((List.perm_append_comm (l₁ := [_, _, _]) (l₂ := Lf2 ++ (w1 :: w2 :: w3 :: LZ3))).cons _)), g :: Lf2, w1, w2, w3, LZ3, ⟨ev, bv2, ?_, (exOut_rd hO).mono (fun f hf => by rw [List.mem_singleton.1 hf]; exact .head _), (sl_rd hSl2).mono fun f hf => .tail _ hf⟩, hAt, hms, hOld, rfl⟩
  rw [unV, ← hkd]; rfl
 ·
  obtain ⟨_, hj0, hZ2⟩ := hE.resolve_right (fun hh => hh.1 h36)
  rw [List.drop_drop] at hZ2
  refine C.shed [0] (A := [_]) (F := _ :: _ :: _ :: (Lf2 ++ LZ2)) rfl ?_
  refine C.relist (L2 := [_, _, _] ++ (Lf2 ++ LZ2)) rfl ?_
  refine C.skip ?_
  refine C.region ?_
  refine E.pure (S.move rfl) rfl ?_
  refine E.pure (S.add (b := ((1 : Nat) : Int)) rfl rfl (N.add64 (by omega))) rfl ?_
  refine E.pure (S.assign rfl) rfl ?_
  refine E.keep [0, 1, 4, 5, 6, 7, 8, 9, 36] (env1 := [(0, _), (1, _), (4, _), (5, _), (6, _), (7, _), (8, _), (9, _), (36, _)]) rfl ?_
  refine ⟨_, ?_, i + 1, k + j, bv2, Lf2, LZ2, rfl, rfl, hZ2, hSl2, by omega, by rw [List.length_drop] at hj2; omega, rfl⟩; rw [List.length_drop] at hj2; omega
end Go.Eng
namespace Go.Eng
open Go Go.Proofs
set_option maxRecDepth 100000

set_option maxHeartbeats 1000000
/-- An argument of bytes. -/
def BA (K : Known) (v : Value) (l : List UInt8) : Prop := (v = .slice none 0 0 ∧ l = []) ∨ (∃ a c, v = .slice (some a) 0 c ∧ l = []) ∨ ∃ pb po cap, v = .slice (some ⟨pb, po, none⟩) l.length cap ∧ l.length ≤ cap ∧ KB K pb po l
theorem BA.sl {K : Known} {v : Value} {l : List UInt8} (h : BA K v l) : ∃ a c, v = .slice a l.length c := by
  rcases h with ⟨rfl, rfl⟩ | ⟨a, c, rfl, rfl⟩ | ⟨pb, po, cap, rfl, _⟩
  · exact ⟨_, _, rfl⟩
  · exact ⟨_, _, rfl⟩
  · exact ⟨_, _, rfl⟩
def CloneG (data : List UInt8) (a : Option Addr) (c : Nat) (L : Frags) : Prop := data.length ≤ c ∧ ((data = [] ∧ L = []) ∨ ∃ db o cs, a = some ⟨db, o, none⟩ ∧ L = [⟨db, o, bytesV data ++ cs⟩])
theorem clone_in {K : Known} {v : Value} {data : List UInt8} (hv : BA K v data) (hl : data.length ≤ 65536) (G : Frags) : Fn Tryd.prog K 24 #[v] G fun r L => ∃ a c GL, r = .slice a data.length c ∧ CloneG data a c GL ∧ L = G ++ GL := by
  have key : Fn Tryd.prog K 24 #[v] [] fun r L => ∃ a c, r = .slice a data.length c ∧ CloneG data a c L := by
    have ow : ∀ {r : Value} {L : Frags}, (∃ g, Own data r g ∧ L = [g]) → ∃ a c, r = .slice a data.length c ∧ CloneG data a c L := by
      rintro r L ⟨g, ⟨b, o, c, cs, rfl, rfl, h⟩, rfl⟩
      exact ⟨_, _, rfl, h, .inr ⟨b, o, cs, rfl, rfl⟩⟩
    rcases hv with ⟨rfl, rfl⟩ | ⟨a, c, rfl, rfl⟩ | ⟨pb, po, cap, rfl, hc, hp⟩
    · exact Fn.mono clone_nil fun r L h => ⟨none, 0, h.1, Nat.le_refl _, .inl ⟨rfl, h.2⟩⟩
    · exact Fn.mono (clone_empty a c) fun r L h => ow h
    · exact Fn.mono (clone_spec (L := []) pb po cap data hp.reads (by omega)) fun r L h => ow h
  refine Fn.sameR (Fn.frame (L := []) (F := G) key) ?_
  rintro r L ⟨L1, ⟨a, c, rfl, h⟩, rfl⟩
  exact ⟨G ++ L1, Same.perm List.perm_append_comm, a, c, L1, rfl, h, rfl⟩
theorem src_at {K : Known} {ea : Fin 5 → Addr} (hs : Sents K ea) (rb : Nat) {a : Option Addr} {c : Nat} {data : List UInt8} {GL : Frags} (h : CloneG data a c GL) (hl : data.length ≤ 65536) :
    ∃ x1 x2 x3, (readerSrc K ea hs rb a c data).At data x1 x2 x3 ∧ ∀ G, Same (⟨rb, 0, [.slice a data.length c, .int .i64 0, .int .i64 (-1)]⟩ :: (G ++ GL)) ([x1, x2, x3] ++ G) := by
  obtain ⟨hc, ⟨rfl, rfl⟩ | ⟨db, o, cs, rfl, rfl⟩⟩ := h
  · refine ⟨⟨rb, 0, [.slice a 0 c, .int .i64 ((0 : Nat) : Int), .int .i64 (-1)]⟩, ⟨rb, 0, []⟩, ⟨rb, 0, []⟩, ⟨0, rfl, rfl, Nat.zero_le _, by decide, hc, .inl rfl, rfl⟩, fun G => ?_⟩
    rw [List.append_nil]
    exact (Same.empty rb 0 0 _ G).trans ((Same.empty rb 0 0 _ _))
  · refine ⟨⟨rb, 0, [.slice (some ⟨db, o, none⟩) data.length c, .int .i64 ((0 : Nat) : Int), .int .i64 (-1)]⟩, ⟨db, o, bytesV data ++ cs⟩, ⟨rb, 0, []⟩, ⟨0, rfl, rfl, Nat.zero_le _, by omega, hc, .inr ⟨db, o, cs, rfl, rfl⟩, rfl⟩, fun G => ?_⟩
    refine (Same.empty rb 0 0 _ _).trans (Same.perm (List.Perm.cons _ ?_))
    refine (List.Perm.cons _ List.perm_append_comm).trans ?_
    exact List.Perm.swap _ _ _
/-- What Unpack makes of bytes. -/
def unpOf (data : List UInt8) : UnpR := if (readHead data).1 ≠ .none then (kindOf (readHead data).1, noHd, [], 0) else (0, (readHead data).2.2, (gzR true (readHead data).2.1).1, (gzR true (readHead data).2.1).2.1)
theorem zNewReader_in {K : Known} {ea : Fin 5 → Addr} (hs : Sents K ea) (src : Src K ea) (l : List UInt8) (x1 x2 x3 : Frag) (hA : src.At l x1 x2 x3) (G : Frags) :
    Fn Tryd.prog K 25 #[.iface src.t src.v] ([x1, x2, x3] ++ G) (fun r L => ((readHead l).1 ≠ .none ∧ r = .tuple #[.pointer none, Er.val ea (readHead l).1] ∧ ∃ f1 f2 f3, src.At (readHead l).2.1 f1 f2 f3 ∧ L = G ++ [f1, f2, f3]) ∨
      ((readHead l).1 = .none ∧ ∃ zb LZ, r = .tuple #[.pointer (some ⟨zb, 0, none⟩), Er.val ea (readHead l).1] ∧ ZAt src zb (readHead l).2.2 true (readHead l).2.1 LZ ∧ L = G ++ LZ)) := by
  refine Fn.sameR (Fn.frame (F := G) (zNewReader_spec hs src l x1 x2 x3 hA)) ?_
  rintro v L' ⟨L1, ⟨hne, rfl, f1, f2, f3, hF, rfl⟩ | ⟨hno, zb, rfl, hz⟩, rfl⟩
  · exact ⟨G ++ [f1, f2, f3], Same.perm List.perm_append_comm, .inl ⟨hne, rfl, f1, f2, f3, hF, rfl⟩⟩
  · exact ⟨G ++ L1, Same.perm List.perm_append_comm, .inr ⟨hno, zb, L1, rfl, hz, rfl⟩⟩
theorem rest_in {K : Known} {ea : Fin 5 → Addr} (hs : Sents K ea) (hc : Codes K) {src : Src K ea} {zb : Nat} {h : Hd} (hm : h.mod < 4294967296) {ms : Bool} {rest : List UInt8} {sv : Value} (hsz : SzA K sv) (hlen : (gzR ms rest).1.length ≤ 70368744177664) {LZ : Frags} (hZ : ZAt src zb h ms rest LZ) (G : Frags) :
    Fn Tryd.prog K 35 #[.pointer (some ⟨zb, 0, none⟩), sv] (G ++ LZ) fun r L => ∃ a1 k1 a2 k2 GL T, r = unV (0, h, (gzR ms rest).1, (gzR ms rest).2.1) (.slice a1 (h.extra.getD []).length k1) (.slice a2 (gzR ms rest).1.length k2) ∧ UnpV (0, h, (gzR ms rest).1, (gzR ms rest).2.1) r GL ∧
      (∃ f1 f2 f3 LZ2, (∃ l, src.At l f1 f2 f3) ∧ (ms = false → (gzR ms rest).2.1 = 1 → src.At (gzR ms rest).2.2 f1 f2 f3) ∧ ZOld zb LZ2 ∧ T = f1 :: f2 :: f3 :: LZ2) ∧ L = G ++ (GL ++ T) := by
  obtain ⟨f1, f2, f3, bs, xa, xn, Xf, fb, DN, hA, hb, hX, hDN, rfl⟩ := hZ
  refine Fn.lose (Fn.perm List.perm_append_comm (Fn.frame (F := G) (rest_walk hs hc src zb h hm ms rest sv hsz hlen f1 f2 f3 bs xa xn Xf fb DN hA hb hX hDN))) ?_
  rintro r L ⟨L1, ⟨L2, J, hS, GL, w1, w2, w3, LZ2, hU, h1, h2, h3, rfl⟩, rfl⟩
  have hU2 := hU
  obtain ⟨ev, bv, rfl, ⟨a1, k1, rfl, _⟩, ⟨a2, k2, rfl, _⟩⟩ := hU
  refine ⟨G ++ (GL ++ (w1 :: w2 :: w3 :: LZ2)), J, ?_, a1, k1, a2, k2, GL, _, rfl, hU2, ⟨w1, w2, w3, LZ2, h1, h2, h3, rfl⟩, rfl⟩
  rw [List.append_assoc]
  exact (Same.perm List.perm_append_comm).trans (Same.appendL G hS)

theorem unpack_walk {K : Known} {ea : Fin 5 → Addr} (hs : Sents K ea) (hc : Codes K) (v : Value) (data : List UInt8) (hv : BA K v data) (hl : data.length ≤ 65536) (sv : Value) (hsz : SzA K sv) : Fn Tryd.prog K 17 #[v, sv] ([]) (fun r L => ∃ L2 J, Same L (L2 ++ J) ∧ UnpV (unpOf data) r L2) := by
 refine Fn.intro (args := [v, sv]) (RR := RetC 4 8  _) Tryd.func17 rfl rfl Tryd.ntmps17 (resC Tryd.results17 Tryd.isAgg43 Tryd.sizeOf43) ?_
 refine C.reenv (env2 := [(0, v), (1, sv)]) rfl ?_
 refine C.seq ?_
 refine C.region ?_
 refine E.loud1 (X.alloc Tryd.zeroValue43) rfl ?_; rintro _ _ ⟨b4, rfl, rfl⟩; refine E.relist (L2 := [_]) rfl ?_
 refine E.relist (L2 := [⟨b4, 0, [.int .i64 0, .string ⟨#[]⟩, .string ⟨#[]⟩, .slice none 0 0, .int .i64 0, .int .u8 0, .slice none 0 0, .int .i64 0]⟩]) (by kernel_rfl) ?_
 refine E.keep [0, 1, 4] (env1 := [(0, _), (1, _), (4, _)]) rfl ?_
 refine C.seq ?_
 refine C.region ?_
 refine E.pure (S.move rfl) rfl ?_
 refine E.loud1 (X.call rfl Tryd.call24 (clone_in hv hl [_])) rfl ?_; rintro _ _ ⟨a, c, GL, rfl, hCl, rfl⟩; refine E.relist (L2 := (_ :: _)) rfl ?_
 refine E.loud1 (OpX.pick [] (F := (_ :: _)) rfl (X.call rfl Tryd.call23 (newReader_spec a data.length c))) rfl ?_; rintro _ _ ⟨_, ⟨rb, rfl, rfl⟩, rfl⟩; refine E.relist (L2 := (_ :: _ :: _)) rfl ?_
 obtain ⟨x1, x2, x3, hA, hSm⟩ := src_at hs rb hCl hl
 refine E.same (hSm [⟨b4, 0, [.int .i64 0, .string ⟨#[]⟩, .string ⟨#[]⟩, .slice none 0 0, .int .i64 0, .int .u8 0, .slice none 0 0, .int .i64 0]⟩]) ?_
 refine E.relist (L2 := [_, _, _, _]) rfl ?_
 refine E.pure (S.mkIface rfl conc54) rfl ?_
 refine E.loud1 (X.call rfl Tryd.call25 (zNewReader_in hs (readerSrc K ea hs rb a c data) data x1 x2 x3 hA [_])) rfl ?_
 rintro _ _ (⟨hne, rfl, f1, f2, f3, hF, rfl⟩ | ⟨hno, zb, LZ, rfl, hZ, rfl⟩)
 ·
  refine E.relist (L2 := [_, _, _, _]) rfl ?_
  refine E.pure (S.move rfl) rfl ?_
  refine E.pure (S.extract rfl rfl) rfl ?_
  refine E.pure (S.extract rfl rfl) rfl ?_
  refine E.pure (S.assign rfl) rfl ?_
  refine E.pure (S.assign rfl) rfl ?_
  refine E.keep [1, 4, 5, 6] (env1 := [(1, _), (4, _), (5, _), (6, _)]) rfl ?_
  refine C.seq ?_
  refine C.seq ?_
  refine C.region ?_
  refine E.pure (S.move rfl) rfl ?_
  refine E.still (S.neErNil rfl) rfl ?_
  refine E.keep [1, 4, 5, 6, 16] (env1 := [(1, _), (4, _), (5, _), (6, _), (16, _)]) rfl ?_
  first | refine C.ifp rfl (fun h16 => ?_) (fun h16 => ?_) | refine C.ifNone rfl (fun h16 => ?_) (fun h16 => ?_) | refine C.ifSome rfl (fun h16 => ?_) (fun h16 => ?_) | refine C.ifSe rfl (fun h16 => ?_) (fun h16 => ?_) | refine C.ifNotSe rfl (fun h16 => ?_) (fun h16 => ?_) | refine C.cond rfl (fun h16 => ?_) (fun h16 => ?_)
  ·
   refine C.seq ?_
   refine C.region ?_
   refine E.pure (S.move rfl) rfl ?_
   refine E.loud1 (OpX.pick [] (F := [_, _, _, _]) rfl (X.call rfl Tryd.call27 (kind_spec hs _))) rfl ?_; rintro _ _ ⟨_, ⟨rfl, rfl⟩, rfl⟩; refine E.relist (L2 := [_, _, _, _]) rfl ?_
   refine E.pure (S.buildV (v := .agg #[.int .i64 ((kindOf (readHead data).1 : Nat) : Int), .string ⟨#[]⟩, .string ⟨#[]⟩, .slice none 0 0, .int .i64 0, .int .u8 0, .slice none 0 0, .int .i64 0]) [(0, .int .i64 ((kindOf (readHead data).1 : Nat) : Int))] rfl (fun w => by simp [Instr.build, Instr.fill, Value.cells, Tryd.zeroValue43])) rfl ?_
   refine E.loud0 (X.storeA 0 (k := 0) rfl rfl rfl rfl rfl rfl Tryd.sizeOf43 rfl) ?_; rintro _ _ ⟨rfl, rfl⟩; refine E.relist (L2 := [_, _, _, _]) rfl ?_
   refine E.keep [1, 4, 5, 6, 16] (env1 := [(1, _), (4, _), (5, _), (6, _), (16, _)]) rfl ?_
   refine C.ret ?_
   refine ⟨_, ⟨_, _, 0, rfl, rfl, rfl⟩, [], [_, _, _, _], Same.refl _, ?_⟩
   rw [unpOf, if_pos hne]
   exact ⟨.slice none 0 0, .slice none 0 0, rfl, RdV.nil, RdV.nil⟩
  ·
   exact absurd h16 hne
 ·
  refine E.relist (L2 := (_ :: _)) rfl ?_
  refine E.pure (S.move rfl) rfl ?_
  refine E.pure (S.extract rfl rfl) rfl ?_
  refine E.pure (S.extract rfl rfl) rfl ?_
  refine E.pure (S.assign rfl) rfl ?_
  refine E.pure (S.assign rfl) rfl ?_
  refine E.keep [1, 4, 5, 6] (env1 := [(1, _), (4, _), (5, _), (6, _)]) rfl ?_
  refine C.seq ?_
  refine C.seq ?_
  refine C.region ?_
  refine E.pure (S.move rfl) rfl ?_
  refine E.still (S.neErNil rfl) rfl ?_
  refine E.keep [1, 4, 5, 6, 16] (env1 := [(1, _), (4, _), (5, _), (6, _), (16, _)]) rfl ?_
  first | refine C.ifp rfl (fun h16 => ?_) (fun h16 => ?_) | refine C.ifNone rfl (fun h16 => ?_) (fun h16 => ?_) | refine C.ifSome rfl (fun h16 => ?_) (fun h16 => ?_) | refine C.ifSe rfl (fun h16 => ?_) (fun h16 => ?_) | refine C.ifNotSe rfl (fun h16 => ?_) (fun h16 => ?_) | refine C.cond rfl (fun h16 => ?_) (fun h16 => ?_)
  ·
   exact absurd hno h16
  ·
   refine C.skip ?_
   refine C.seq ?_
   refine C.region ?_
   refine E.pure (S.move rfl) rfl ?_
   refine E.pure (S.move rfl) rfl ?_
   refine E.loud1 (X.call rfl Tryd.call35 (rest_in hs hc (readHead_mod _) hsz (Nat.le_trans (gzR_len _ _ (by have := readHead_le data; omega)) (by decide)) hZ [_])) rfl ?_; rintro _ _ ⟨a1, k1, a2, k2, GL2, TT, rfl, hU, hT, rfl⟩; refine E.relist (L2 := (_ :: _)) rfl ?_
   refine E.loud0 (X.storeA 0 (k := 0) rfl rfl rfl rfl rfl rfl Tryd.sizeOf43 rfl) ?_; rintro _ _ ⟨rfl, rfl⟩; refine E.relist (L2 := (_ :: _)) rfl ?_
   refine E.keep [4, 5, 6, 16] (env1 := [(4, _), (5, _), (6, _), (16, _)]) rfl ?_
   refine C.ret ?_
   refine ⟨_, ⟨_, _, 0, rfl, rfl, rfl⟩, GL2, _ :: TT, Same.perm (List.perm_middle (l₁ := GL2) (l₂ := TT)).symm, ?_⟩
   rw [unpOf, if_neg (fun hh => hh hno)]
   exact hU
theorem unpack_spec {K : Known} {ea : Fin 5 → Addr} (hs : Sents K ea) (hc : Codes K) {v : Value} {data : List UInt8} (hv : BA K v data) (hl : data.length ≤ 65536) {sv : Value} (hsz : SzA K sv) (G : Frags) :
    Fn Tryd.prog K 17 #[v, sv] G fun r L => ∃ GL, UnpV (unpOf data) r GL ∧ L = G ++ GL := by
  refine Fn.lose (Fn.frame (L := []) (F := G) (unpack_walk hs hc v data hv hl sv hsz)) ?_
  rintro r L ⟨L1, ⟨L2, J, hS, hU⟩, rfl⟩
  refine ⟨G ++ L2, J, ?_, L2, hU, rfl⟩
  have := Same.appendL G hS
  rw [← List.append_assoc] at this
  exact (Same.perm List.perm_append_comm).trans this

end Go.Eng
