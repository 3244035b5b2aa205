/-
  Texts of this proof, merged: WDic, Dec, WDict, WFl3, Run, WFl4, WFl5, WFl6, WFl7, Dyn.
-/
import Derived.Test.YtbjbmpcgiokdaaaDoorMr2
import Derived.Test.YtbjbmpcgiokdaaaDoorMr3
import Derived.Test.YtbjbmpcgiokdaaaDoorMr1
set_option linter.unusedVariables false
set_option linter.unusedSimpArgs false
namespace Go.Eng
open Go Go.Proofs
set_option maxRecDepth 100000

/-- copy within one run of bytes. -/
theorem X.copyW {K : Known} {n : Nat} {env : Env} {L : Frags} {ty : TypeId} (i : Nat) {x y : Operand} {hb dst src dl dc sl sc : Nat} {h : List UInt8}
    (hL : L[i]? = some ⟨hb, 0, bytesV h⟩) (hx : ev? env x = some (.slice (some ⟨hb, dst, none⟩) dl dc)) (hy : ev? env y = some (.slice (some ⟨hb, src, none⟩) sl sc)) (hs : src + sl ≤ h.length) (hd : dst + dl ≤ h.length) :
    OpX Tryd.prog K n (.call { callee := .builtin .copy, args := #[x, y], argTypes := #[22, 22] }) ty env L fun v L' =>
      v = .int .i64 ((Nat.min sl dl : Nat) : Int) ∧ L' = L.set i ⟨hb, 0, bytesV (h.take dst ++ (h.drop src).take (Nat.min sl dl) ++ h.drop (dst + Nat.min sl dl))⟩ := by
  have h1 : Nat.min sl dl ≤ sl := Nat.min_le_left _ _
  have h2 : Nat.min sl dl ≤ dl := Nat.min_le_right _ _
  have hvl : (bytesV ((h.drop src).take (Nat.min sl dl))).length = Nat.min sl dl := by rw [bytesV_length, List.length_take, List.length_drop]; omega
  have hc := X.copy (P := Tryd.prog) (H0 := K) (n := n) (ty := ty) (xT := Tryd.t5) i (s := 1) (o := 0) (k := dst) (t := 22) (t2 := 22) (vs := bytesV ((h.drop src).take (Nat.min sl dl))) Tryd.underlying22 Tryd.sizeOf5 hL (by rw [Nat.zero_add]; exact hx) hy (by rw [hvl, Nat.mul_one])
    (.inr ⟨hb, 0 + src, by rw [Nat.zero_add], Reads.frag hL (by rw [hvl, ← bytesV_drop, ← bytesV_take])⟩) (fun h => by cases h) (one_bytesV _) (by rw [hvl, bytesV_length]; omega)
  rw [hvl, ← bytesV_take, ← bytesV_drop, ← bytesV_append, ← bytesV_append] at hc
  exact hc
theorem bytesV_set (h : List UInt8) (i c : Nat) (hc : c < 256) (hi : i < h.length) : (bytesV h).set (i * 1) (.int .u8 ((c : Nat) : Int)) = bytesV (h.take i ++ [UInt8.ofNat c] ++ h.drop (i + 1)) := by
  have e : (UInt8.ofNat c).toNat = c := by rw [UInt8.toNat_ofNat']; exact Nat.mod_eq_of_lt hc
  have e1 : h.take i ++ [UInt8.ofNat c] ++ h.drop (i + 1) = h.set i (UInt8.ofNat c) := by rw [List.set_eq_take_append_cons_drop, if_pos hi]; simp
  rw [e1, Nat.mul_one, bytesV, bytesV, List.map_set, e]

theorem writeByte_spec {K : Known} (b o hb wr rd : Nat) (full : Bool) (h : List UInt8) (hl : h.length = 32768) (hw : wr < 32768) (c : Nat) (hc : c < 256) : Fn Tryd.prog K 82 #[.pointer (some ⟨b, o, none⟩), .int .u8 ((c : Nat) : Int)] ([⟨b, o, [.slice (some ⟨hb, 0, none⟩) 32768 32768, .int .i64 (((wr) : Nat) : Int), .int .i64 (((rd) : Nat) : Int), .bool full]⟩, ⟨hb, 0, bytesV (h)⟩]) (fun v L => v = .tuple #[] ∧ L = [⟨b, o, [.slice (some ⟨hb, 0, none⟩) 32768 32768, .int .i64 (((wr + 1) : Nat) : Int), .int .i64 (((rd) : Nat) : Int), .bool full]⟩, ⟨hb, 0, bytesV (h.take wr ++ [UInt8.ofNat c] ++ h.drop (wr + 1))⟩]) := by
 refine Fn.intro (args := [.pointer (some ⟨b, o, none⟩), .int .u8 ((c : Nat) : Int)]) (RR := Ret0 _) Tryd.func82 rfl rfl Tryd.ntmps82 (res0 Tryd.results82) ?_
 refine C.reenv (env2 := [(0, .pointer (some ⟨b, o, none⟩)), (1, .int .u8 ((c : Nat) : Int))]) rfl ?_
 refine C.seq ?_
 refine C.draw [0, 1, 2, 4, 0, 16, 32, 64, 0, 511, 1023] (.pure 0 496 (.pure 1 497 (.pure 2 499 (.pure 4 271 (.pure 5 287 (.pure 6 319 (.pure 8 255 (.seg [(3, 503), (7, 383), (9, 511)] (.alt 10 .done .stop))))))))) mixed (by decide +kernel) ?_
 refine D.pure rfl (S.move rfl) rfl ?_
 refine D.pure rfl (S.nilPtr rfl) rfl ?_
 refine D.pure rfl (S.field rfl fa148_0) rfl ?_
 refine D.pure rfl (S.move rfl) rfl ?_
 refine D.pure rfl (S.nilPtr rfl) rfl ?_
 refine D.pure rfl (S.field rfl fa148_1) rfl ?_
 refine D.pure rfl (S.move rfl) rfl ?_
 refine D.seg (by decide) ?_
 refine W.still rfl (S.load 0 (k := 0) rfl rfl rfl Tryd.isAgg22) rfl ?_
 refine W.still rfl (S.load 0 (k := 1) rfl rfl rfl Tryd.isAgg3) rfl ?_
 refine W.pure rfl (S.ixSl rfl rfl (by omega) Tryd.underlying22 Tryd.sizeOf5) rfl ?_
 refine W.nil ?_
 refine D.one ?_
 refine O.loud0 rfl (X.store 1 (k := wr * 1) rfl rfl rfl rfl (by rw [Nat.blt_eq, bytesV_length, hl]; omega) Tryd.sizeOf5) ?_
 rintro _ _ ⟨rfl, rfl⟩
 refine D.relist (L2 := [⟨b, o, [.slice (some ⟨hb, 0, none⟩) 32768 32768, .int .i64 (((wr) : Nat) : Int), .int .i64 (((rd) : Nat) : Int), .bool full]⟩, ⟨hb, 0, bytesV (h.take wr ++ [UInt8.ofNat c] ++ h.drop (wr + 1))⟩]) (congrArg (fun x => ([⟨b, o, [.slice (some ⟨hb, 0, none⟩) 32768 32768, .int .i64 (((wr) : Nat) : Int), .int .i64 (((rd) : Nat) : Int), .bool full]⟩, ⟨hb, 0, x⟩] : Frags)) (bytesV_set h wr c hc (by omega))) ?_
 refine D.keep [0] (env1 := [(0, _)]) rfl ?_
 refine C.region ?_
 refine E.pure (S.move rfl) rfl ?_
 refine E.pure (S.nilPtr rfl) rfl ?_
 refine E.pure (S.field rfl fa148_1) rfl ?_
 refine E.still (S.load 0 (k := 1) rfl rfl rfl Tryd.isAgg3) rfl ?_
 refine E.pure (S.add (b := ((1 : Nat) : Int)) rfl rfl (N.add64 (by omega))) rfl ?_
 refine E.pure (S.nilPtr rfl) rfl ?_
 refine E.pure (S.field rfl fa148_1) rfl ?_
 refine E.loud0 (X.store 0 (k := 1) rfl rfl rfl rfl rfl Tryd.sizeOf3) ?_; rintro _ _ ⟨rfl, rfl⟩; refine E.relist (L2 := [_, _]) rfl ?_
 refine E.keep [0] (env1 := [(0, _)]) rfl ?_
 exact ⟨rfl, rfl⟩
theorem writeSlice_spec {K : Known} (b o hb wr rd : Nat) (full : Bool) (hw : wr < 32768) : Fn Tryd.prog K 89 #[.pointer (some ⟨b, o, none⟩)] ([⟨b, o, [.slice (some ⟨hb, 0, none⟩) 32768 32768, .int .i64 (((wr) : Nat) : Int), .int .i64 (((rd) : Nat) : Int), .bool full]⟩]) (fun v L => v = .slice (some ⟨hb, wr, none⟩) (32768 - wr) (32768 - wr) ∧ L = [⟨b, o, [.slice (some ⟨hb, 0, none⟩) 32768 32768, .int .i64 (((wr) : Nat) : Int), .int .i64 (((rd) : Nat) : Int), .bool full]⟩]) := by
 refine Fn.intro (args := [.pointer (some ⟨b, o, none⟩)]) (RR := Ret1 2 _) Tryd.func89 rfl rfl Tryd.ntmps89 (res1 Tryd.results89) ?_
 refine C.reenv (env2 := [(0, .pointer (some ⟨b, o, none⟩))]) rfl ?_
 refine C.seq ?_
 refine C.region ?_
 refine E.pure (S.assign rfl) rfl ?_
 refine E.keep [0, 2] (env1 := [(0, _), (2, _)]) rfl ?_
 refine C.seq ?_
 refine C.draw [0, 1, 2, 4, 0, 16, 32, 64, 136, 511] (.pure 0 240 (.pure 1 241 (.pure 2 243 (.pure 4 15 (.pure 5 31 (.pure 6 63 (.seg [(3, 247), (7, 127), (8, 255), (9, 511)] .done))))))) mixed (by decide +kernel) ?_
 refine D.pure rfl (S.move rfl) rfl ?_
 refine D.pure rfl (S.nilPtr rfl) rfl ?_
 refine D.pure rfl (S.field rfl fa148_0) rfl ?_
 refine D.pure rfl (S.move rfl) rfl ?_
 refine D.pure rfl (S.nilPtr rfl) rfl ?_
 refine D.pure rfl (S.field rfl fa148_1) rfl ?_
 refine D.seg (by decide) ?_
 refine W.still rfl (S.load 0 (k := 0) rfl rfl rfl Tryd.isAgg22) rfl ?_
 refine W.still rfl (S.load 0 (k := 1) rfl rfl rfl Tryd.isAgg3) rfl ?_
 refine W.pure rfl (S.slL rfl rfl (by omega) Tryd.underlying22 Tryd.sizeOf5) rfl ?_
 refine W.reslot (v := .slice (some ⟨hb, wr, none⟩) (32768 - wr) (32768 - wr)) (slice_to (by rw [part, if_neg (by omega)]; omega) rfl rfl) ?_
 refine W.pure rfl (S.assign rfl) rfl ?_
 refine W.nil ?_
 refine D.keep [2] (env1 := [(2, _)]) rfl ?_
 refine C.ret ?_
 exact ⟨_, rfl, rfl, rfl⟩
theorem writeMark_spec {K : Known} (b o hb wr rd : Nat) (full : Bool) (hw : wr ≤ 32768) (k : Nat) (hk : wr + k ≤ 32768) : Fn Tryd.prog K 90 #[.pointer (some ⟨b, o, none⟩), .int .i64 ((k : Nat) : Int)] ([⟨b, o, [.slice (some ⟨hb, 0, none⟩) 32768 32768, .int .i64 (((wr) : Nat) : Int), .int .i64 (((rd) : Nat) : Int), .bool full]⟩]) (fun v L => v = .tuple #[] ∧ L = [⟨b, o, [.slice (some ⟨hb, 0, none⟩) 32768 32768, .int .i64 (((wr + k) : Nat) : Int), .int .i64 (((rd) : Nat) : Int), .bool full]⟩]) := by
 refine Fn.intro (args := [.pointer (some ⟨b, o, none⟩), .int .i64 ((k : Nat) : Int)]) (RR := Ret0 _) Tryd.func90 rfl rfl Tryd.ntmps90 (res0 Tryd.results90) ?_
 refine C.reenv (env2 := [(0, .pointer (some ⟨b, o, none⟩)), (1, .int .i64 ((k : Nat) : Int))]) rfl ?_
 refine C.region ?_
 refine E.pure (S.move rfl) rfl ?_
 refine E.pure (S.nilPtr rfl) rfl ?_
 refine E.pure (S.field rfl fa148_1) rfl ?_
 refine E.still (S.load 0 (k := 1) rfl rfl rfl Tryd.isAgg3) rfl ?_
 refine E.pure (S.move rfl) rfl ?_
 refine E.pure (S.add rfl rfl (N.add64 (by omega))) rfl ?_
 refine E.pure (S.nilPtr rfl) rfl ?_
 refine E.pure (S.field rfl fa148_1) rfl ?_
 refine E.loud0 (X.store 0 (k := 1) rfl rfl rfl rfl rfl Tryd.sizeOf3) ?_; rintro _ _ ⟨rfl, rfl⟩; refine E.relist (L2 := [_]) rfl ?_
 refine E.keep [] (env1 := []) rfl ?_
 exact ⟨rfl, rfl⟩
/-- What a flush gives: the bytes of the window from rd to wr. -/
def FlushEnd (b o hb wr rd : Nat) (full : Bool) (v : Value) (A : Frag) : Prop :=
  (∃ a c, v = .slice (some a) (wr - rd) c ∧ (rd < wr → a = ⟨hb, rd, none⟩ ∧ wr - rd ≤ c)) ∧ wr - rd ≤ 32768 ∧ ((wr < 32768 ∧ A = ⟨b, o, [.slice (some ⟨hb, 0, none⟩) 32768 32768, .int .i64 (((wr) : Nat) : Int), .int .i64 (((wr) : Nat) : Int), .bool full]⟩) ∨ (wr = 32768 ∧ A = ⟨b, o, [.slice (some ⟨hb, 0, none⟩) 32768 32768, .int .i64 (((0) : Nat) : Int), .int .i64 (((0) : Nat) : Int), .bool true]⟩))
theorem flush_sl {hb wr rd : Nat} (h1 : rd ≤ wr) (h2 : wr ≤ 32768) : ∃ a c, Value.slice (some ⟨hb, part 0 rd 32768 1, none⟩) (wr - rd) (32768 - rd) = .slice (some a) (wr - rd) c ∧ (rd < wr → a = ⟨hb, rd, none⟩ ∧ wr - rd ≤ c) :=
  ⟨_, _, rfl, fun h => ⟨by rw [part, if_neg (by omega)]; simp, by omega⟩⟩

theorem readFlush_spec {K : Known} (b o hb wr rd : Nat) (full : Bool) (h1 : rd ≤ wr) (h2 : wr ≤ 32768) : Fn Tryd.prog K 77 #[.pointer (some ⟨b, o, none⟩)] ([⟨b, o, [.slice (some ⟨hb, 0, none⟩) 32768 32768, .int .i64 (((wr) : Nat) : Int), .int .i64 (((rd) : Nat) : Int), .bool full]⟩]) (fun v L => ∃ A, FlushEnd b o hb wr rd full v A ∧ L = [A]) := by
 refine Fn.intro (args := [.pointer (some ⟨b, o, none⟩)]) (RR := Ret1 2 _) Tryd.func77 rfl rfl Tryd.ntmps77 (res1 Tryd.results77) ?_
 refine C.reenv (env2 := [(0, .pointer (some ⟨b, o, none⟩))]) rfl ?_
 refine C.seq ?_
 refine C.region ?_
 refine E.pure (S.assign rfl) rfl ?_
 refine E.keep [0, 2] (env1 := [(0, _), (2, _)]) rfl ?_
 refine C.seq ?_
 refine C.draw [0, 1, 2, 4, 0, 16, 32, 64, 0, 256, 512, 1024, 2184, 8191] (.pure 0 4080 (.pure 1 4081 (.pure 2 4083 (.pure 4 3855 (.pure 5 3871 (.pure 6 3903 (.pure 8 255 (.pure 9 511 (.pure 10 1023 (.seg [(3, 4087), (7, 3967), (11, 2047), (12, 4095), (13, 8191)] .done)))))))))) mixed (by decide +kernel) ?_
 refine D.pure rfl (S.move rfl) rfl ?_
 refine D.pure rfl (S.nilPtr rfl) rfl ?_
 refine D.pure rfl (S.field rfl fa148_0) rfl ?_
 refine D.pure rfl (S.move rfl) rfl ?_
 refine D.pure rfl (S.nilPtr rfl) rfl ?_
 refine D.pure rfl (S.field rfl fa148_2) rfl ?_
 refine D.pure rfl (S.move rfl) rfl ?_
 refine D.pure rfl (S.nilPtr rfl) rfl ?_
 refine D.pure rfl (S.field rfl fa148_1) rfl ?_
 refine D.seg (by decide) ?_
 refine W.still rfl (S.load 0 (k := 0) rfl rfl rfl Tryd.isAgg22) rfl ?_
 refine W.still rfl (S.load 0 (k := 2) rfl rfl rfl Tryd.isAgg3) rfl ?_
 refine W.still rfl (S.load 0 (k := 1) rfl rfl rfl Tryd.isAgg3) rfl ?_
 refine W.pure rfl (S.slLH rfl rfl rfl (by omega) (by omega) Tryd.underlying22 Tryd.sizeOf5) rfl ?_
 refine W.pure rfl (S.assign rfl) rfl ?_
 refine W.nil ?_
 refine D.keep [0, 2, 3] (env1 := [(0, _), (2, _), (3, _)]) rfl ?_
 refine C.seq ?_
 refine C.region ?_
 refine E.pure (S.move rfl) rfl ?_
 refine E.pure (S.move rfl) rfl ?_
 refine E.pure (S.nilPtr rfl) rfl ?_
 refine E.pure (S.field rfl fa148_1) rfl ?_
 refine E.still (S.load 0 (k := 1) rfl rfl rfl Tryd.isAgg3) rfl ?_
 refine E.pure (S.nilPtr rfl) rfl ?_
 refine E.pure (S.field rfl fa148_2) rfl ?_
 refine E.loud0 (X.store 0 (k := 2) rfl rfl rfl rfl rfl Tryd.sizeOf3) ?_; rintro _ _ ⟨rfl, rfl⟩; refine E.relist (L2 := [_]) rfl ?_
 refine E.keep [0, 2, 3] (env1 := [(0, _), (2, _), (3, _)]) rfl ?_
 refine C.seq ?_
 refine C.seq ?_
 refine C.draw [0, 1, 2, 4, 0, 16, 32, 64, 128, 264] (.pure 0 496 (.pure 1 497 (.pure 2 499 (.pure 4 15 (.pure 5 31 (.pure 6 63 (.seg [(3, 503), (7, 127), (8, 255), (9, 511)] .done))))))) mixed (by decide +kernel) ?_
 refine D.pure rfl (S.move rfl) rfl ?_
 refine D.pure rfl (S.nilPtr rfl) rfl ?_
 refine D.pure rfl (S.field rfl fa148_1) rfl ?_
 refine D.pure rfl (S.move rfl) rfl ?_
 refine D.pure rfl (S.nilPtr rfl) rfl ?_
 refine D.pure rfl (S.field rfl fa148_0) rfl ?_
 refine D.seg (by decide) ?_
 refine W.still rfl (S.load 0 (k := 1) rfl rfl rfl Tryd.isAgg3) rfl ?_
 refine W.still rfl (S.load 0 (k := 0) rfl rfl rfl Tryd.isAgg22) rfl ?_
 refine W.pure rfl (S.lenSl rfl Tryd.underlying22) rfl ?_
 refine W.pure rfl (S.eq rfl rfl) rfl ?_
 refine W.nil ?_
 refine D.keep [0, 2, 3, 33] (env1 := [(0, _), (2, _), (3, _), (33, _)]) rfl ?_
 refine C.ifp rfl (fun h33 => ?_) (fun h33 => ?_)
 ·
  refine C.seq ?_
  refine C.region ?_
  refine E.pure (S.move rfl) rfl ?_
  refine E.pure (S.move rfl) rfl ?_
  refine E.pure (S.nilPtr rfl) rfl ?_
  refine E.pure (S.field rfl fa148_1) rfl ?_
  refine E.loud0 (X.store 0 (k := 1) rfl rfl rfl rfl rfl Tryd.sizeOf3) ?_; rintro _ _ ⟨rfl, rfl⟩; refine E.relist (L2 := [_]) rfl ?_
  refine E.pure (S.nilPtr rfl) rfl ?_
  refine E.pure (S.field rfl fa148_2) rfl ?_
  refine E.loud0 (X.store 0 (k := 2) rfl rfl rfl rfl rfl Tryd.sizeOf3) ?_; rintro _ _ ⟨rfl, rfl⟩; refine E.relist (L2 := [_]) rfl ?_
  refine E.keep [0, 2, 3, 33] (env1 := [(0, _), (2, _), (3, _), (33, _)]) rfl ?_
  refine C.region ?_
  refine E.pure (S.move rfl) rfl ?_
  refine E.pure (S.nilPtr rfl) rfl ?_
  refine E.pure (S.field rfl fa148_3) rfl ?_
  refine E.loud0 (X.store 0 (k := 3) rfl rfl rfl rfl rfl Tryd.sizeOf4) ?_; rintro _ _ ⟨rfl, rfl⟩; refine E.relist (L2 := [_]) rfl ?_
  refine E.keep [0, 2, 3, 33] (env1 := [(0, _), (2, _), (3, _), (33, _)]) rfl ?_
  refine C.seq ?_
  refine C.region ?_
  refine E.pure (S.move rfl) rfl ?_
  refine E.pure (S.assign rfl) rfl ?_
  refine E.keep [0, 2, 3, 33] (env1 := [(0, _), (2, _), (3, _), (33, _)]) rfl ?_
  refine C.ret ?_
  exact ⟨_, rfl, _, ⟨flush_sl h1 h2, by omega, .inr ⟨by omega, rfl⟩⟩, rfl⟩
 ·
  refine C.skip ?_
  refine C.seq ?_
  refine C.region ?_
  refine E.pure (S.move rfl) rfl ?_
  refine E.pure (S.assign rfl) rfl ?_
  refine E.keep [0, 2, 3, 33] (env1 := [(0, _), (2, _), (3, _), (33, _)]) rfl ?_
  refine C.ret ?_
  first | exact ⟨_, rfl, _, ⟨flush_sl h1 h2, by omega, .inr ⟨by omega, rfl⟩⟩, rfl⟩ | exact ⟨_, rfl, _, ⟨flush_sl h1 h2, by omega, .inl ⟨by omega, rfl⟩⟩, rfl⟩
theorem tryWriteCopy_spec {K : Known} (b o hb wr rd : Nat) (full : Bool) (h0 : List UInt8) (out : List UInt8) (H : Hist h0 wr full out) (hw : wr < 32768) (d len : Nat) (hd1 : 1 ≤ d) (hd2 : d ≤ hsize wr full) (hlen : len ≤ 32768) : Fn Tryd.prog K 86 #[.pointer (some ⟨b, o, none⟩), .int .i64 ((d : Nat) : Int), .int .i64 ((len : Nat) : Int)] ([⟨b, o, [.slice (some ⟨hb, 0, none⟩) 32768 32768, .int .i64 (((wr) : Nat) : Int), .int .i64 (((rd) : Nat) : Int), .bool full]⟩, ⟨hb, 0, bytesV (h0)⟩]) (fun v L => ∃ n h, v = .int .i64 ((n : Nat) : Int) ∧ n ≤ len ∧ (n = 0 ∨ n = len) ∧ Hist h (wr + n) full (copyN out d n) ∧ L = [⟨b, o, [.slice (some ⟨hb, 0, none⟩) 32768 32768, .int .i64 (((wr + n) : Nat) : Int), .int .i64 (((rd) : Nat) : Int), .bool full]⟩, ⟨hb, 0, bytesV (h)⟩]) := by
 refine Fn.intro (args := [.pointer (some ⟨b, o, none⟩), .int .i64 ((d : Nat) : Int), .int .i64 ((len : Nat) : Int)]) (RR := Ret1 6 _) Tryd.func86 rfl rfl Tryd.ntmps86 (res1 Tryd.results86) ?_
 refine C.reenv (env2 := [(0, .pointer (some ⟨b, o, none⟩)), (1, .int .i64 ((d : Nat) : Int)), (2, .int .i64 ((len : Nat) : Int))]) rfl ?_
 refine C.seq ?_
 refine C.region ?_
 refine E.pure (S.assign rfl) rfl ?_
 refine E.keep [0, 1, 2, 6] (env1 := [(0, _), (1, _), (2, _), (6, _)]) rfl ?_
 refine C.seq ?_
 refine C.region ?_
 refine E.pure (S.move rfl) rfl ?_
 refine E.pure (S.nilPtr rfl) rfl ?_
 refine E.pure (S.field rfl fa148_1) rfl ?_
 refine E.still (S.load 0 (k := 1) rfl rfl rfl Tryd.isAgg3) rfl ?_
 refine E.pure (S.assign rfl) rfl ?_
 refine E.keep [0, 1, 2, 6, 7] (env1 := [(0, _), (1, _), (2, _), (6, _), (7, _)]) rfl ?_
 refine C.seq ?_
 refine C.region ?_
 refine E.pure (S.move rfl) rfl ?_
 refine E.pure (S.move rfl) rfl ?_
 refine E.pure (S.add rfl rfl (N.add64 (by omega))) rfl ?_
 refine E.pure (S.assign rfl) rfl ?_
 refine E.keep [0, 1, 6, 7, 8] (env1 := [(0, _), (1, _), (6, _), (7, _), (8, _)]) rfl ?_
 refine C.seq ?_
 refine C.seq ?_
 refine C.region ?_
 refine E.pure (S.move rfl) rfl ?_
 refine E.pure (S.move rfl) rfl ?_
 refine E.pure (S.lt rfl rfl) rfl ?_
 refine E.pure (S.move rfl) rfl ?_
 refine E.fork (fun g21 => ?_) (fun g21 => ?_)
 ·
  refine E.guardNo 21 true rfl rfl rfl rfl ?_
  refine E.guardNo 21 true rfl rfl rfl rfl ?_
  refine E.guardNo 21 true rfl rfl rfl rfl ?_
  refine E.guardNo 21 true rfl rfl rfl rfl ?_
  refine E.guardNo 21 true rfl rfl rfl rfl ?_
  refine E.guardNo 21 true rfl rfl rfl rfl ?_
  refine E.guardNo 21 true rfl rfl rfl rfl ?_
  refine E.pure (S.pickT rfl rfl) rfl ?_
  refine E.keep [0, 1, 6, 7, 8, 29] (env1 := [(0, _), (1, _), (6, _), (7, _), (8, _), (29, _)]) rfl ?_
  refine C.yes rfl (rfl) ?_
  refine C.seq ?_
  refine C.region ?_
  refine E.pure (S.assign rfl) rfl ?_
  refine E.keep [0, 1, 6, 7, 8, 29] (env1 := [(0, _), (1, _), (6, _), (7, _), (8, _), (29, _)]) rfl ?_
  refine C.ret ?_
  exact ⟨_, rfl, 0, h0, rfl, Nat.zero_le _, .inl rfl, H, rfl⟩
 ·
  refine E.wanted 21 rfl rfl ?_
  refine E.pure (S.move rfl) rfl ?_
  refine E.wanted 21 rfl rfl ?_
  refine E.pure (S.move rfl) rfl ?_
  refine E.wanted 21 rfl rfl ?_
  refine E.pure (S.nilPtr rfl) rfl ?_
  refine E.wanted 21 rfl rfl ?_
  refine E.pure (S.field rfl fa148_0) rfl ?_
  refine E.wanted 21 rfl rfl ?_
  refine E.still (S.load 0 (k := 0) rfl rfl rfl Tryd.isAgg22) rfl ?_
  refine E.wanted 21 rfl rfl ?_
  refine E.pure (S.lenSl rfl Tryd.underlying22) rfl ?_
  refine E.wanted 21 rfl rfl ?_
  refine E.pure (S.gt rfl rfl) rfl ?_
  refine E.pure (S.pickF rfl rfl) rfl ?_
  refine E.keep [0, 1, 6, 7, 8, 29] (env1 := [(0, _), (1, _), (6, _), (7, _), (8, _), (29, _)]) rfl ?_
  refine C.ifp rfl (fun h29 => ?_) (fun h29 => ?_)
  ·
   refine C.seq ?_
   refine C.region ?_
   refine E.pure (S.assign rfl) rfl ?_
   refine E.keep [0, 1, 6, 7, 8, 29] (env1 := [(0, _), (1, _), (6, _), (7, _), (8, _), (29, _)]) rfl ?_
   refine C.ret ?_
   exact ⟨_, rfl, 0, h0, rfl, Nat.zero_le _, .inl rfl, H, rfl⟩
  ·
   refine C.skip ?_
   refine C.seq ?_
   refine C.region ?_
   refine E.pure (S.move rfl) rfl ?_
   refine E.pure (S.assign rfl) rfl ?_
   refine E.keep [0, 1, 6, 7, 8, 9, 29] (env1 := [(0, _), (1, _), (6, _), (7, _), (8, _), (9, _), (29, _)]) rfl ?_
   refine C.seq ?_
   refine C.region ?_
   refine E.pure (S.move rfl) rfl ?_
   refine E.pure (S.move rfl) rfl ?_
   refine E.pure (S.sub rfl rfl (N.sub64 (by omega) (by omega))) rfl ?_
   refine E.pure (S.assign rfl) rfl ?_
   refine E.keep [0, 1, 6, 7, 8, 9, 10, 29] (env1 := [(0, _), (1, _), (6, _), (7, _), (8, _), (9, _), (10, _), (29, _)]) rfl ?_
   refine C.seq ?_
   refine C.block ?_
   refine C.loop (fun mm ee ll => ∃ (h : List UInt8), ∃ (dst : Nat), ∃ (m : Nat), keeps ee [0, 7, 10, 8, 9] = some [(0, .pointer (some ⟨b, o, none⟩)), (7, .int .i64 ((dst : Nat) : Int)), (10, .int .i64 ((wr - d : Nat) : Int)), (8, .int .i64 ((wr + len : Nat) : Int)), (9, .int .i64 ((wr : Nat) : Int))] ∧ ll = [⟨b, o, [.slice (some ⟨hb, 0, none⟩) 32768 32768, .int .i64 (((wr) : Nat) : Int), .int .i64 (((rd) : Nat) : Int), .bool full]⟩, ⟨hb, 0, bytesV (h)⟩] ∧ (Hist h dst full (copyN out d (dst - wr))) ∧ (Per d m (copyN out d (dst - wr))) ∧ (1 ≤ m ∨ dst = wr + len) ∧ (m ≤ dst) ∧ (wr - d = dst - m) ∧ (wr ≤ dst) ∧ (dst ≤ wr + len) ∧ (d ∣ m ∨ dst = wr + len) ∧ mm = wr + len - dst) (_) ⟨h0, wr, d, rfl, rfl, by rw [Nat.sub_self]; exact H, by rw [Nat.sub_self]; exact per_self _ _, .inl hd1, by omega, by omega, Nat.le_refl _, by omega, .inl (Nat.dvd_refl d), rfl⟩ ?_
   rintro m0 _ _ ⟨h, dst, m, hk0, rfl, H, hp, hm1, hm2, hms, hw1, he, hdv, hm0⟩
   refine C.weaken _ hk0 ?_
   refine C.seq ?_
   refine C.seq ?_
   refine C.region ?_
   refine E.pure (S.move rfl) rfl ?_
   refine E.pure (S.move rfl) rfl ?_
   refine E.pure (S.lt rfl rfl) rfl ?_
   refine E.keep [0, 7, 8, 9, 10, 36] (env1 := [(0, _), (7, _), (8, _), (9, _), (10, _), (36, _)]) rfl ?_
   refine C.ifp rfl (fun h36 => ?_) (fun h36 => ?_)
   ·
    refine C.skip ?_
    refine C.block ?_
    refine C.draw [0, 0, 2, 4, 8, 0, 0, 112, 0, 256, 512, 1024, 0, 0, 14336, 16512, 32769, 131071] (.pure 0 65534 (.pure 1 32609 (.pure 2 32611 (.pure 3 32615 (.pure 5 32607 (.pure 6 32575 (.pure 8 12543 (.pure 9 12799 (.pure 10 13311 (.pure 12 12287 (.pure 13 8191 (.seg [(4, 32623), (7, 32639), (11, 14335), (14, 16383)] (.alt 15 (.pure 16 65535 (.pure 17 131071 .done)) .stop))))))))))))) mixed (by decide +kernel) ?_
    have hdd : d ∣ m := hdv.resolve_right (by omega)
    have hln := H.len
    have hsz := H.size_le
    have hmn1 : Nat.min m (wr + len - dst) ≤ m := Nat.min_le_left _ _
    have hmn2 : Nat.min m (wr + len - dst) ≤ wr + len - dst := Nat.min_le_right _ _
    have hmn3 : Nat.min m (wr + len - dst) = m ∨ Nat.min m (wr + len - dst) = wr + len - dst := by
      rcases Nat.le_total m (wr + len - dst) with q | q
      · exact .inl (Nat.min_eq_left q)
      · exact .inr (Nat.min_eq_right q)
    obtain ⟨H2, hp2⟩ := H.copyStep (n := Nat.min m (wr + len - dst)) hd1 (hm1.resolve_right (by omega)) hm2 hdd hp hmn1 (by omega)
    rw [copyN_add, show dst - wr + Nat.min m (wr + len - dst) = dst + Nat.min m (wr + len - dst) - wr by omega] at H2 hp2
    refine D.pure rfl (S.move rfl) rfl ?_
    refine D.pure rfl (S.move rfl) rfl ?_
    refine D.pure rfl (S.nilPtr rfl) rfl ?_
    refine D.pure rfl (S.field rfl fa148_0) rfl ?_
    refine D.pure rfl (S.move rfl) rfl ?_
    refine D.pure rfl (S.move rfl) rfl ?_
    refine D.pure rfl (S.move rfl) rfl ?_
    refine D.pure rfl (S.nilPtr rfl) rfl ?_
    refine D.pure rfl (S.field rfl fa148_0) rfl ?_
    refine D.pure rfl (S.move rfl) rfl ?_
    refine D.pure rfl (S.move rfl) rfl ?_
    refine D.seg (by decide) ?_
    refine W.still rfl (S.load 0 (k := 0) rfl rfl rfl Tryd.isAgg22) rfl ?_
    refine W.pure rfl (S.slLH rfl rfl rfl (by omega) (by omega) Tryd.underlying22 Tryd.sizeOf5) rfl ?_
    refine W.reslot (v := .slice (some ⟨hb, dst, none⟩) (wr + len - dst) (32768 - dst)) (slice_to (by rw [part, if_neg (by omega)]; omega) (by omega) (by omega)) ?_
    refine W.still rfl (S.load 0 (k := 0) rfl rfl rfl Tryd.isAgg22) rfl ?_
    refine W.pure rfl (S.slLH rfl rfl rfl (by omega) (by omega) Tryd.underlying22 Tryd.sizeOf5) rfl ?_
    refine W.reslot (v := .slice (some ⟨hb, dst - m, none⟩) m (32768 - (dst - m))) (slice_to (by rw [part, if_neg (by omega)]; omega) (by omega) (by omega)) ?_
    refine W.nil ?_
    refine D.one ?_
    refine O.loud1 rfl (X.copyW 1 (hb := hb) (dst := dst) (src := dst - m) rfl rfl rfl (by omega) (by omega)) rfl ?_; rintro _ _ ⟨rfl, rfl⟩; refine D.relist (L2 := [_, _]) rfl ?_
    refine D.pure rfl (S.add rfl rfl (N.add64 (by omega))) rfl ?_
    refine D.pure rfl (S.assign rfl) rfl ?_
    refine D.keep [0, 7, 8, 9, 10, 36] (env1 := [(0, _), (7, _), (8, _), (9, _), (10, _), (36, _)]) rfl ?_
    refine ⟨_, ?_, h.take dst ++ (h.drop (dst - m)).take (Nat.min m (wr + len - dst)) ++ h.drop (dst + Nat.min m (wr + len - dst)), dst + Nat.min m (wr + len - dst), m + Nat.min m (wr + len - dst), rfl, rfl, H2, hp2, by omega, by omega, by omega, by omega, by omega, (hmn3.imp (fun q => by rw [q]; exact Nat.dvd_add hdd hdd) (fun q => by omega)), rfl⟩; omega
   ·
    refine C.exit rfl ?_
    refine C.seq ?_
    refine C.region ?_
    refine E.pure (S.move rfl) rfl ?_
    refine E.pure (S.move rfl) rfl ?_
    refine E.pure (S.nilPtr rfl) rfl ?_
    refine E.pure (S.field rfl fa148_1) rfl ?_
    refine E.loud0 (X.store 0 (k := 1) rfl rfl rfl rfl rfl Tryd.sizeOf3) ?_; rintro _ _ ⟨rfl, rfl⟩; refine E.relist (L2 := [_, _]) rfl ?_
    refine E.keep [0, 7, 8, 9, 10, 36] (env1 := [(0, _), (7, _), (8, _), (9, _), (10, _), (36, _)]) rfl ?_
    refine C.seq ?_
    refine C.region ?_
    refine E.pure (S.move rfl) rfl ?_
    refine E.pure (S.move rfl) rfl ?_
    refine E.pure (S.sub rfl rfl (N.sub64 (by omega) (by omega))) rfl ?_
    refine E.pure (S.assign rfl) rfl ?_
    refine E.keep [0, 6, 7, 8, 9, 10, 36] (env1 := [(0, _), (6, _), (7, _), (8, _), (9, _), (10, _), (36, _)]) rfl ?_
    refine C.ret ?_
    have hde : dst = wr + len := by omega
    subst hde
    refine ⟨_, rfl, len, h, ?_, Nat.le_refl _, .inr rfl, ?_, rfl⟩
    · exact congrArg (fun y : Nat => Value.int .i64 (y : Int)) (by omega)
    · rw [Nat.add_sub_cancel_left] at H; exact H
theorem writeCopy_spec {K : Known} (b o hb wr rd : Nat) (full : Bool) (h0 : List UInt8) (out : List UInt8) (H : Hist h0 wr full out) (hw : wr < 32768) (d len : Nat) (hd1 : 1 ≤ d) (hd2 : d ≤ hsize wr full) (hlen : len ≤ 32768) : Fn Tryd.prog K 87 #[.pointer (some ⟨b, o, none⟩), .int .i64 ((d : Nat) : Int), .int .i64 ((len : Nat) : Int)] ([⟨b, o, [.slice (some ⟨hb, 0, none⟩) 32768 32768, .int .i64 (((wr) : Nat) : Int), .int .i64 (((rd) : Nat) : Int), .bool full]⟩, ⟨hb, 0, bytesV (h0)⟩]) (fun v L => ∃ n h, v = .int .i64 ((n : Nat) : Int) ∧ n ≤ len ∧ (n = min len (32768 - wr)) ∧ Hist h (wr + n) full (copyN out d n) ∧ L = [⟨b, o, [.slice (some ⟨hb, 0, none⟩) 32768 32768, .int .i64 (((wr + n) : Nat) : Int), .int .i64 (((rd) : Nat) : Int), .bool full]⟩, ⟨hb, 0, bytesV (h)⟩]) := by
 refine Fn.intro (args := [.pointer (some ⟨b, o, none⟩), .int .i64 ((d : Nat) : Int), .int .i64 ((len : Nat) : Int)]) (RR := Ret1 6 _) Tryd.func87 rfl rfl Tryd.ntmps87 (res1 Tryd.results87) ?_
 refine C.reenv (env2 := [(0, .pointer (some ⟨b, o, none⟩)), (1, .int .i64 ((d : Nat) : Int)), (2, .int .i64 ((len : Nat) : Int))]) rfl ?_
 refine C.seq ?_
 refine C.region ?_
 refine E.pure (S.assign rfl) rfl ?_
 refine E.keep [0, 1, 2, 6] (env1 := [(0, _), (1, _), (2, _), (6, _)]) rfl ?_
 refine C.seq ?_
 have hd3 : d ≤ 32768 := by have := H.size_le; omega
 refine C.region ?_
 refine E.pure (S.move rfl) rfl ?_
 refine E.pure (S.nilPtr rfl) rfl ?_
 refine E.pure (S.field rfl fa148_1) rfl ?_
 refine E.still (S.load 0 (k := 1) rfl rfl rfl Tryd.isAgg3) rfl ?_
 refine E.pure (S.assign rfl) rfl ?_
 refine E.keep [0, 1, 2, 6, 7] (env1 := [(0, _), (1, _), (2, _), (6, _), (7, _)]) rfl ?_
 refine C.seq ?_
 refine C.region ?_
 refine E.pure (S.move rfl) rfl ?_
 refine E.pure (S.assign rfl) rfl ?_
 refine E.keep [0, 1, 2, 6, 7, 8] (env1 := [(0, _), (1, _), (2, _), (6, _), (7, _), (8, _)]) rfl ?_
 refine C.seq ?_
 refine C.region ?_
 refine E.pure (S.move rfl) rfl ?_
 refine E.pure (S.move rfl) rfl ?_
 refine E.pure (S.sub rfl rfl (N.subZ (by omega))) rfl ?_
 refine E.pure (S.assign rfl) rfl ?_
 refine E.keep [0, 2, 6, 7, 8, 9] (env1 := [(0, _), (2, _), (6, _), (7, _), (8, _), (9, _)]) rfl ?_
 refine C.seq ?_
 refine C.region ?_
 refine E.pure (S.move rfl) rfl ?_
 refine E.pure (S.move rfl) rfl ?_
 refine E.pure (S.add rfl rfl (N.add64 (by omega))) rfl ?_
 refine E.pure (S.move rfl) rfl ?_
 refine E.pure (S.nilPtr rfl) rfl ?_
 refine E.pure (S.field rfl fa148_0) rfl ?_
 refine E.still (S.load 0 (k := 0) rfl rfl rfl Tryd.isAgg22) rfl ?_
 refine E.pure (S.lenSl rfl Tryd.underlying22) rfl ?_
 refine E.pure (S.min2 rfl rfl) rfl ?_
 refine E.reslot (v := .int .i64 ((min (wr + len) 32768 : Nat) : Int)) (congrArg (fun y : Int => Value.int .i64 y) (by omega)) ?_
 refine E.pure (S.assign rfl) rfl ?_
 refine E.keep [0, 6, 7, 8, 9, 10] (env1 := [(0, _), (6, _), (7, _), (8, _), (9, _), (10, _)]) rfl ?_
 refine C.cut (M := fun ee ll => ∃ (h1 : List UInt8), ∃ (k : Nat), ∃ (src : Nat), keeps ee [0, 7, 10, 8, 9] = some [(0, .pointer (some ⟨b, o, none⟩)), (7, .int .i64 ((wr : Nat) : Int)), (10, .int .i64 ((min (wr + len) 32768 : Nat) : Int)), (8, .int .i64 ((wr + k : Nat) : Int)), (9, .int .i64 ((src : Nat) : Int))] ∧ ll = [⟨b, o, [.slice (some ⟨hb, 0, none⟩) 32768 32768, .int .i64 (((wr) : Nat) : Int), .int .i64 (((rd) : Nat) : Int), .bool full]⟩, ⟨hb, 0, bytesV (h1)⟩] ∧ (Hist h1 (wr + k) full (copyN out d k)) ∧ (Per d (wr + k - src) (copyN out d k)) ∧ (src < wr + k ∨ (src = wr + k ∧ wr + k = min (wr + len) 32768)) ∧ (wr + k ≤ min (wr + len) 32768) ∧ (d ∣ wr + k - src ∨ wr + k = min (wr + len) 32768)) ?_ ?_
 ·
  refine C.seq ?_
  refine C.region ?_
  refine E.pure (S.move rfl) rfl ?_
  refine E.pure (S.lt (b := ((0 : Nat) : Int)) rfl rfl) rfl ?_
  refine E.keep [0, 6, 7, 8, 9, 10, 29] (env1 := [(0, _), (6, _), (7, _), (8, _), (9, _), (10, _), (29, _)]) rfl ?_
  refine C.ifp rfl (fun h29 => ?_) (fun h29 => ?_)
  ·
   have hwd : wr < d := by omega
   have hfull : full = true := by
     cases full with
     | true => rfl
     | false => exact absurd hd2 (by simp [hsize]; omega)
   have hd32 : d ≤ 32768 := by rw [hfull] at hd2; exact hd2
   have hln := H.len
   subst hfull
   have hk1 : Nat.min (d - wr) (min (wr + len) 32768 - wr) ≤ d - wr := Nat.min_le_left _ _
   have hk2 : Nat.min (d - wr) (min (wr + len) 32768 - wr) ≤ min (wr + len) 32768 - wr := Nat.min_le_right _ _
   have hk3 : Nat.min (d - wr) (min (wr + len) 32768 - wr) = d - wr ∨ Nat.min (d - wr) (min (wr + len) 32768 - wr) = min (wr + len) 32768 - wr := by
     rcases Nat.le_total (d - wr) (min (wr + len) 32768 - wr) with q | q
     · exact .inl (Nat.min_eq_left q)
     · exact .inr (Nat.min_eq_right q)
   obtain ⟨H1, hp1⟩ := H.copyBack (n := Nat.min (d - wr) (min (wr + len) 32768 - wr)) (by omega) hd32 hk1 (by omega)
   have hcl := copyN_length out d (Nat.min (d - wr) (min (wr + len) 32768 - wr))
   have hsz := H.size_le
   simp only [hsize, if_true] at hsz
   have hp2 : Per d (wr + Nat.min (d - wr) (min (wr + len) 32768 - wr) - 0) (copyN out d (Nat.min (d - wr) (min (wr + len) 32768 - wr))) := Per.less (k := d - wr) (by rw [show wr + Nat.min (d - wr) (min (wr + len) 32768 - wr) - 0 + (d - wr) = d + Nat.min (d - wr) (min (wr + len) 32768 - wr) by omega]; exact hp1) (by omega)
   have hdv : d ∣ wr + Nat.min (d - wr) (min (wr + len) 32768 - wr) - 0 ∨ wr + Nat.min (d - wr) (min (wr + len) 32768 - wr) = min (wr + len) 32768 := hk3.imp (fun q => by rw [q, show wr + (d - wr) - 0 = d by omega]; exact Nat.dvd_refl d) (fun q => by omega)
   refine C.seq ?_
   refine C.region ?_
   refine E.pure (S.move rfl) rfl ?_
   refine E.pure (S.move rfl) rfl ?_
   refine E.pure (S.nilPtr rfl) rfl ?_
   refine E.pure (S.field rfl fa148_0) rfl ?_
   refine E.still (S.load 0 (k := 0) rfl rfl rfl Tryd.isAgg22) rfl ?_
   refine E.pure (S.lenSl rfl Tryd.underlying22) rfl ?_
   first | refine E.pure (S.add rfl rfl (N.add64 (by omega))) rfl ?_ | refine E.pure (S.add rfl rfl (N.addZ (by omega))) rfl ?_
   refine E.reslot (v := .int .i64 ((wr + 32768 - d : Nat) : Int)) (congrArg (fun y : Int => Value.int .i64 y) (by omega)) ?_
   refine E.pure (S.assign rfl) rfl ?_
   refine E.keep [0, 6, 7, 8, 9, 10, 29] (env1 := [(0, _), (6, _), (7, _), (8, _), (9, _), (10, _), (29, _)]) rfl ?_
   refine C.seq ?_
   refine C.draw [0, 0, 2, 4, 8, 0, 0, 112, 0, 256, 512, 1024, 0, 6144, 8320, 16385, 65535] (.pure 0 32766 (.pure 1 16225 (.pure 2 16227 (.pure 3 16231 (.pure 5 16223 (.pure 6 16191 (.pure 8 4351 (.pure 9 4607 (.pure 10 5119 (.pure 12 4095 (.seg [(4, 16239), (7, 16255), (11, 6143), (13, 8191)] (.alt 14 (.pure 15 32767 (.pure 16 65535 .done)) .stop)))))))))))) mixed (by decide +kernel) ?_
   refine D.pure rfl (S.move rfl) rfl ?_
   refine D.pure rfl (S.move rfl) rfl ?_
   refine D.pure rfl (S.nilPtr rfl) rfl ?_
   refine D.pure rfl (S.field rfl fa148_0) rfl ?_
   refine D.pure rfl (S.move rfl) rfl ?_
   refine D.pure rfl (S.move rfl) rfl ?_
   refine D.pure rfl (S.move rfl) rfl ?_
   refine D.pure rfl (S.nilPtr rfl) rfl ?_
   refine D.pure rfl (S.field rfl fa148_0) rfl ?_
   refine D.pure rfl (S.move rfl) rfl ?_
   refine D.seg (by decide) ?_
   refine W.still rfl (S.load 0 (k := 0) rfl rfl rfl Tryd.isAgg22) rfl ?_
   refine W.pure rfl (S.slLH rfl rfl rfl (by omega) (by omega) Tryd.underlying22 Tryd.sizeOf5) rfl ?_
   refine W.reslot (v := .slice (some ⟨hb, wr, none⟩) (min (wr + len) 32768 - wr) (32768 - wr)) (slice_to (by rw [part, if_neg (by omega)]; omega) (by omega) (by omega)) ?_
   refine W.still rfl (S.load 0 (k := 0) rfl rfl rfl Tryd.isAgg22) rfl ?_
   refine W.pure rfl (S.slL rfl rfl (by omega) Tryd.underlying22 Tryd.sizeOf5) rfl ?_
   refine W.reslot (v := .slice (some ⟨hb, wr + 32768 - d, none⟩) (d - wr) (d - wr)) (slice_to (by rw [part, if_neg (by omega)]; omega) (by omega) (by omega)) ?_
   refine W.nil ?_
   refine D.one ?_
   refine O.loud1 rfl (X.copyW 1 (hb := hb) (dst := wr) (src := wr + 32768 - d) rfl rfl rfl (by omega) (by omega)) rfl ?_; rintro _ _ ⟨rfl, rfl⟩; refine D.relist (L2 := [_, _]) rfl ?_
   refine D.pure rfl (S.add rfl rfl (N.add64 (by omega))) rfl ?_
   refine D.pure rfl (S.assign rfl) rfl ?_
   refine D.keep [0, 6, 7, 8, 9, 10, 29] (env1 := [(0, _), (6, _), (7, _), (8, _), (9, _), (10, _), (29, _)]) rfl ?_
   refine C.region ?_
   refine E.pure (S.assign rfl) rfl ?_
   refine E.keep [0, 6, 7, 8, 9, 10, 29] (env1 := [(0, _), (6, _), (7, _), (8, _), (9, _), (10, _), (29, _)]) rfl ?_
   exact ⟨_, Nat.min (d - wr) (min (wr + len) 32768 - wr), 0, rfl, rfl, H1, hp2, by omega, by omega, hdv⟩
  ·
   have hwd : d ≤ wr := by omega
   have H1 : Hist h0 (wr + 0) full (copyN out d 0) := H
   have hp2 : Per d (wr + 0 - (wr - d)) (copyN out d 0) := by rw [show wr + 0 - (wr - d) = d by omega]; exact per_self _ _
   have hdv : d ∣ wr + 0 - (wr - d) ∨ wr + 0 = min (wr + len) 32768 := .inl (by rw [show wr + 0 - (wr - d) = d by omega]; exact Nat.dvd_refl d)
   rw [show (wr : Int) - (d : Int) = ((wr - d : Nat) : Int) by omega]
   refine C.skip ?_
   first | exact ⟨_, Nat.min (d - wr) (min (wr + len) 32768 - wr), 0, rfl, rfl, H1, hp2, by omega, by omega, hdv⟩ | exact ⟨h0, 0, wr - d, rfl, rfl, H1, hp2, by omega, by omega, hdv⟩
 ·
  rintro _ _ ⟨h1, k, src, hq9, rfl, H1, hp1, hs1, hk9, hdv1⟩
  refine C.weaken _ hq9 ?_
  refine C.seq ?_
  refine C.block ?_
  refine C.loop (fun mm ee ll => ∃ (h : List UInt8), ∃ (dst : Nat), ∃ (m : Nat), keeps ee [0, 8, 9, 10, 7] = some [(0, .pointer (some ⟨b, o, none⟩)), (8, .int .i64 ((dst : Nat) : Int)), (9, .int .i64 ((src : Nat) : Int)), (10, .int .i64 ((min (wr + len) 32768 : Nat) : Int)), (7, .int .i64 ((wr : Nat) : Int))] ∧ ll = [⟨b, o, [.slice (some ⟨hb, 0, none⟩) 32768 32768, .int .i64 (((wr) : Nat) : Int), .int .i64 (((rd) : Nat) : Int), .bool full]⟩, ⟨hb, 0, bytesV (h)⟩] ∧ (Hist h dst full (copyN out d (dst - wr))) ∧ (Per d m (copyN out d (dst - wr))) ∧ (1 ≤ m ∨ dst = min (wr + len) 32768) ∧ (m ≤ dst) ∧ (src = dst - m) ∧ (wr ≤ dst) ∧ (dst ≤ min (wr + len) 32768) ∧ (d ∣ m ∨ dst = min (wr + len) 32768) ∧ mm = min (wr + len) 32768 - dst) (_) ⟨h1, wr + k, wr + k - src, rfl, rfl, by rw [Nat.add_sub_cancel_left]; exact H1, by rw [Nat.add_sub_cancel_left]; exact hp1, by omega, by omega, by omega, by omega, by omega, hdv1, rfl⟩ ?_
  rintro m0 _ _ ⟨h, dst, m, hk0, rfl, H, hp, hm1, hm2, hms, hw1, he, hdv, hm0⟩
  refine C.weaken _ hk0 ?_
  refine C.seq ?_
  refine C.seq ?_
  refine C.region ?_
  refine E.pure (S.move rfl) rfl ?_
  refine E.pure (S.move rfl) rfl ?_
  refine E.pure (S.lt rfl rfl) rfl ?_
  refine E.keep [0, 7, 8, 9, 10, 55] (env1 := [(0, _), (7, _), (8, _), (9, _), (10, _), (55, _)]) rfl ?_
  refine C.ifp rfl (fun h55 => ?_) (fun h55 => ?_)
  ·
   refine C.skip ?_
   refine C.block ?_
   refine C.draw [0, 0, 2, 4, 8, 0, 0, 112, 0, 256, 512, 1024, 0, 0, 14336, 16512, 32769, 131071] (.pure 0 65534 (.pure 1 32609 (.pure 2 32611 (.pure 3 32615 (.pure 5 32607 (.pure 6 32575 (.pure 8 12543 (.pure 9 12799 (.pure 10 13311 (.pure 12 12287 (.pure 13 8191 (.seg [(4, 32623), (7, 32639), (11, 14335), (14, 16383)] (.alt 15 (.pure 16 65535 (.pure 17 131071 .done)) .stop))))))))))))) mixed (by decide +kernel) ?_
   have hdd : d ∣ m := hdv.resolve_right (by omega)
   have hln := H.len
   have hsz := H.size_le
   have hmn1 : Nat.min m (min (wr + len) 32768 - dst) ≤ m := Nat.min_le_left _ _
   have hmn2 : Nat.min m (min (wr + len) 32768 - dst) ≤ min (wr + len) 32768 - dst := Nat.min_le_right _ _
   have hmn3 : Nat.min m (min (wr + len) 32768 - dst) = m ∨ Nat.min m (min (wr + len) 32768 - dst) = min (wr + len) 32768 - dst := by
     rcases Nat.le_total m (min (wr + len) 32768 - dst) with q | q
     · exact .inl (Nat.min_eq_left q)
     · exact .inr (Nat.min_eq_right q)
   obtain ⟨H2, hp2⟩ := H.copyStep (n := Nat.min m (min (wr + len) 32768 - dst)) hd1 (hm1.resolve_right (by omega)) hm2 hdd hp hmn1 (by omega)
   rw [copyN_add, show dst - wr + Nat.min m (min (wr + len) 32768 - dst) = dst + Nat.min m (min (wr + len) 32768 - dst) - wr by omega] at H2 hp2
   refine D.pure rfl (S.move rfl) rfl ?_
   refine D.pure rfl (S.move rfl) rfl ?_
   refine D.pure rfl (S.nilPtr rfl) rfl ?_
   refine D.pure rfl (S.field rfl fa148_0) rfl ?_
   refine D.pure rfl (S.move rfl) rfl ?_
   refine D.pure rfl (S.move rfl) rfl ?_
   refine D.pure rfl (S.move rfl) rfl ?_
   refine D.pure rfl (S.nilPtr rfl) rfl ?_
   refine D.pure rfl (S.field rfl fa148_0) rfl ?_
   refine D.pure rfl (S.move rfl) rfl ?_
   refine D.pure rfl (S.move rfl) rfl ?_
   refine D.seg (by decide) ?_
   refine W.still rfl (S.load 0 (k := 0) rfl rfl rfl Tryd.isAgg22) rfl ?_
   refine W.pure rfl (S.slLH rfl rfl rfl (by omega) (by omega) Tryd.underlying22 Tryd.sizeOf5) rfl ?_
   refine W.reslot (v := .slice (some ⟨hb, dst, none⟩) (min (wr + len) 32768 - dst) (32768 - dst)) (slice_to (by rw [part, if_neg (by omega)]; omega) (by omega) (by omega)) ?_
   refine W.still rfl (S.load 0 (k := 0) rfl rfl rfl Tryd.isAgg22) rfl ?_
   refine W.pure rfl (S.slLH rfl rfl rfl (by omega) (by omega) Tryd.underlying22 Tryd.sizeOf5) rfl ?_
   refine W.reslot (v := .slice (some ⟨hb, dst - m, none⟩) m (32768 - (dst - m))) (slice_to (by rw [part, if_neg (by omega)]; omega) (by omega) (by omega)) ?_
   refine W.nil ?_
   refine D.one ?_
   refine O.loud1 rfl (X.copyW 1 (hb := hb) (dst := dst) (src := dst - m) rfl rfl rfl (by omega) (by omega)) rfl ?_; rintro _ _ ⟨rfl, rfl⟩; refine D.relist (L2 := [_, _]) rfl ?_
   refine D.pure rfl (S.add rfl rfl (N.add64 (by omega))) rfl ?_
   refine D.pure rfl (S.assign rfl) rfl ?_
   refine D.keep [0, 7, 8, 9, 10, 55] (env1 := [(0, _), (7, _), (8, _), (9, _), (10, _), (55, _)]) rfl ?_
   refine ⟨_, ?_, h.take dst ++ (h.drop (dst - m)).take (Nat.min m (min (wr + len) 32768 - dst)) ++ h.drop (dst + Nat.min m (min (wr + len) 32768 - dst)), dst + Nat.min m (min (wr + len) 32768 - dst), m + Nat.min m (min (wr + len) 32768 - dst), rfl, rfl, H2, hp2, by omega, by omega, by omega, by omega, by omega, (hmn3.imp (fun q => by rw [q]; exact Nat.dvd_add hdd hdd) (fun q => by omega)), rfl⟩; omega
  ·
   refine C.exit rfl ?_
   refine C.seq ?_
   refine C.region ?_
   refine E.pure (S.move rfl) rfl ?_
   refine E.pure (S.move rfl) rfl ?_
   refine E.pure (S.nilPtr rfl) rfl ?_
   refine E.pure (S.field rfl fa148_1) rfl ?_
   refine E.loud0 (X.store 0 (k := 1) rfl rfl rfl rfl rfl Tryd.sizeOf3) ?_; rintro _ _ ⟨rfl, rfl⟩; refine E.relist (L2 := [_, _]) rfl ?_
   refine E.keep [0, 7, 8, 9, 10, 55] (env1 := [(0, _), (7, _), (8, _), (9, _), (10, _), (55, _)]) rfl ?_
   refine C.seq ?_
   refine C.region ?_
   refine E.pure (S.move rfl) rfl ?_
   refine E.pure (S.move rfl) rfl ?_
   refine E.pure (S.sub rfl rfl (N.sub64 (by omega) (by omega))) rfl ?_
   refine E.pure (S.assign rfl) rfl ?_
   refine E.keep [0, 6, 7, 8, 9, 10, 55] (env1 := [(0, _), (6, _), (7, _), (8, _), (9, _), (10, _), (55, _)]) rfl ?_
   refine C.ret ?_
   have hde : dst = min (wr + len) 32768 := by omega
   refine ⟨_, rfl, dst - wr, h, rfl, by omega, by omega, ?_, ?_⟩
   · rw [show wr + (dst - wr) = dst by omega]; exact H
   · rw [show wr + (dst - wr) = dst by omega]; rfl
end Go.Eng
namespace Go.Eng
open Go Go.Proofs
set_option maxRecDepth 100000

/-- What is to be read out of the window. -/
def TR (hb : Nat) (h pend : List UInt8) (v : Value) : Prop := ∃ a c, v = .slice a pend.length c ∧ pend.length ≤ 32768 ∧ (pend = [] ∨ ∃ off, a = some ⟨hb, off, none⟩ ∧ (h.drop off).take pend.length = pend ∧ pend.length ≤ c)

/-- The window: gv bytes of out are given, those of pend wait in toRead, the others from rd to wr. -/
structure WinSt (fb hb gv : Nat) (out pend : List UInt8) (trv : Value) (h : List UInt8) (wr rd : Nat) (full : Bool) (A B : Frag) : Prop where
  hist : Hist h wr full out
  rdLe : rd ≤ wr
  wrLt : wr < 32768
  sum : gv + pend.length + (wr - rd) = out.length
  pendIs : pend = (out.drop gv).take pend.length
  tr : TR hb h pend trv
  isA : A = ⟨fb, 1037, [.slice (some ⟨hb, 0, none⟩) 32768 32768, .int .i64 ((wr : Nat) : Int), .int .i64 ((rd : Nat) : Int), .bool full]⟩
  isB : B = ⟨hb, 0, bytesV h⟩

/-- The tail of a decompressor. -/
def ptF (fb : Nat) (step : Nat) (ss : Nat) (fin : Bool) (err trv hl hd : Value) (cl cd : Nat) : Frag :=
  ⟨fb, 1045, [.func (.func step) #[] #[], .int .i64 ((ss : Nat) : Int), .bool fin, err, trv, hl, hd, .int .i64 ((cl : Nat) : Int), .int .i64 ((cd : Nat) : Int)]⟩

/-- Its head: the source and the bits. -/
structure HeadSt {K : Known} {ea : Fin 5 → Addr} (src : Src K ea) (dt : List UInt8) (fb p q nb : Nat) (x1 x2 x3 A : Frag) : Prop where
  at_ : src.At (dt.drop q) x1 x2 x3
  is : ∃ b ro, BitsIn dt p q b nb ∧ A = ⟨fb, 0, [.iface src.t src.v, .pointer none, .int .i64 ro, .int .u32 ((b : Nat) : Int), .int .u64 ((nb : Nat) : Int)]⟩

/-- A copy that was cut off by the window's end, if any. -/
def SsOk (ss cl cd hs : Nat) : Prop := ss = 0 ∨ (ss = 1 ∧ cl = 0 ∧ 1 ≤ cd ∧ cd ≤ hs)

/-- Within a block of codes. -/
def SymSt {K : Known} {ea : Fin 5 → Addr} (src : Src K ea) (dt : List UInt8) (fb hb : Nat) (R : ResR) (gv : Nat) (pend : List UInt8) (t : Tabs) (last : Bool) (hl hd : Value) (step : Nat) (x1 x2 x3 A T W H : Frag) : Prop :=
  ∃ p q nb out trv h wr rd full ss cl cd, HeadSt src dt fb p q nb x1 x2 x3 A ∧ nb < t.mn + 8 ∧ WinSt fb hb gv out pend trv h wr rd full W H ∧ T = ptF fb step ss last .nilIface trv hl hd cl cd ∧
    ((SsOk ss cl cd (hsize wr full) ∧ R = run dt (.sym last t) out p) ∨ (ss = 1 ∧ cl ≤ 258 ∧ 1 ≤ cd ∧ cd ≤ hsize wr full ∧ R = run dt (.sym last t) (copyN out cd cl) p))

/-- Ahead of a block. -/
def NextSt {K : Known} {ea : Fin 5 → Addr} (src : Src K ea) (dt : List UInt8) (fb hb : Nat) (R : ResR) (gv : Nat) (pend : List UInt8) (p : Nat) (x1 x2 x3 A T W H : Frag) : Prop :=
  ∃ q nb out trv h wr rd full ss fin hl hd cl cd, HeadSt src dt fb p q nb x1 x2 x3 A ∧ nb < 8 ∧ WinSt fb hb gv out pend trv h wr rd full W H ∧ T = ptF fb 67 ss fin .nilIface trv hl hd cl cd ∧ SsOk ss cl cd (hsize wr full) ∧ R = run dt .next out p

/-- How the end of it all is told. -/
def EndOk {K : Known} {ea : Fin 5 → Addr} (src : Src K ea) (dt : List UInt8) (e : EndR) (er : Er) (x1 x2 x3 : Frag) : Prop :=
  (∃ q, e = .done q ∧ er = .eof ∧ q ≤ dt.length ∧ src.At (dt.drop q) x1 x2 x3) ∨ (e = .bad ∧ Bad5 er ∧ ∃ l, src.At l x1 x2 x3)

/-- At the end. -/
def EndSt {K : Known} {ea : Fin 5 → Addr} (src : Src K ea) (dt : List UInt8) (fb hb : Nat) (R : ResR) (gv : Nat) (pend : List UInt8) (x1 x2 x3 A T W H : Frag) : Prop :=
  ∃ out e er trv h wr rd full, EndOk src dt e er x1 x2 x3 ∧ (∃ a b c, A = ⟨fb, 0, [.iface src.t src.v, .pointer none, a, b, c]⟩) ∧ WinSt fb hb gv out pend trv h wr rd full W H ∧ (∃ a b c d f g i, T = ⟨fb, 1045, [a, b, c, Er.val ea er, trv, d, f, g, i]⟩) ∧ R = (out, e) ∧ (pend = [] ∨ rd = wr)

theorem TR.nil (hb : Nat) (h : List UInt8) (a : Option Addr) (c : Nat) : TR hb h [] (.slice a 0 c) := ⟨a, c, rfl, by decide, .inl rfl⟩

/-- Bytes that are written into the window. -/
theorem WinSt.write {fb hb gv : Nat} {out : List UInt8} {trv : Value} {h : List UInt8} {wr rd : Nat} {full : Bool} {A B : Frag} (W : WinSt fb hb gv out [] trv h wr rd full A B) {h2 : List UInt8} {n : Nat} {out2 : List UInt8} (H : Hist h2 (wr + n) full out2) (hn : wr + n < 32768) (hl : out2.length = out.length + n) :
    WinSt fb hb gv out2 [] trv h2 (wr + n) rd full ⟨fb, 1037, [.slice (some ⟨hb, 0, none⟩) 32768 32768, .int .i64 ((wr + n : Nat) : Int), .int .i64 ((rd : Nat) : Int), .bool full]⟩ ⟨hb, 0, bytesV h2⟩ := by
  have h1 := W.rdLe
  have h3 := W.sum
  simp only [List.length_nil] at h3
  obtain ⟨a, c, e, _, _⟩ := W.tr
  exact ⟨H, by omega, hn, by simp only [List.length_nil]; omega, by simp, ⟨a, c, e, by decide, .inl rfl⟩, rfl, rfl⟩

/-- A flush: what was written waits. -/
theorem WinSt.flush {fb hb gv : Nat} {out : List UInt8} {h : List UInt8} {wr rd : Nat} {full : Bool} {v : Value} {A : Frag} (H : Hist h wr full out) (hrd : rd ≤ wr) (hsum : gv + (wr - rd) = out.length) (hf : FlushEnd fb 1037 hb wr rd full v A) :
    ∃ wr2 full2, WinSt fb hb gv out (out.drop gv) v h wr2 wr2 full2 A ⟨hb, 0, bytesV h⟩ ∧ (out.drop gv).length = wr - rd ∧ hsize wr full ≤ hsize wr2 full2 := by
  have hs := H.size_le
  have hw := H.wrLe
  obtain ⟨⟨a, c, rfl, ha⟩, hlt, hA⟩ := hf
  have hlen : (out.drop gv).length = wr - rd := by rw [List.length_drop]; omega
  have htr : TR hb h (out.drop gv) (.slice (some a) (wr - rd) c) := by
    refine ⟨some a, c, by rw [hlen], by omega, ?_⟩
    rcases Nat.lt_or_ge rd wr with h1 | h1
    · right
      refine ⟨rd, by rw [(ha h1).1], ?_, by rw [hlen]; exact (ha h1).2⟩
      rw [hlen, H.seg (src := rd) (n := wr - rd) (by omega), show out.length - (wr - rd) = gv by omega, List.take_of_length_le (by omega)]
    · left
      exact List.eq_nil_of_length_eq_zero (by omega)
  have hp : out.drop gv = (out.drop gv).take (out.drop gv).length := by rw [List.take_length]
  rcases hA with ⟨h1, rfl⟩ | ⟨h1, rfl⟩
  · exact ⟨wr, full, ⟨H, Nat.le_refl _, h1, by omega, hp, htr, rfl, rfl⟩, hlen, Nat.le_refl _⟩
  · subst h1
    exact ⟨0, true, ⟨H.wrap, Nat.le_refl _, by decide, by omega, hp, htr, rfl, rfl⟩, hlen, by simp [hsize]⟩
end Go.Eng
namespace Go.Eng
open Go Go.Proofs
set_option maxRecDepth 100000

theorem histSize_spec {K : Known} (b o hb wr rd : Nat) (full : Bool) (h1 : rd ≤ wr) (h2 : wr ≤ 32768) : Fn Tryd.prog K 85 #[.pointer (some ⟨b, o, none⟩)] ([⟨b, o, [.slice (some ⟨hb, 0, none⟩) 32768 32768, .int .i64 (wr : Int), .int .i64 (rd : Int), .bool full]⟩]) (fun v L => v = .int .i64 ((if full then 32768 else wr : Nat) : Int) ∧ L = [⟨b, o, [.slice (some ⟨hb, 0, none⟩) 32768 32768, .int .i64 (wr : Int), .int .i64 (rd : Int), .bool full]⟩]) := by
 refine Fn.intro (args := [.pointer (some ⟨b, o, none⟩)]) (RR := Ret1 2 _) Tryd.func85 rfl rfl Tryd.ntmps85 (res1 Tryd.results85) ?_
 refine C.reenv (env2 := [(0, .pointer (some ⟨b, o, none⟩))]) rfl ?_
 refine C.seq ?_
 refine C.region ?_
 refine E.pure (S.assign rfl) rfl ?_
 refine E.keep [0, 2] (env1 := [(0, _), (2, _)]) rfl ?_
 refine C.seq ?_
 refine C.seq ?_
 refine C.region ?_
 refine E.pure (S.move rfl) rfl ?_
 refine E.pure (S.nilPtr rfl) rfl ?_
 refine E.pure (S.field rfl fa148_3) rfl ?_
 refine E.still (S.load 0 (k := 3) rfl rfl rfl Tryd.isAgg4) rfl ?_
 refine E.keep [0, 2, 6] (env1 := [(0, _), (2, _), (6, _)]) rfl ?_
 first | refine C.ifp rfl (fun h6 => ?_) (fun h6 => ?_) | refine C.cond rfl (fun h6 => ?_) (fun h6 => ?_)
 ·
  refine C.seq ?_
  refine C.region ?_
  refine E.pure (S.move rfl) rfl ?_
  refine E.pure (S.nilPtr rfl) rfl ?_
  refine E.pure (S.field rfl fa148_0) rfl ?_
  refine E.still (S.load 0 (k := 0) rfl rfl rfl Tryd.isAgg22) rfl ?_
  refine E.pure (S.lenSl rfl Tryd.underlying22) rfl ?_
  refine E.pure (S.assign rfl) rfl ?_
  refine E.keep [0, 2, 6] (env1 := [(0, _), (2, _), (6, _)]) rfl ?_
  refine C.ret ?_
  first | exact ⟨_, rfl, by simp_all, rfl⟩
 ·
  refine C.skip ?_
  refine C.seq ?_
  refine C.region ?_
  refine E.pure (S.move rfl) rfl ?_
  refine E.pure (S.nilPtr rfl) rfl ?_
  refine E.pure (S.field rfl fa148_1) rfl ?_
  refine E.still (S.load 0 (k := 1) rfl rfl rfl Tryd.isAgg3) rfl ?_
  refine E.pure (S.assign rfl) rfl ?_
  refine E.keep [0, 2, 6] (env1 := [(0, _), (2, _), (6, _)]) rfl ?_
  refine C.ret ?_
  first | exact ⟨_, rfl, by simp_all, rfl⟩
theorem availRead_spec {K : Known} (b o hb wr rd : Nat) (full : Bool) (h1 : rd ≤ wr) (h2 : wr ≤ 32768) : Fn Tryd.prog K 88 #[.pointer (some ⟨b, o, none⟩)] ([⟨b, o, [.slice (some ⟨hb, 0, none⟩) 32768 32768, .int .i64 (wr : Int), .int .i64 (rd : Int), .bool full]⟩]) (fun v L => v = .int .i64 ((wr - rd : Nat) : Int) ∧ L = [⟨b, o, [.slice (some ⟨hb, 0, none⟩) 32768 32768, .int .i64 (wr : Int), .int .i64 (rd : Int), .bool full]⟩]) := by
 refine Fn.intro (args := [.pointer (some ⟨b, o, none⟩)]) (RR := Ret1 2 _) Tryd.func88 rfl rfl Tryd.ntmps88 (res1 Tryd.results88) ?_
 refine C.reenv (env2 := [(0, .pointer (some ⟨b, o, none⟩))]) rfl ?_
 refine C.seq ?_
 refine C.region ?_
 refine E.pure (S.assign rfl) rfl ?_
 refine E.keep [0, 2] (env1 := [(0, _), (2, _)]) rfl ?_
 refine C.seq ?_
 refine C.draw [0, 1, 2, 4, 0, 16, 32, 64, 136, 511] (.pure 0 240 (.pure 1 241 (.pure 2 243 (.pure 4 15 (.pure 5 31 (.pure 6 63 (.seg [(3, 247), (7, 127), (8, 255), (9, 511)] .done))))))) mixed (by decide +kernel) ?_
 refine D.pure rfl (S.move rfl) rfl ?_
 refine D.pure rfl (S.nilPtr rfl) rfl ?_
 refine D.pure rfl (S.field rfl fa148_1) rfl ?_
 refine D.pure rfl (S.move rfl) rfl ?_
 refine D.pure rfl (S.nilPtr rfl) rfl ?_
 refine D.pure rfl (S.field rfl fa148_2) rfl ?_
 refine D.seg (by decide) ?_
 refine W.still rfl (S.load 0 (k := 1) rfl rfl rfl Tryd.isAgg3) rfl ?_
 refine W.still rfl (S.load 0 (k := 2) rfl rfl rfl Tryd.isAgg3) rfl ?_
 refine W.pure rfl (S.sub rfl rfl (N.sub64 (by omega) (by omega))) rfl ?_
 refine W.pure rfl (S.assign rfl) rfl ?_
 refine W.nil ?_
 refine D.keep [2] (env1 := [(2, _)]) rfl ?_
 refine C.ret ?_
 exact ⟨_, rfl, rfl, rfl⟩
theorem availWrite_spec {K : Known} (b o hb wr rd : Nat) (full : Bool) (h1 : rd ≤ wr) (h2 : wr ≤ 32768) : Fn Tryd.prog K 83 #[.pointer (some ⟨b, o, none⟩)] ([⟨b, o, [.slice (some ⟨hb, 0, none⟩) 32768 32768, .int .i64 (wr : Int), .int .i64 (rd : Int), .bool full]⟩]) (fun v L => v = .int .i64 ((32768 - wr : Nat) : Int) ∧ L = [⟨b, o, [.slice (some ⟨hb, 0, none⟩) 32768 32768, .int .i64 (wr : Int), .int .i64 (rd : Int), .bool full]⟩]) := by
 refine Fn.intro (args := [.pointer (some ⟨b, o, none⟩)]) (RR := Ret1 2 _) Tryd.func83 rfl rfl Tryd.ntmps83 (res1 Tryd.results83) ?_
 refine C.reenv (env2 := [(0, .pointer (some ⟨b, o, none⟩))]) rfl ?_
 refine C.seq ?_
 refine C.region ?_
 refine E.pure (S.assign rfl) rfl ?_
 refine E.keep [0, 2] (env1 := [(0, _), (2, _)]) rfl ?_
 refine C.seq ?_
 refine C.draw [0, 1, 2, 4, 8, 0, 32, 64, 128, 272, 1023] (.pure 0 480 (.pure 1 481 (.pure 2 483 (.pure 5 31 (.pure 6 63 (.pure 7 127 (.seg [(3, 487), (4, 495), (8, 255), (9, 511), (10, 1023)] .done))))))) mixed (by decide +kernel) ?_
 refine D.pure rfl (S.move rfl) rfl ?_
 refine D.pure rfl (S.nilPtr rfl) rfl ?_
 refine D.pure rfl (S.field rfl fa148_0) rfl ?_
 refine D.pure rfl (S.move rfl) rfl ?_
 refine D.pure rfl (S.nilPtr rfl) rfl ?_
 refine D.pure rfl (S.field rfl fa148_1) rfl ?_
 refine D.seg (by decide) ?_
 refine W.still rfl (S.load 0 (k := 0) rfl rfl rfl Tryd.isAgg22) rfl ?_
 refine W.pure rfl (S.lenSl rfl Tryd.underlying22) rfl ?_
 refine W.still rfl (S.load 0 (k := 1) rfl rfl rfl Tryd.isAgg3) rfl ?_
 refine W.pure rfl (S.sub rfl rfl (N.sub64 (by omega) (by omega))) rfl ?_
 refine W.pure rfl (S.assign rfl) rfl ?_
 refine W.nil ?_
 refine D.keep [2] (env1 := [(2, _)]) rfl ?_
 refine C.ret ?_
 exact ⟨_, rfl, rfl, rfl⟩
end Go.Eng
namespace Go.Eng
open Go Go.Proofs
set_option maxRecDepth 100000

theorem flush_one {b o hb wr rd : Nat} {full : Bool} {v : Value} {A : Frag} (h : FlushEnd b o hb wr rd full v A) : one v = true := by
  obtain ⟨⟨a, c, rfl, _⟩, _⟩ := h; rfl

theorem finishBlock_spec {K : Known} {ea : Fin 5 → Addr} (hs : Sents K ea) (fb hb wr rd : Nat) (full last : Bool) (h1 : rd ≤ wr) (h2 : wr < 32768) (sv ss ev trv hl hd cl cd : Value) : Fn Tryd.prog K 78 #[.pointer (some ⟨fb, 0, none⟩)] ([⟨fb, 1037, [.slice (some ⟨hb, 0, none⟩) 32768 32768, .int .i64 (((wr) : Nat) : Int), .int .i64 (((rd) : Nat) : Int), .bool full]⟩, ⟨fb, 1045, [sv, ss, .bool last, ev, trv, hl, hd, cl, cd]⟩]) (fun r L => r = .tuple #[] ∧ ∃ ev2 tr2 A, L = [A, ⟨fb, 1045, [.func (.func 67) #[] #[], ss, .bool last, ev2, tr2, hl, hd, cl, cd]⟩] ∧ ((last = false ∧ ev2 = ev ∧ tr2 = trv ∧ A = ⟨fb, 1037, [.slice (some ⟨hb, 0, none⟩) 32768 32768, .int .i64 (((wr) : Nat) : Int), .int .i64 (((rd) : Nat) : Int), .bool full]⟩) ∨ (last = true ∧ ev2 = Er.val ea .eof ∧ ((rd = wr ∧ tr2 = trv ∧ A = ⟨fb, 1037, [.slice (some ⟨hb, 0, none⟩) 32768 32768, .int .i64 (((wr) : Nat) : Int), .int .i64 (((rd) : Nat) : Int), .bool full]⟩) ∨ (rd < wr ∧ FlushEnd fb 1037 hb wr rd full tr2 A))))) := by
 refine Fn.intro (args := [.pointer (some ⟨fb, 0, none⟩)]) (RR := Ret0 _) Tryd.func78 rfl rfl Tryd.ntmps78 (res0 Tryd.results78) ?_
 refine C.reenv (env2 := [(0, .pointer (some ⟨fb, 0, none⟩))]) rfl ?_
 refine C.seq ?_
 refine C.seq ?_
 refine C.region ?_
 refine E.pure (S.move rfl) rfl ?_
 refine E.pure (S.nilPtr rfl) rfl ?_
 refine E.pure (S.field rfl fa153_13) rfl ?_
 refine E.still (S.load 1 (k := 2) rfl rfl rfl Tryd.isAgg4) rfl ?_
 refine E.keep [0, 5] (env1 := [(0, _), (5, _)]) rfl ?_
 first | refine C.ifp rfl (fun h5 => ?_) (fun h5 => ?_) | refine C.cond rfl (fun h5 => ?_) (fun h5 => ?_)
 ·
  have hl5 : last = true := by assumption
  refine C.seq ?_
  refine C.seq ?_
  refine C.region ?_
  refine E.pure (S.move rfl) rfl ?_
  refine E.pure (S.nilPtr rfl) rfl ?_
  refine E.pure (S.field rfl fa153_9) rfl ?_
  refine E.loud1 (OpX.pick [0] (F := [_]) rfl (X.call rfl Tryd.call88 (availRead_spec fb 1037 hb wr rd full h1 (by omega)))) rfl ?_; rintro _ _ ⟨_, ⟨rfl, rfl⟩, rfl⟩; refine E.relist (L2 := [_, _]) rfl ?_
  refine E.pure (S.gt (b := ((0 : Nat) : Int)) rfl rfl) rfl ?_
  refine E.keep [0, 5, 10] (env1 := [(0, _), (5, _), (10, _)]) rfl ?_
  refine C.ifp rfl (fun h10 => ?_) (fun h10 => ?_)
  ·
   refine C.region ?_
   refine E.pure (S.move rfl) rfl ?_
   refine E.pure (S.move rfl) rfl ?_
   refine E.pure (S.nilPtr rfl) rfl ?_
   refine E.pure (S.field rfl fa153_9) rfl ?_
   refine E.loud1 (OpX.pick [0] (F := [_]) rfl (X.call rfl Tryd.call77 (readFlush_spec fb 1037 hb wr rd full h1 (by omega)))) rfl ?_; rintro _ _ ⟨_, ⟨A, hfl, rfl⟩, rfl⟩; refine E.relist (L2 := [_, _]) rfl ?_
   refine E.pure (S.nilPtr rfl) rfl ?_
   refine E.pure (S.field rfl fa153_15) rfl ?_
   refine E.loud0 (X.store 1 (k := 4) rfl rfl rfl (flush_one hfl) rfl Tryd.sizeOf22) ?_; rintro _ _ ⟨rfl, rfl⟩; refine E.relist (L2 := [_, _]) rfl ?_
   refine E.keep [0, 5, 10] (env1 := [(0, _), (5, _), (10, _)]) rfl ?_
   refine C.region ?_
   refine E.pure (S.move rfl) rfl ?_
   refine E.still (S.loadBase rfl hs.g0 Tryd.isAgg59) rfl ?_
   refine E.pure (S.nilPtr rfl) rfl ?_
   refine E.pure (S.field rfl fa153_14) rfl ?_
   refine E.loud0 (X.store 1 (k := 3) rfl rfl rfl (one_er (a := ea) .eof) rfl Tryd.sizeOf59) ?_; rintro _ _ ⟨rfl, rfl⟩; refine E.relist (L2 := [_, _]) rfl ?_
   refine E.keep [0, 5, 10] (env1 := [(0, _), (5, _), (10, _)]) rfl ?_
   refine C.region ?_
   refine E.pure (S.move rfl) rfl ?_
   refine E.pure (S.nilPtr rfl) rfl ?_
   refine E.pure (S.field rfl fa153_11) rfl ?_
   refine E.loud0 (X.store 1 (k := 0) rfl rfl rfl rfl rfl Tryd.sizeOf150) ?_; rintro _ _ ⟨rfl, rfl⟩; refine E.relist (L2 := [_, _]) rfl ?_
   refine E.keep [0, 5, 10] (env1 := [(0, _), (5, _), (10, _)]) rfl ?_
   first | exact ⟨rfl, _, _, _, rfl, .inl ⟨hl5, rfl, rfl, rfl⟩⟩ | exact ⟨rfl, _, _, _, rfl, .inr ⟨hl5, rfl, .inr ⟨by omega, hfl⟩⟩⟩ | exact ⟨rfl, _, _, _, rfl, .inr ⟨hl5, rfl, .inl ⟨by omega, rfl, rfl⟩⟩⟩
  ·
   refine C.skip ?_
   refine C.region ?_
   refine E.pure (S.move rfl) rfl ?_
   refine E.still (S.loadBase rfl hs.g0 Tryd.isAgg59) rfl ?_
   refine E.pure (S.nilPtr rfl) rfl ?_
   refine E.pure (S.field rfl fa153_14) rfl ?_
   refine E.loud0 (X.store 1 (k := 3) rfl rfl rfl (one_er (a := ea) .eof) rfl Tryd.sizeOf59) ?_; rintro _ _ ⟨rfl, rfl⟩; refine E.relist (L2 := [_, _]) rfl ?_
   refine E.keep [0, 5, 10] (env1 := [(0, _), (5, _), (10, _)]) rfl ?_
   refine C.region ?_
   refine E.pure (S.move rfl) rfl ?_
   refine E.pure (S.nilPtr rfl) rfl ?_
   refine E.pure (S.field rfl fa153_11) rfl ?_
   refine E.loud0 (X.store 1 (k := 0) rfl rfl rfl rfl rfl Tryd.sizeOf150) ?_; rintro _ _ ⟨rfl, rfl⟩; refine E.relist (L2 := [_, _]) rfl ?_
   refine E.keep [0, 5, 10] (env1 := [(0, _), (5, _), (10, _)]) rfl ?_
   first | exact ⟨rfl, _, _, _, rfl, .inl ⟨hl5, rfl, rfl, rfl⟩⟩ | exact ⟨rfl, _, _, _, rfl, .inr ⟨hl5, rfl, .inr ⟨by omega, hfl⟩⟩⟩ | exact ⟨rfl, _, _, _, rfl, .inr ⟨hl5, rfl, .inl ⟨by omega, rfl, rfl⟩⟩⟩
 ·
  have hl5 : last = false := by simpa using h5
  refine C.skip ?_
  refine C.region ?_
  refine E.pure (S.move rfl) rfl ?_
  refine E.pure (S.nilPtr rfl) rfl ?_
  refine E.pure (S.field rfl fa153_11) rfl ?_
  refine E.loud0 (X.store 1 (k := 0) rfl rfl rfl rfl rfl Tryd.sizeOf150) ?_; rintro _ _ ⟨rfl, rfl⟩; refine E.relist (L2 := [_, _]) rfl ?_
  refine E.keep [0, 5] (env1 := [(0, _), (5, _)]) rfl ?_
  exact ⟨rfl, _, _, _, rfl, .inl ⟨hl5, rfl, rfl, rfl⟩⟩
end Go.Eng
namespace Go.Eng
set_option maxRecDepth 100000

theorem symR_some {lens : List Nat} {mn : Nat} {D : List UInt8} {p v : Nat} (h : symR lens mn D p = some v) : Mat lens v (bitsAt D p) ∧ p + lenOf lens v ≤ 8 * D.length := by
  unfold symR at h
  split at h
  · cases h
  · obtain ⟨h1, h2⟩ := findS_some.1 h
    have := h1.1
    unfold left at h2
    exact ⟨h1, by omega⟩

section
variable {D : List UInt8} {last : Bool} {t : Tabs} {out : List UInt8} {p v : Nat}

theorem run_none (h : symR t.lit t.mn D p = none) : run D (.sym last t) out p = (out, .bad) := by rw [run]; simp only [h]

theorem run_lit (h : symR t.lit t.mn D p = some v) (hv : v < 256) : run D (.sym last t) out p = run D (.sym last t) (out ++ [UInt8.ofNat v]) (p + lenOf t.lit v) := by
  obtain ⟨h1, h2⟩ := symR_some h
  have h3 := h1.1
  rw [run]
  simp only [h]
  rw [if_pos hv, dif_pos ⟨by omega, h2⟩]

theorem run_eob (h : symR t.lit t.mn D p = some 256) : (last = true → run D (.sym last t) out p = (out, .done ((p + lenOf t.lit 256 + 7) / 8))) ∧ (last = false → run D (.sym last t) out p = run D .next out (p + lenOf t.lit 256)) := by
  obtain ⟨h1, h2⟩ := symR_some h
  have h3 := h1.1
  refine ⟨fun e => ?_, fun e => ?_⟩
  · subst e
    rw [run]; simp only [h]
    rw [if_neg (by decide), if_pos trivial, if_pos trivial]
  · subst e
    obtain ⟨r, hr⟩ : ∃ r, r = run D .next out (p + lenOf t.lit 256) := ⟨_, rfl⟩
    rw [← hr, run]; simp only [h]
    rw [if_neg (by decide), if_pos trivial, if_neg (by decide), hr]
    exact dif_pos ⟨by omega, h2⟩

theorem run_big (h : symR t.lit t.mn D p = some v) (hv : 286 ≤ v) : run D (.sym last t) out p = (out, .bad) := by
  rw [run]
  simp only [h]
  rw [if_neg (by omega), if_neg (by omega), if_pos hv]

theorem run_copyR (h : symR t.lit t.mn D p = some v) (h1 : 257 ≤ v) (h2 : v < 286) : run D (.sym last t) out p = match copyR t D v (p + lenOf t.lit v) with
    | none => (out, .bad)
    | some (n, d, p2) => if out.length < d then (out, .bad) else if p < p2 ∧ p2 ≤ 8 * D.length then run D (.sym last t) (copyN out d n) p2 else (out, .bad) := by
  rw [run]
  simp only [h]
  rw [if_neg (by omega), if_neg (by omega), if_neg (by omega)]
  split
  · rename_i heq; rw [heq]
  · rename_i heq; rw [heq]
    simp only
    split
    · rfl
    · split
      · rfl
      · rfl

theorem run_bad (h : symR t.lit t.mn D p = some v) (h1 : 257 ≤ v) (h2 : v < 286) (hc : copyR t D v (p + lenOf t.lit v) = none) : run D (.sym last t) out p = (out, .bad) := by rw [run_copyR h h1 h2, hc]

theorem run_far {n d p2 : Nat} (h : symR t.lit t.mn D p = some v) (h1 : 257 ≤ v) (h2 : v < 286) (hc : copyR t D v (p + lenOf t.lit v) = some (n, d, p2)) (hd : out.length < d) : run D (.sym last t) out p = (out, .bad) := by
  rw [run_copyR h h1 h2, hc]; simp only; rw [if_pos hd]

theorem run_copy {n d p2 : Nat} (h : symR t.lit t.mn D p = some v) (h1 : 257 ≤ v) (h2 : v < 286) (hc : copyR t D v (p + lenOf t.lit v) = some (n, d, p2)) (hd : d ≤ out.length) (hp : p < p2) (hl : p2 ≤ 8 * D.length) : run D (.sym last t) out p = run D (.sym last t) (copyN out d n) p2 := by
  rw [run_copyR h h1 h2, hc]; simp only; rw [if_neg (by omega), if_pos ⟨hp, hl⟩]

/-! ### A copy's parts -/
theorem copyR_more (h : left D p < moreL.getD (v - 257) 0) : copyR t D v p = none := by unfold copyR; rw [if_pos h]

theorem copyR_nodist (h : ¬ left D p < moreL.getD (v - 257) 0) (hd : symR t.dist 0 D (p + moreL.getD (v - 257) 0) = none) : copyR t D v p = none := by
  unfold copyR; rw [if_neg h]; simp only [hd]

variable {d : Nat}
theorem copyR_30 (h : ¬ left D p < moreL.getD (v - 257) 0) (hd : symR t.dist 0 D (p + moreL.getD (v - 257) 0) = some d) (h30 : 30 ≤ d) : copyR t D v p = none := by
  unfold copyR; rw [if_neg h]; simp only [hd]; rw [if_pos h30]

theorem copyR_fur (h : ¬ left D p < moreL.getD (v - 257) 0) (hd : symR t.dist 0 D (p + moreL.getD (v - 257) 0) = some d) (h30 : d < 30) (hf : left D (p + moreL.getD (v - 257) 0 + lenOf t.dist d) < furL.getD d 0) : copyR t D v p = none := by
  unfold copyR; rw [if_neg h]; simp only [hd]; rw [if_neg (by omega), if_pos hf]

theorem copyR_some (h : ¬ left D p < moreL.getD (v - 257) 0) (hd : symR t.dist 0 D (p + moreL.getD (v - 257) 0) = some d) (h30 : d < 30) (hf : ¬ left D (p + moreL.getD (v - 257) 0 + lenOf t.dist d) < furL.getD d 0) :
    copyR t D v p = some (sizesL.getD (v - 257) 0 + takeB D p (moreL.getD (v - 257) 0), farL.getD d 0 + takeB D (p + moreL.getD (v - 257) 0 + lenOf t.dist d) (furL.getD d 0), p + moreL.getD (v - 257) 0 + lenOf t.dist d + furL.getD d 0) := by
  unfold copyR; rw [if_neg h]; simp only [hd]; rw [if_neg (by omega), if_neg hf]
end

/-! ### The tables of lengths and distances -/
theorem size_tab0 {v : Nat} (h1 : 257 ≤ v) (h2 : v < 265) : moreL.getD (v - 257) 0 = 0 ∧ sizesL.getD (v - 257) 0 = 1 * v - 254 := by
  have key : ∀ k, k < 8 → 0 ≤ k → moreL.getD k 0 = 0 ∧ sizesL.getD k 0 = 1 * (k + 257) - 254 := by decide
  have := key (v - 257) (by omega) (by omega)
  rw [show v - 257 + 257 = v by omega] at this
  exact this
theorem size_tab1 {v : Nat} (h1 : 265 ≤ v) (h2 : v < 269) : moreL.getD (v - 257) 0 = 1 ∧ sizesL.getD (v - 257) 0 = 2 * v - 519 := by
  have key : ∀ k, k < 12 → 8 ≤ k → moreL.getD k 0 = 1 ∧ sizesL.getD k 0 = 2 * (k + 257) - 519 := by decide
  have := key (v - 257) (by omega) (by omega)
  rw [show v - 257 + 257 = v by omega] at this
  exact this
theorem size_tab2 {v : Nat} (h1 : 269 ≤ v) (h2 : v < 273) : moreL.getD (v - 257) 0 = 2 ∧ sizesL.getD (v - 257) 0 = 4 * v - 1057 := by
  have key : ∀ k, k < 16 → 12 ≤ k → moreL.getD k 0 = 2 ∧ sizesL.getD k 0 = 4 * (k + 257) - 1057 := by decide
  have := key (v - 257) (by omega) (by omega)
  rw [show v - 257 + 257 = v by omega] at this
  exact this
theorem size_tab3 {v : Nat} (h1 : 273 ≤ v) (h2 : v < 277) : moreL.getD (v - 257) 0 = 3 ∧ sizesL.getD (v - 257) 0 = 8 * v - 2149 := by
  have key : ∀ k, k < 20 → 16 ≤ k → moreL.getD k 0 = 3 ∧ sizesL.getD k 0 = 8 * (k + 257) - 2149 := by decide
  have := key (v - 257) (by omega) (by omega)
  rw [show v - 257 + 257 = v by omega] at this
  exact this
theorem size_tab4 {v : Nat} (h1 : 277 ≤ v) (h2 : v < 281) : moreL.getD (v - 257) 0 = 4 ∧ sizesL.getD (v - 257) 0 = 16 * v - 4365 := by
  have key : ∀ k, k < 24 → 20 ≤ k → moreL.getD k 0 = 4 ∧ sizesL.getD k 0 = 16 * (k + 257) - 4365 := by decide
  have := key (v - 257) (by omega) (by omega)
  rw [show v - 257 + 257 = v by omega] at this
  exact this
theorem size_tab5 {v : Nat} (h1 : 281 ≤ v) (h2 : v < 285) : moreL.getD (v - 257) 0 = 5 ∧ sizesL.getD (v - 257) 0 = 32 * v - 8861 := by
  have key : ∀ k, k < 28 → 24 ≤ k → moreL.getD k 0 = 5 ∧ sizesL.getD k 0 = 32 * (k + 257) - 8861 := by decide
  have := key (v - 257) (by omega) (by omega)
  rw [show v - 257 + 257 = v by omega] at this
  exact this
theorem size_tab6 {v : Nat} (h1 : 285 ≤ v) (h2 : v < 286) : moreL.getD (v - 257) 0 = 0 ∧ sizesL.getD (v - 257) 0 = 258 := by
  have : v = 285 := by omega
  subst this; decide

theorem size_bound {D : List UInt8} {v p : Nat} (h1 : v < 286) (h2 : 257 ≤ v) : sizesL.getD (v - 257) 0 + takeB D p (moreL.getD (v - 257) 0) ≤ 258 ∧ moreL.getD (v - 257) 0 ≤ 5 := by
  have h := takeB_lt D p (moreL.getD (v - 257) 0)
  have key : ∀ k, k < 29 → sizesL.getD k 0 + 2 ^ moreL.getD k 0 ≤ 259 ∧ moreL.getD k 0 ≤ 5 := by decide
  have := key (v - 257) (by omega)
  omega

theorem far_tab : ∀ d, d < 30 → (d < 4 → furL.getD d 0 = 0 ∧ farL.getD d 0 = d + 1) ∧ (4 ≤ d → furL.getD d 0 = (d - 2) / 2 ∧ farL.getD d 0 = 2 ^ ((d - 2) / 2 + 1) + 1 + d % 2 * 2 ^ ((d - 2) / 2) ∧ (d - 2) / 2 ≤ 13) := by decide

theorem far_bound {D : List UInt8} {d p : Nat} (h1 : d < 30) : 1 ≤ farL.getD d 0 + takeB D p (furL.getD d 0) ∧ farL.getD d 0 + takeB D p (furL.getD d 0) ≤ 32768 := by
  have h := takeB_lt D p (furL.getD d 0)
  have key : ∀ k, k < 30 → 1 ≤ farL.getD k 0 ∧ farL.getD k 0 + 2 ^ furL.getD k 0 ≤ 32769 := by decide
  have := key d h1
  omega

/-! ### The fixed code of distances -/
theorem fix_first : firstC fixDist 5 = 0 := by decide
theorem fix_len {i : Nat} (h : i < 32) : lenOf fixDist i = 5 := by
  rw [lenOf, fixDist, List.getD_eq_getElem?_getD, List.getElem?_replicate, if_pos h]; rfl
theorem fix_code {i : Nat} (h : i < 32) : codeOf fixDist i = i := by
  rw [codeOf, fix_len h, fix_first, fixDist, List.take_replicate, List.count_replicate]
  simp; omega
theorem sym_fix {D : List UInt8} {p : Nat} (h : ¬ left D p < 5) : symR fixDist 0 D p = some (revB 5 (takeB D p 5)) ∧ revB 5 (takeB D p 5) < 32 := by
  have hlt : revB 5 (takeB D p 5) < 32 := revB_lt 5 _
  refine ⟨?_, hlt⟩
  unfold symR
  rw [if_neg (by omega)]
  refine findS_some.2 ⟨⟨by rw [fix_len hlt]; decide, ?_⟩, by rw [fix_len hlt]; omega⟩
  rw [fix_len hlt, fix_code hlt, takeB, revB_mod]
theorem sym_fix_none {D : List UInt8} {p : Nat} (h : left D p < 5) : symR fixDist 0 D p = none := by
  unfold symR
  rw [if_neg (by omega)]
  refine findS_none fun i hi => ?_
  have h1 := lenOf_lt hi.1
  rw [fixDist, List.length_replicate] at h1
  rw [fix_len h1]; exact h
end Go.Eng
namespace Go.Eng
open Go Go.Proofs
set_option maxRecDepth 100000

set_option maxHeartbeats 2000000
/-- How moreBits ends. -/
theorem moreBits_e {K : Known} {ea : Fin 5 → Addr} (hs : Sents K ea) (src : Src K ea) (x1 x2 x3 : Frag) (fb : Nat) (ro : Int) (dt : List UInt8) (p q b nb : Nat) (hA : src.At (dt.drop q) x1 x2 x3) (hB : BitsIn dt p q b nb) (hn : nb ≤ 24) :
    Fn Tryd.prog K 71 #[.pointer (some ⟨fb, 0, none⟩)] [x1, x2, x3, ⟨fb, 0, [.iface src.t src.v, .pointer none, .int .i64 (ro), .int .u32 (((b) : Nat) : Int), .int .u64 (((nb) : Nat) : Int)]⟩] fun r L => ∃ f1 f2 f3 e b2 nb2 ro2, r = Er.val ea e ∧ L = [f1, f2, f3, ⟨fb, 0, [.iface src.t src.v, .pointer none, .int .i64 (ro2), .int .u32 (((b2) : Nat) : Int), .int .u64 (((nb2) : Nat) : Int)]⟩] ∧
      ((e = .none ∧ src.At (dt.drop (q + 1)) f1 f2 f3 ∧ BitsIn dt p (q + 1) b2 nb2 ∧ nb2 = nb + 8) ∨ (Bad5 e ∧ q = dt.length ∧ ∃ l, src.At l f1 f2 f3)) := by
  refine (moreBits_spec hs src x1 x2 x3 fb (.pointer none) ro dt p q b nb hA hB hn).mono ?_
  rintro v L ⟨f1, f2, f3, ⟨hq, ro2, rfl, h1, h2, rfl⟩ | ⟨hq, ⟨e, he, rfl⟩, h1, rfl⟩⟩
  · exact ⟨_, _, _, _, _, _, _, rfl, rfl, .inl ⟨rfl, h1, h2, rfl⟩⟩
  · exact ⟨_, _, _, _, _, _, _, rfl, rfl, .inr ⟨he, hq, _, h1⟩⟩
/-- huffSym among other memory. -/
def SymE {K : Known} {ea : Fin 5 → Addr} (src : Src K ea) (dt : List UInt8) (p q nb : Nat) (lens : List Nat) (mn : Nat) (ev : Value) (e : Er) (vi : Int) (y1 y2 y3 : Frag) (a b c ev2 : Value) : Prop :=
  (e = .none ∧ ∃ v, vi = ((v : Nat) : Int) ∧ symR lens mn dt p = some v ∧ v < lens.length ∧ ∃ q2 b2 nb2 ro2, src.At (dt.drop q2) y1 y2 y3 ∧ BitsIn dt (p + lenOf lens v) q2 b2 nb2 ∧ nb2 ≤ 31 ∧ ((q2 = q ∧ nb2 + lenOf lens v = nb) ∨ nb2 + lenOf lens v < max mn (lenOf lens v) + 8) ∧ a = .int .i64 ro2 ∧ b = .int .u32 ((b2 : Nat) : Int) ∧ c = .int .u64 ((nb2 : Nat) : Int) ∧ ev2 = ev) ∨
  (Bad5 e ∧ symR lens mn dt p = none ∧ ∃ l, src.At l y1 y2 y3)
theorem huffSym_in {K : Known} {ea : Fin 5 → Addr} (hs : Sents K ea) (src : Src K ea) (x1 x2 x3 : Frag) (fb : Nat) (ro : Int) (s0 s1 s2 ev s4 s5 s6 s7 s8 : Value) (hb o : Nat) (dt : List UInt8) (p q b nb : Nat) (hA : src.At (dt.drop q) x1 x2 x3) (hB : BitsIn dt p q b nb) (hn : nb ≤ 31) (lens : List Nat) (mn : Nat) (hok : okLens lens) (h15 : ∀ s, lenOf lens s ≤ 15) (hmn : minL lens ≤ mn) (hm15 : mn ≤ 15)
    (LH G J : Frags) (hH : HufT lens mn hb o LH) :
    Fn Tryd.prog K 81 #[.pointer (some ⟨fb, 0, none⟩), .pointer (some ⟨hb, o, none⟩)] (x1 :: x2 :: x3 :: ⟨fb, 0, [.iface src.t src.v, .pointer none, .int .i64 (ro), .int .u32 (((b) : Nat) : Int), .int .u64 (((nb) : Nat) : Int)]⟩ :: ⟨fb, 1045, [s0, s1, s2, ev, s4, s5, s6, s7, s8]⟩ :: (G ++ (LH ++ J)))
      fun r L => ∃ e vi y1 y2 y3 a b c ev2, r = .tuple #[.int .i64 vi, Er.val ea e] ∧ SymE src dt p q nb lens mn ev e vi y1 y2 y3 a b c ev2 ∧ L = y1 :: y2 :: y3 :: ⟨fb, 0, [.iface src.t src.v, .pointer none, a, b, c]⟩ :: ⟨fb, 1045, [s0, s1, s2, ev2, s4, s5, s6, s7, s8]⟩ :: (G ++ (LH ++ J)) := by
  have h := Fn.frame (F := G ++ J) (huffSym_spec hs src x1 x2 x3 fb (.pointer none) ro s0 s1 s2 ev s4 s5 s6 s7 s8 hb o dt p q b nb hA hB hn lens mn hok h15 hmn hm15 LH hH)
  have pm : ∀ a b c d e : Frag, (a :: b :: c :: d :: e :: (G ++ (LH ++ J))).Perm ((a :: b :: c :: d :: e :: LH) ++ (G ++ J)) := fun a b c d e => by
    simp only [List.cons_append]
    refine .cons _ (.cons _ (.cons _ (.cons _ (.cons _ ?_))))
    rw [← List.append_assoc, ← List.append_assoc]
    exact List.perm_append_comm.append_right J
  refine Fn.sameR (Fn.perm (pm _ _ _ _ _) h) ?_
  rintro v L ⟨L1, ⟨y1, y2, y3, A, B, hS, rfl⟩, rfl⟩
  rcases hS with ⟨v, h1, h2, _, rfl, q2, b2, nb2, ro2, h3, h4, h5, h6, rfl, rfl⟩ | ⟨h1, ⟨e, v, he, rfl⟩, l, a, b, c, ev2, h3, rfl, rfl⟩
  · exact ⟨_, Same.perm (pm _ _ _ _ _).symm, _, _, _, _, _, _, _, _, _, rfl, .inl ⟨rfl, v, rfl, h1, h2, q2, b2, nb2, ro2, h3, h4, h5, h6, rfl, rfl, rfl, rfl⟩, rfl⟩
  · exact ⟨_, Same.perm (pm _ _ _ _ _).symm, _, _, _, _, _, _, _, _, _, rfl, .inr ⟨he, h1, l, h3⟩, rfl⟩
theorem huffSym_end {K : Known} {ea : Fin 5 → Addr} (hs : Sents K ea) (src : Src K ea) (x1 x2 x3 : Frag) (fb : Nat) (ro : Int) (s0 s1 s2 ev s4 s5 s6 s7 s8 : Value) (hb o : Nat) (dt : List UInt8) (p q b nb : Nat) (hA : src.At (dt.drop q) x1 x2 x3) (hB : BitsIn dt p q b nb) (hn : nb ≤ 31) (lens : List Nat) (mn : Nat) (hok : okLens lens) (h15 : ∀ s, lenOf lens s ≤ 15) (hmn : minL lens ≤ mn) (hm15 : mn ≤ 15)
    (LH G : Frags) (hH : HufT lens mn hb o LH) :
    Fn Tryd.prog K 81 #[.pointer (some ⟨fb, 0, none⟩), .pointer (some ⟨hb, o, none⟩)] (x1 :: x2 :: x3 :: ⟨fb, 0, [.iface src.t src.v, .pointer none, .int .i64 (ro), .int .u32 (((b) : Nat) : Int), .int .u64 (((nb) : Nat) : Int)]⟩ :: ⟨fb, 1045, [s0, s1, s2, ev, s4, s5, s6, s7, s8]⟩ :: (G ++ LH))
      fun r L => ∃ e vi y1 y2 y3 a b c ev2, r = .tuple #[.int .i64 vi, Er.val ea e] ∧ SymE src dt p q nb lens mn ev e vi y1 y2 y3 a b c ev2 ∧ L = y1 :: y2 :: y3 :: ⟨fb, 0, [.iface src.t src.v, .pointer none, a, b, c]⟩ :: ⟨fb, 1045, [s0, s1, s2, ev2, s4, s5, s6, s7, s8]⟩ :: (G ++ LH) := by
  have h := huffSym_in hs src x1 x2 x3 fb ro s0 s1 s2 ev s4 s5 s6 s7 s8 hb o dt p q b nb hA hB hn lens mn hok h15 hmn hm15 LH G [] hH
  rw [List.append_nil] at h
  exact h
theorem symR_min {lens : List Nat} {dt : List UInt8} {p : Nat} : symR lens (minL lens) dt p = symR lens 0 dt p := by
  unfold symR
  rw [if_neg (Nat.not_lt_zero _)]
  split
  · rename_i h
    refine (findS_none fun i hi => ?_).symm
    have h1 := lenOf_get (lenOf_lt hi.1)
    have h2 := (minL_spec lens).2.1 _ (List.getElem_mem (lenOf_lt hi.1)) (by have := hi.1; omega)
    omega
  · rfl
theorem min_15 {l : List Nat} (h : ∀ s, lenOf l s ≤ 15) : minL l ≤ 15 := by
  by_cases h0 : minL l = 0
  · omega
  · obtain ⟨i, hi, e⟩ := List.getElem_of_mem ((minL_spec l).2.2 h0)
    have := h i
    rw [lenOf_get hi, e] at this; exact this
theorem rev85 {x : Nat} (h : x < 32) : revB 8 (x * 8) = revB 5 x := by
  have e := revB_split 3 5 (x * 8)
  rw [show x * 8 / 2 ^ 3 = x by omega, ← revB_mod 3 (x * 8), show x * 8 % 2 ^ 3 = 0 by omega] at e
  have z : revB 3 0 = 0 := by decide
  rw [z] at e
  simpa using e
theorem mask_take {dt : List UInt8} {p q b nb n : Nat} (hB : BitsIn dt p q b nb) (hn : n ≤ nb) : b &&& (2 ^ n - 1) = takeB dt p n := by rw [Nat.and_two_pow_sub_one_eq_mod, (hB.take hn).1]
theorem or_two {x y n : Nat} (h : y < 2 ^ n) : x * 2 ^ n ||| y = x * 2 ^ n + y := by rw [← Nat.shiftLeft_eq, Nat.shiftLeft_add_eq_or_of_lt h]
/-- The table of a block's literals. -/
structure LitT (t : Tabs) (lb lo : Nat) (HL : Frags) : Prop where
  huf : HufT t.lit t.mn lb lo HL
  ok : okLens t.lit
  le15 : ∀ s, lenOf t.lit s ≤ 15
  min : minL t.lit ≤ t.mn
  mn15 : t.mn ≤ 15
  eob : lenOf t.lit 256 = 0 ∨ lenOf t.lit 256 = t.mn
  len : t.lit.length ≤ 320
/-- The table of its distances. -/
def DistT (t : Tabs) (hp : Option Addr) (HD : Frags) : Prop := (hp = none ∧ t.dist = fixDist ∧ HD = []) ∨ ∃ db dO, hp = some ⟨db, dO, none⟩ ∧ HufT t.dist (minL t.dist) db dO HD ∧ okLens t.dist ∧ (∀ s, lenOf t.dist s ≤ 15) ∧ t.dist.length ≤ 320
/-- How huffmanBlock ends. -/
def HbEnd {K : Known} {ea : Fin 5 → Addr} (src : Src K ea) (dt : List UInt8) (fb hb : Nat) (R : ResR) (gv p0 : Nat) (t : Tabs) (last : Bool) (hl hd : Value) (J L : Frags) : Prop :=
  ∃ y1 y2 y3 A T W H, L = y1 :: y2 :: y3 :: A :: T :: W :: H :: J ∧ ((∃ pend, pend ≠ [] ∧ SymSt src dt fb hb R gv pend t last hl hd 74 y1 y2 y3 A T W H) ∨ (∃ p2, p0 < p2 ∧ NextSt src dt fb hb R gv [] p2 y1 y2 y3 A T W H) ∨ ∃ pend, EndSt src dt fb hb R gv pend y1 y2 y3 A T W H)
theorem hb_bad {K : Known} {ea : Fin 5 → Addr} {src : Src K ea} {dt : List UInt8} {fb hb : Nat} {R : ResR} {gv p0 : Nat} {t : Tabs} {last : Bool} {hl hd : Value} {J : Frags} {er : Er} {l out h : List UInt8} {y1 y2 y3 : Frag} {wr rd c0 : Nat} {full : Bool} {a0 : Option Addr} {a b c d e f g i j k trv : Value}
    (hR : R = (out, .bad)) (h5 : Bad5 er) (hA : src.At l y1 y2 y3) (H : Hist h wr full out) (hrd : rd ≤ wr) (hwr : wr < 32768) (hsum : gv + (wr - rd) = out.length) (htr : trv = .slice a0 0 c0) :
    HbEnd src dt fb hb R gv p0 t last hl hd J (y1 :: y2 :: y3 :: ⟨fb, 0, [.iface src.t src.v, .pointer none, a, b, c]⟩ :: ⟨fb, 1045, [d, e, f, Er.val ea er, trv, g, i, j, k]⟩ :: ⟨fb, 1037, [.slice (some ⟨hb, 0, none⟩) 32768 32768, .int .i64 (((wr) : Nat) : Int), .int .i64 (((rd) : Nat) : Int), .bool full]⟩ :: ⟨hb, 0, bytesV (h)⟩ :: J) :=
  ⟨_, _, _, _, _, _, _, rfl, .inr (.inr ⟨[], out, .bad, er, trv, h, wr, rd, full, .inr ⟨rfl, h5, l, hA⟩, ⟨a, b, c, rfl⟩, ⟨H, hrd, hwr, by simpa using hsum, by simp, by rw [htr]; exact TR.nil _ _ _ _, rfl, rfl⟩, ⟨d, e, f, g, i, j, k, rfl⟩, hR, .inl rfl⟩)⟩

theorem ss_more {ss cl cd a b : Nat} (h : SsOk ss cl cd a) (hab : a ≤ b) : SsOk ss cl cd b := h.imp id fun h => ⟨h.1, h.2.1, h.2.2.1, by omega⟩
theorem huffmanBlock_walk {K : Known} {ea : Fin 5 → Addr} (hs : Sents K ea) (src : Src K ea) (dt : List UInt8) (fb hb : Nat) (R : ResR) (gv : Nat) (t : Tabs) (last : Bool) (lb lo : Nat) (hp : Option Addr) (stp : Nat) (HL HD : Frags) (hL : LitT t lb lo HL) (hD : DistT t hp HD) (a0 : Option Addr) (c0 : Nat) (trv : Value) (htr : trv = .slice a0 0 c0) (x1 x2 x3 : Frag) (p0 q b nb : Nat) (ro : Int) (out h : List UInt8) (wr rd : Nat) (full : Bool) (ss cl cd : Nat) (hA : src.At (dt.drop q) x1 x2 x3) (hB : BitsIn dt p0 q b nb) (hnb : nb < t.mn + 8) (H : Hist h wr full out) (hrd : rd ≤ wr) (hwr : wr < 32768) (hsum : gv + (wr - rd) = out.length) (hst : (SsOk ss cl cd (hsize wr full) ∧ R = run dt (.sym last t) out p0) ∨ (ss = 1 ∧ cl ≤ 258 ∧ 1 ≤ cd ∧ cd ≤ hsize wr full ∧ R = run dt (.sym last t) (copyN out cd cl) p0)) : Fn Tryd.prog K 74 #[.pointer (some ⟨fb, 0, none⟩)] ([x1, x2, x3, ⟨fb, 0, [.iface src.t src.v, .pointer none, .int .i64 (ro), .int .u32 (((b) : Nat) : Int), .int .u64 (((nb) : Nat) : Int)]⟩, ⟨fb, 1045, [.func (.func stp) #[] #[], .int .i64 (((ss) : Nat) : Int), .bool last, .nilIface, trv, .pointer (some ⟨lb, lo, none⟩), .pointer hp, .int .i64 (((cl) : Nat) : Int), .int .i64 (((cd) : Nat) : Int)]⟩, ⟨fb, 1037, [.slice (some ⟨hb, 0, none⟩) 32768 32768, .int .i64 (((wr) : Nat) : Int), .int .i64 (((rd) : Nat) : Int), .bool full]⟩, ⟨hb, 0, bytesV (h)⟩] ++ (HL ++ HD)) (fun r L => r = .tuple #[] ∧ HbEnd src dt fb hb R gv p0 t last (.pointer (some ⟨lb, lo, none⟩)) (.pointer hp) (HL ++ HD) L) := by
 refine Fn.intro (args := [.pointer (some ⟨fb, 0, none⟩)]) (RR := Ret0 _) Tryd.func74 rfl rfl Tryd.ntmps74 (res0 Tryd.results74) ?_
 refine C.reenv (env2 := [(0, .pointer (some ⟨fb, 0, none⟩))]) rfl ?_
 refine C.scope 0 1 (fun lbl mm ee ll => (lbl = 0 ∧ ∃ (p : Nat), ∃ (q : Nat), ∃ (b : Nat), ∃ (nb : Nat), ∃ (ro : Int), ∃ (f1 : Frag), ∃ (f2 : Frag), ∃ (f3 : Frag), ∃ (out : List UInt8), ∃ (h : List UInt8), ∃ (wr : Nat), ∃ (rd : Nat), ∃ (full : Bool), ∃ (ss : Nat), ∃ (cl : Nat), ∃ (cd : Nat), keeps ee [0] = some [(0, .pointer (some ⟨fb, 0, none⟩))] ∧ ll = [f1, f2, f3, ⟨fb, 0, [.iface src.t src.v, .pointer none, .int .i64 (ro), .int .u32 (((b) : Nat) : Int), .int .u64 (((nb) : Nat) : Int)]⟩, ⟨fb, 1045, [.func (.func stp) #[] #[], .int .i64 (((ss) : Nat) : Int), .bool last, .nilIface, trv, .pointer (some ⟨lb, lo, none⟩), .pointer hp, .int .i64 (((cl) : Nat) : Int), .int .i64 (((cd) : Nat) : Int)]⟩, ⟨fb, 1037, [.slice (some ⟨hb, 0, none⟩) 32768 32768, .int .i64 (((wr) : Nat) : Int), .int .i64 (((rd) : Nat) : Int), .bool full]⟩, ⟨hb, 0, bytesV (h)⟩] ++ (HL ++ HD) ∧ (src.At (dt.drop q) f1 f2 f3) ∧ (BitsIn dt p q b nb) ∧ (nb < t.mn + 8) ∧ (p0 ≤ p) ∧ (Hist h wr full out) ∧ (rd ≤ wr) ∧ (wr < 32768) ∧ (gv + (wr - rd) = out.length) ∧ (SsOk ss cl cd (hsize wr full)) ∧ (R = run dt (.sym last t) out p) ∧ mm = 2 * (8 * dt.length - p)) ∨ (lbl = 1 ∧ ∃ (p : Nat), ∃ (q : Nat), ∃ (b : Nat), ∃ (nb : Nat), ∃ (ro : Int), ∃ (f1 : Frag), ∃ (f2 : Frag), ∃ (f3 : Frag), ∃ (out : List UInt8), ∃ (h : List UInt8), ∃ (wr : Nat), ∃ (rd : Nat), ∃ (full : Bool), ∃ (ss : Nat), ∃ (cl : Nat), ∃ (cd : Nat), keeps ee [0] = some [(0, .pointer (some ⟨fb, 0, none⟩))] ∧ ll = [f1, f2, f3, ⟨fb, 0, [.iface src.t src.v, .pointer none, .int .i64 (ro), .int .u32 (((b) : Nat) : Int), .int .u64 (((nb) : Nat) : Int)]⟩, ⟨fb, 1045, [.func (.func stp) #[] #[], .int .i64 (((ss) : Nat) : Int), .bool last, .nilIface, trv, .pointer (some ⟨lb, lo, none⟩), .pointer hp, .int .i64 (((cl) : Nat) : Int), .int .i64 (((cd) : Nat) : Int)]⟩, ⟨fb, 1037, [.slice (some ⟨hb, 0, none⟩) 32768 32768, .int .i64 (((wr) : Nat) : Int), .int .i64 (((rd) : Nat) : Int), .bool full]⟩, ⟨hb, 0, bytesV (h)⟩] ++ (HL ++ HD) ∧ (src.At (dt.drop q) f1 f2 f3) ∧ (BitsIn dt p q b nb) ∧ (nb < t.mn + 8) ∧ (p0 ≤ p) ∧ (Hist h wr full out) ∧ (rd ≤ wr) ∧ (wr < 32768) ∧ (gv + (wr - rd) = out.length) ∧ (ss = 0 ∨ ss = 1) ∧ (cl ≤ 258) ∧ (1 ≤ cd) ∧ (cd ≤ hsize wr full) ∧ (R = run dt (.sym last t) (copyN out cd cl) p) ∧ mm = 2 * (8 * dt.length - p) + 1)) ?_ ?_ (fun _ => rfl)
 ·
  refine C.seq ?_
  refine C.seq ?_
  refine C.region ?_
  refine E.pure (S.move rfl) rfl ?_
  refine E.pure (S.nilPtr rfl) rfl ?_
  refine E.pure (S.field rfl fa153_12) rfl ?_
  refine E.still (S.load 4 (k := 1) rfl rfl rfl Tryd.isAgg3) rfl ?_
  refine E.keep [0, 13] (env1 := [(0, _), (13, _)]) rfl ?_
  refine C.block ?_
  refine C.seq ?_
  refine C.region ?_
  refine E.pure (S.eq (b := ((0 : Nat) : Int)) rfl rfl) rfl ?_
  refine E.pure (S.assign rfl) rfl ?_
  refine E.keep [0, 13, 14] (env1 := [(0, _), (13, _), (14, _)]) rfl ?_
  refine C.ifp rfl (fun h14 => ?_) (fun h14 => ?_)
  ·
   have hss0 : ss = 0 := by omega
   refine C.goto rfl ?_
   obtain ⟨hss, hR⟩ := hst.resolve_right fun h => by omega
   exact ⟨_, .inl ⟨rfl, p0, q, b, nb, ro, x1, x2, x3, out, h, wr, rd, full, ss, cl, cd, rfl, rfl, hA, hB, hnb, Nat.le_refl _, H, hrd, hwr, hsum, hss, hR, rfl⟩⟩
  ·
   refine C.seq ?_
   refine C.region ?_
   refine E.pure (S.eq (b := ((1 : Nat) : Int)) rfl rfl) rfl ?_
   refine E.pure (S.assign rfl) rfl ?_
   refine E.keep [0, 13, 14, 16] (env1 := [(0, _), (13, _), (14, _), (16, _)]) rfl ?_
   refine C.ifp rfl (fun h16 => ?_) (fun h16 => ?_)
   ·
    have hss1 : ss = 1 := by omega
    refine C.goto rfl ?_
    have hj : cl ≤ 258 ∧ 1 ≤ cd ∧ cd ≤ hsize wr full ∧ R = run dt (.sym last t) (copyN out cd cl) p0 := by
      rcases hst with ⟨h1 | ⟨_, h2, h3, h4⟩, h5⟩ | h1
      · omega
      · subst h2; exact ⟨by omega, h3, h4, h5⟩
      · exact h1.2
    exact ⟨_, .inr ⟨rfl, p0, q, b, nb, ro, x1, x2, x3, out, h, wr, rd, full, ss, cl, cd, rfl, rfl, hA, hB, hnb, Nat.le_refl _, H, hrd, hwr, hsum, .inr (by omega), hj.1, hj.2.1, hj.2.2.1, hj.2.2.2, rfl⟩⟩
   ·
    exfalso
    rcases hst with ⟨h1 | h1, _⟩ | h1 <;> omega
 ·
  rintro lbl mg _ _ - hJ
  rcases hJ with ⟨rfl, p, q, b, nb, ro, f1, f2, f3, out, h, wr, rd, full, ss, cl, cd, hg0, rfl, hA, hB, hnb, hp0, H, hrd, hwr, hsum, hss, hR, hmg0⟩ | ⟨rfl, p, q, b, nb, ro, f1, f2, f3, out, h, wr, rd, full, ss, cl, cd, hg1, rfl, hA, hB, hnb, hp0, H, hrd, hwr, hsum, hss, hcl, hcd1, hcd2, hR, hmg1⟩
  ·
   refine ⟨_, rfl, ?_⟩
   refine C.weaken _ hg0 ?_
   refine C.seq ?_
   refine C.skip ?_
   refine C.seq ?_
   refine C.seq ?_
   refine C.region ?_
   refine E.pure (S.move rfl) rfl ?_
   refine E.pure (S.move rfl) rfl ?_
   refine E.pure (S.nilPtr rfl) rfl ?_
   refine E.pure (S.field rfl fa153_16) rfl ?_
   refine E.still (S.load 4 (k := 5) rfl rfl rfl Tryd.isAgg151) rfl ?_
   refine E.loud1 (X.call rfl Tryd.call81 (huffSym_in hs src _ _ _ fb _ _ _ _ _ _ _ _ _ _ lb lo dt _ _ _ _ hA hB (by have := hL.mn15; omega) t.lit t.mn hL.ok hL.le15 hL.min hL.mn15 HL [⟨fb, 1037, [.slice (some ⟨hb, 0, none⟩) 32768 32768, .int .i64 (((wr) : Nat) : Int), .int .i64 (((rd) : Nat) : Int), .bool full]⟩, ⟨hb, 0, bytesV (h)⟩] HD hL.huf)) rfl ?_; rintro _ _ ⟨e, vi, y1, y2, y3, a1, b1, c1, ev2, rfl, hE, rfl⟩; refine E.relist (L2 := (_ :: _ :: _ :: _ :: _ :: _ :: _ :: _)) rfl ?_
   refine E.pure (S.move rfl) rfl ?_
   refine E.pure (S.extract rfl rfl) rfl ?_
   refine E.pure (S.extract rfl rfl) rfl ?_
   refine E.pure (S.assign rfl) rfl ?_
   refine E.pure (S.assign rfl) rfl ?_
   refine E.keep [0, 2, 3] (env1 := [(0, _), (2, _), (3, _)]) rfl ?_
   refine C.seq ?_
   refine C.seq ?_
   refine C.region ?_
   refine E.pure (S.move rfl) rfl ?_
   refine E.still (S.neErNil rfl) rfl ?_
   refine E.keep [0, 2, 3, 28] (env1 := [(0, _), (2, _), (3, _), (28, _)]) rfl ?_
   first | refine C.ifp rfl (fun h28 => ?_) (fun h28 => ?_) | refine C.ifNone rfl (fun h28 => ?_) (fun h28 => ?_) | refine C.ifSome rfl (fun h28 => ?_) (fun h28 => ?_) | refine C.ifSe rfl (fun h28 => ?_) (fun h28 => ?_) | refine C.ifNotSe rfl (fun h28 => ?_) (fun h28 => ?_) | refine C.cond rfl (fun h28 => ?_) (fun h28 => ?_)
   ·
    obtain ⟨hb5, hsn, lx, hAx⟩ := hE.resolve_left fun h => h28 h.1
    refine C.seq ?_
    refine C.region ?_
    refine E.pure (S.move rfl) rfl ?_
    refine E.pure (S.move rfl) rfl ?_
    refine E.pure (S.nilPtr rfl) rfl ?_
    refine E.pure (S.field rfl fa153_14) rfl ?_
    refine E.loud0 (X.store 4 (k := 3) rfl rfl rfl (one_er _) rfl Tryd.sizeOf59) ?_; rintro _ _ ⟨rfl, rfl⟩; refine E.relist (L2 := (_ :: _ :: _ :: _ :: _ :: _ :: _ :: _)) rfl ?_
    refine E.keep [0, 2, 3, 28] (env1 := [(0, _), (2, _), (3, _), (28, _)]) rfl ?_
    refine C.ret ?_
    exact ⟨rfl, hb_bad (hR.trans (run_none hsn)) (hb5) hAx H hrd hwr hsum htr⟩
   ·
    obtain ⟨_, v, rfl, hsy, hvl, q2, b2, nb2, ro2, hA2, hB2, hn31, hbd, rfl, rfl, rfl, rfl⟩ := hE.resolve_right fun h => h.1.2 h28
    have hm := symR_some hsy
    have hm0 := hm.1.1
    have hll := hL.len
    have hmn15 := hL.mn15
    have hnb2 : nb2 < t.mn + 8 := by have := Nat.le_max_left t.mn (lenOf t.lit v); omega
    clear hE
    refine C.skip ?_
    refine C.seq ?_
    refine C.region ?_
    refine E.pure (S.assign rfl) rfl ?_
    refine E.keep [0, 2, 3, 4, 28] (env1 := [(0, _), (2, _), (3, _), (4, _), (28, _)]) rfl ?_
    refine C.seq ?_
    refine C.region ?_
    refine E.pure (S.assign rfl) rfl ?_
    refine E.keep [0, 2, 3, 4, 5, 28] (env1 := [(0, _), (2, _), (3, _), (4, _), (5, _), (28, _)]) rfl ?_
    refine C.cut (M := fun ee ll => keeps ee [0, 4, 5] = some [(0, .pointer (some ⟨fb, 0, none⟩)), (4, .int .u64 ((moreL.getD (v - 257) 0 : Nat) : Int)), (5, .int .i64 ((sizesL.getD (v - 257) 0 : Nat) : Int))] ∧ ll = [y1, y2, y3, ⟨fb, 0, [.iface src.t src.v, .pointer none, .int .i64 (ro2), .int .u32 (((b2) : Nat) : Int), .int .u64 (((nb2) : Nat) : Int)]⟩, ⟨fb, 1045, [.func (.func stp) #[] #[], .int .i64 (((ss) : Nat) : Int), .bool last, .nilIface, trv, .pointer (some ⟨lb, lo, none⟩), .pointer hp, .int .i64 (((cl) : Nat) : Int), .int .i64 (((cd) : Nat) : Int)]⟩, ⟨fb, 1037, [.slice (some ⟨hb, 0, none⟩) 32768 32768, .int .i64 (((wr) : Nat) : Int), .int .i64 (((rd) : Nat) : Int), .bool full]⟩, ⟨hb, 0, bytesV (h)⟩] ++ (HL ++ HD) ∧ (257 ≤ v) ∧ (v < 286)) ?_ ?_
    ·
     refine C.block ?_
     refine C.seq ?_
     refine C.region ?_
     refine E.pure (S.move rfl) rfl ?_
     refine E.pure (S.lt (b := ((256 : Nat) : Int)) rfl rfl) rfl ?_
     refine E.pure (S.assign rfl) rfl ?_
     refine E.keep [0, 2, 3, 4, 5, 28, 41] (env1 := [(0, _), (2, _), (3, _), (4, _), (5, _), (28, _), (41, _)]) rfl ?_
     refine C.ifp rfl (fun h41 => ?_) (fun h41 => ?_)
     ·
      have hv : v < 256 := by omega
      have H1 := H.write [UInt8.ofNat v] (by simp only [List.length_cons, List.length_nil]; omega)
      simp only [List.length_cons, List.length_nil, Nat.zero_add] at H1
      refine C.seq ?_
      refine C.region ?_
      refine E.pure (S.move rfl) rfl ?_
      refine E.pure (S.nilPtr rfl) rfl ?_
      refine E.pure (S.field rfl fa153_9) rfl ?_
      refine E.pure (S.move rfl) rfl ?_
      refine E.pure (S.conv rfl Tryd.underlying3 Tryd.underlying5 (N.in_u8 (by omega))) rfl ?_
      refine E.loud1 (OpX.pick [5, 5] (F := (_ :: _ :: _ :: _ :: _ :: _)) rfl (X.call rfl Tryd.call82 (writeByte_spec fb 1037 hb wr rd full h H.len hwr v hv))) rfl ?_; rintro _ _ ⟨_, ⟨rfl, rfl⟩, rfl⟩; refine E.relist (L2 := (_ :: _ :: _ :: _ :: _ :: _ :: _ :: _)) rfl ?_
      refine E.perml [2, 2, 2, 2, 2, 0, 0] rfl ?_
      refine E.relist (L2 := (_ :: _ :: _ :: _ :: _ :: _ :: _ :: _)) rfl ?_
      refine E.keep [0, 2, 3, 4, 5, 28, 41] (env1 := [(0, _), (2, _), (3, _), (4, _), (5, _), (28, _), (41, _)]) rfl ?_
      refine C.seq ?_
      refine C.seq ?_
      refine C.region ?_
      refine E.pure (S.move rfl) rfl ?_
      refine E.pure (S.nilPtr rfl) rfl ?_
      refine E.pure (S.field rfl fa153_9) rfl ?_
      refine E.loud1 (OpX.pick [5] (F := (_ :: _ :: _ :: _ :: _ :: _ :: _)) rfl (X.call rfl Tryd.call83 (availWrite_spec fb 1037 hb (wr + 1) rd full (by omega) (by omega)))) rfl ?_; rintro _ _ ⟨_, ⟨rfl, rfl⟩, rfl⟩; refine E.relist (L2 := (_ :: _ :: _ :: _ :: _ :: _ :: _ :: _)) rfl ?_
      refine E.perml [1, 1, 1, 1, 1, 0, 0] rfl ?_
      refine E.relist (L2 := (_ :: _ :: _ :: _ :: _ :: _ :: _ :: _)) rfl ?_
      refine E.pure (S.eq (b := ((0 : Nat) : Int)) rfl rfl) rfl ?_
      refine E.keep [0, 2, 3, 4, 5, 28, 41, 54] (env1 := [(0, _), (2, _), (3, _), (4, _), (5, _), (28, _), (41, _), (54, _)]) rfl ?_
      refine C.ifp rfl (fun h54 => ?_) (fun h54 => ?_)
      ·
       refine C.seq ?_
       refine C.region ?_
       refine E.pure (S.move rfl) rfl ?_
       refine E.pure (S.move rfl) rfl ?_
       refine E.pure (S.nilPtr rfl) rfl ?_
       refine E.pure (S.field rfl fa153_9) rfl ?_
       refine E.loud1 (OpX.pick [5] (F := (_ :: _ :: _ :: _ :: _ :: _ :: _)) rfl (X.call rfl Tryd.call77 (readFlush_spec fb 1037 hb (wr + 1) rd full (by omega) (by omega)))) rfl ?_; rintro _ _ ⟨_, ⟨Aw, hfl, rfl⟩, rfl⟩; refine E.relist (L2 := (_ :: _ :: _ :: _ :: _ :: _ :: _ :: _)) rfl ?_
       refine E.perml [1, 1, 1, 1, 1, 0, 0] rfl ?_
       refine E.relist (L2 := (_ :: _ :: _ :: _ :: _ :: _ :: _ :: _)) rfl ?_
       refine E.pure (S.nilPtr rfl) rfl ?_
       refine E.pure (S.field rfl fa153_15) rfl ?_
       refine E.loud0 (X.store 4 (k := 4) rfl rfl rfl (flush_one hfl) rfl Tryd.sizeOf22) ?_; rintro _ _ ⟨rfl, rfl⟩; refine E.relist (L2 := (_ :: _ :: _ :: _ :: _ :: _ :: _ :: _)) rfl ?_
       refine E.keep [0, 2, 3, 4, 5, 28, 41, 54] (env1 := [(0, _), (2, _), (3, _), (4, _), (5, _), (28, _), (41, _), (54, _)]) rfl ?_
       refine C.seq ?_
       refine C.region ?_
       refine E.pure (S.move rfl) rfl ?_
       refine E.pure (S.nilPtr rfl) rfl ?_
       refine E.pure (S.field rfl fa153_11) rfl ?_
       refine E.loud0 (X.store 4 (k := 0) rfl rfl rfl rfl rfl Tryd.sizeOf150) ?_; rintro _ _ ⟨rfl, rfl⟩; refine E.relist (L2 := (_ :: _ :: _ :: _ :: _ :: _ :: _ :: _)) rfl ?_
       refine E.keep [0, 2, 3, 4, 5, 28, 41, 54] (env1 := [(0, _), (2, _), (3, _), (4, _), (5, _), (28, _), (41, _), (54, _)]) rfl ?_
       refine C.seq ?_
       refine C.region ?_
       refine E.pure (S.move rfl) rfl ?_
       refine E.pure (S.nilPtr rfl) rfl ?_
       refine E.pure (S.field rfl fa153_12) rfl ?_
       refine E.loud0 (X.store 4 (k := 1) rfl rfl rfl rfl rfl Tryd.sizeOf3) ?_; rintro _ _ ⟨rfl, rfl⟩; refine E.relist (L2 := (_ :: _ :: _ :: _ :: _ :: _ :: _ :: _)) rfl ?_
       refine E.keep [0, 2, 3, 4, 5, 28, 41, 54] (env1 := [(0, _), (2, _), (3, _), (4, _), (5, _), (28, _), (41, _), (54, _)]) rfl ?_
       refine C.ret ?_
       have hwn : wr + 1 = 32768 := by omega
       obtain ⟨wr5, full5, hW, hlen, hsz⟩ := WinSt.flush (gv := gv) H1 (by omega) (by rw [List.length_append]; simp only [List.length_cons, List.length_nil]; omega) hfl
       exact ⟨rfl, _, _, _, _, _, _, _, rfl, .inl ⟨_, (fun h => by rw [h] at hlen; simp at hlen; omega), _, _, _, _, _, _, _, _, _, 0, cl, cd, ⟨hA2, _, _, hB2, rfl⟩, hnb2, hW, rfl, .inl ⟨.inl rfl, hR.trans (run_lit hsy hv)⟩⟩⟩
      ·
       refine C.skip ?_
       refine C.goto rfl ?_
       have hR2 := hR.trans (run_lit hsy hv)
       refine ⟨_, ?_, .inl ⟨rfl, _, _, _, _, _, _, _, _, _, _, wr + 1, rd, full, ss, cl, cd, rfl, rfl, hA2, hB2, hnb2, by omega, H1, by omega, by omega, (by rw [List.length_append]; simp only [List.length_cons, List.length_nil]; omega), (ss_more hss (by unfold hsize; split <;> omega)), hR2, rfl⟩⟩
       omega
     ·
      refine C.seq ?_
      refine C.region ?_
      refine E.pure (S.move rfl) rfl ?_
      refine E.pure (S.eq (b := ((256 : Nat) : Int)) rfl rfl) rfl ?_
      refine E.pure (S.assign rfl) rfl ?_
      refine E.keep [0, 2, 3, 4, 5, 28, 41, 68] (env1 := [(0, _), (2, _), (3, _), (4, _), (5, _), (28, _), (41, _), (68, _)]) rfl ?_
      refine C.ifp rfl (fun h68 => ?_) (fun h68 => ?_)
      ·
       have hv : v = 256 := by omega
       subst hv
       have heb := hL.eob.resolve_left (by omega)
       have hn8 : nb2 < 8 := by omega
       have hq8 := hB2.at8
       have hRe : last = true → R = (out, .done q2) := fun e => by rw [hR, (run_eob hsy).1 e, show (p + lenOf t.lit 256 + 7) / 8 = q2 by omega]
       refine C.seq ?_
       refine C.region ?_
       refine E.pure (S.move rfl) rfl ?_
       refine E.loud1 (OpX.pick [5, 4] (F := (_ :: _ :: _ :: _ :: _ :: _)) rfl (X.call rfl Tryd.call78 (finishBlock_spec hs fb hb wr rd full last hrd hwr _ _ _ _ _ _ _ _))) rfl ?_; rintro _ _ ⟨_, ⟨rfl, ev2, tr2, Aw, rfl, hfin⟩, rfl⟩; refine E.relist (L2 := (_ :: _ :: _ :: _ :: _ :: _ :: _ :: _)) rfl ?_
       refine E.perml [2, 2, 2, 2, 1, 0, 0] rfl ?_
       refine E.relist (L2 := (_ :: _ :: _ :: _ :: _ :: _ :: _ :: _)) rfl ?_
       refine E.keep [0, 2, 3, 4, 5, 28, 41, 68] (env1 := [(0, _), (2, _), (3, _), (4, _), (5, _), (28, _), (41, _), (68, _)]) rfl ?_
       refine C.ret ?_
       rcases hfin with ⟨hl5, rfl, rfl, rfl⟩ | ⟨hl5, rfl, ⟨h1, rfl, rfl⟩ | ⟨_, hfl⟩⟩
       · exact ⟨rfl, _, _, _, _, _, _, _, rfl, .inr (.inl ⟨_, by omega, _, _, out, _, h, wr, rd, full, ss, last, _, _, cl, cd, ⟨hA2, _, _, hB2, rfl⟩, hn8, ⟨H, hrd, hwr, by simpa using hsum, by simp, by rw [htr]; exact TR.nil _ _ _ _, rfl, rfl⟩, rfl, hss, hR.trans ((run_eob hsy).2 hl5)⟩)⟩
       · exact ⟨rfl, _, _, _, _, _, _, _, rfl, .inr (.inr ⟨[], out, _, .eof, _, h, wr, rd, full, .inl ⟨q2, rfl, rfl, hB2.le, hA2⟩, ⟨_, _, _, rfl⟩, ⟨H, hrd, hwr, by simpa using hsum, by simp, by rw [htr]; exact TR.nil _ _ _ _, rfl, rfl⟩, ⟨_, _, _, _, _, _, _, rfl⟩, hRe hl5, .inl rfl⟩)⟩
       · obtain ⟨wr5, full5, hW, hlen, hsz⟩ := WinSt.flush (gv := gv) H hrd hsum hfl
         exact ⟨rfl, _, _, _, _, _, _, _, rfl, .inr (.inr ⟨_, out, _, .eof, _, h, wr5, wr5, full5, .inl ⟨q2, rfl, rfl, hB2.le, hA2⟩, ⟨_, _, _, rfl⟩, hW, ⟨_, _, _, _, _, _, _, rfl⟩, hRe hl5, .inr rfl⟩)⟩
      ·
       refine C.seq ?_
       refine C.region ?_
       refine E.pure (S.move rfl) rfl ?_
       refine E.pure (S.lt (b := ((265 : Nat) : Int)) rfl rfl) rfl ?_
       refine E.pure (S.assign rfl) rfl ?_
       refine E.keep [0, 2, 3, 4, 5, 28, 41, 68, 73] (env1 := [(0, _), (2, _), (3, _), (4, _), (5, _), (28, _), (41, _), (68, _), (73, _)]) rfl ?_
       refine C.ifp rfl (fun h73 => ?_) (fun h73 => ?_)
       ·
        refine C.seq ?_
        refine C.region ?_
        refine E.pure (S.move rfl) rfl ?_
        refine E.pure (S.sub (b := ((254 : Nat) : Int)) rfl rfl (N.sub64 (by omega) (by omega))) rfl ?_
        refine E.reslot (v := .int .i64 ((sizesL.getD (v - 257) 0 : Nat) : Int)) (congrArg (fun y : Nat => Value.int .i64 (y : Int)) (by have := (size_tab0 (v := v) (by omega) (by omega)).2; omega)) ?_
        refine E.pure (S.assign rfl) rfl ?_
        refine E.keep [0, 2, 3, 4, 5, 28, 41, 68, 73] (env1 := [(0, _), (2, _), (3, _), (4, _), (5, _), (28, _), (41, _), (68, _), (73, _)]) rfl ?_
        refine C.region ?_
        refine E.pure (S.assign rfl) rfl ?_
        refine E.reslot (v := .int .u64 ((moreL.getD (v - 257) 0 : Nat) : Int)) (congrArg (fun y : Nat => Value.int .u64 (y : Int)) (by exact (size_tab0 (v := v) (by omega) (by omega)).1.symm)) ?_
        refine E.keep [0, 2, 3, 4, 5, 28, 41, 68, 73] (env1 := [(0, _), (2, _), (3, _), (4, _), (5, _), (28, _), (41, _), (68, _), (73, _)]) rfl ?_
        exact ⟨rfl, rfl, by omega, by omega⟩
       ·
        refine C.seq ?_
        refine C.region ?_
        refine E.pure (S.move rfl) rfl ?_
        refine E.pure (S.lt (b := ((269 : Nat) : Int)) rfl rfl) rfl ?_
        refine E.pure (S.assign rfl) rfl ?_
        refine E.keep [0, 2, 3, 4, 5, 28, 41, 68, 73, 78] (env1 := [(0, _), (2, _), (3, _), (4, _), (5, _), (28, _), (41, _), (68, _), (73, _), (78, _)]) rfl ?_
        refine C.ifp rfl (fun h78 => ?_) (fun h78 => ?_)
        ·
         refine C.seq ?_
         refine C.region ?_
         refine E.pure (S.move rfl) rfl ?_
         refine E.pure (S.mul (b := ((2 : Nat) : Int)) rfl rfl (N.mul64 (by omega))) rfl ?_
         refine E.pure (S.sub (b := ((519 : Nat) : Int)) rfl rfl (N.sub64 (by omega) (by omega))) rfl ?_
         refine E.reslot (v := .int .i64 ((sizesL.getD (v - 257) 0 : Nat) : Int)) (congrArg (fun y : Nat => Value.int .i64 (y : Int)) (by have := (size_tab1 (v := v) (by omega) (by omega)).2; omega)) ?_
         refine E.pure (S.assign rfl) rfl ?_
         refine E.keep [0, 2, 3, 4, 5, 28, 41, 68, 73, 78] (env1 := [(0, _), (2, _), (3, _), (4, _), (5, _), (28, _), (41, _), (68, _), (73, _), (78, _)]) rfl ?_
         refine C.region ?_
         refine E.pure (S.assign rfl) rfl ?_
         refine E.reslot (v := .int .u64 ((moreL.getD (v - 257) 0 : Nat) : Int)) (congrArg (fun y : Nat => Value.int .u64 (y : Int)) (by exact (size_tab1 (v := v) (by omega) (by omega)).1.symm)) ?_
         refine E.keep [0, 2, 3, 4, 5, 28, 41, 68, 73, 78] (env1 := [(0, _), (2, _), (3, _), (4, _), (5, _), (28, _), (41, _), (68, _), (73, _), (78, _)]) rfl ?_
         exact ⟨rfl, rfl, by omega, by omega⟩
        ·
         refine C.seq ?_
         refine C.region ?_
         refine E.pure (S.move rfl) rfl ?_
         refine E.pure (S.lt (b := ((273 : Nat) : Int)) rfl rfl) rfl ?_
         refine E.pure (S.assign rfl) rfl ?_
         refine E.keep [0, 2, 3, 4, 5, 28, 41, 68, 73, 78, 84] (env1 := [(0, _), (2, _), (3, _), (4, _), (5, _), (28, _), (41, _), (68, _), (73, _), (78, _), (84, _)]) rfl ?_
         refine C.ifp rfl (fun h84 => ?_) (fun h84 => ?_)
         ·
          refine C.seq ?_
          refine C.region ?_
          refine E.pure (S.move rfl) rfl ?_
          refine E.pure (S.mul (b := ((4 : Nat) : Int)) rfl rfl (N.mul64 (by omega))) rfl ?_
          refine E.pure (S.sub (b := ((1057 : Nat) : Int)) rfl rfl (N.sub64 (by omega) (by omega))) rfl ?_
          refine E.reslot (v := .int .i64 ((sizesL.getD (v - 257) 0 : Nat) : Int)) (congrArg (fun y : Nat => Value.int .i64 (y : Int)) (by have := (size_tab2 (v := v) (by omega) (by omega)).2; omega)) ?_
          refine E.pure (S.assign rfl) rfl ?_
          refine E.keep [0, 2, 3, 4, 5, 28, 41, 68, 73, 78, 84] (env1 := [(0, _), (2, _), (3, _), (4, _), (5, _), (28, _), (41, _), (68, _), (73, _), (78, _), (84, _)]) rfl ?_
          refine C.region ?_
          refine E.pure (S.assign rfl) rfl ?_
          refine E.reslot (v := .int .u64 ((moreL.getD (v - 257) 0 : Nat) : Int)) (congrArg (fun y : Nat => Value.int .u64 (y : Int)) (by exact (size_tab2 (v := v) (by omega) (by omega)).1.symm)) ?_
          refine E.keep [0, 2, 3, 4, 5, 28, 41, 68, 73, 78, 84] (env1 := [(0, _), (2, _), (3, _), (4, _), (5, _), (28, _), (41, _), (68, _), (73, _), (78, _), (84, _)]) rfl ?_
          exact ⟨rfl, rfl, by omega, by omega⟩
         ·
          refine C.seq ?_
          refine C.region ?_
          refine E.pure (S.move rfl) rfl ?_
          refine E.pure (S.lt (b := ((277 : Nat) : Int)) rfl rfl) rfl ?_
          refine E.pure (S.assign rfl) rfl ?_
          refine E.keep [0, 2, 3, 4, 5, 28, 41, 68, 73, 78, 84, 90] (env1 := [(0, _), (2, _), (3, _), (4, _), (5, _), (28, _), (41, _), (68, _), (73, _), (78, _), (84, _), (90, _)]) rfl ?_
          refine C.ifp rfl (fun h90 => ?_) (fun h90 => ?_)
          ·
           refine C.seq ?_
           refine C.region ?_
           refine E.pure (S.move rfl) rfl ?_
           refine E.pure (S.mul (b := ((8 : Nat) : Int)) rfl rfl (N.mul64 (by omega))) rfl ?_
           refine E.pure (S.sub (b := ((2149 : Nat) : Int)) rfl rfl (N.sub64 (by omega) (by omega))) rfl ?_
           refine E.reslot (v := .int .i64 ((sizesL.getD (v - 257) 0 : Nat) : Int)) (congrArg (fun y : Nat => Value.int .i64 (y : Int)) (by have := (size_tab3 (v := v) (by omega) (by omega)).2; omega)) ?_
           refine E.pure (S.assign rfl) rfl ?_
           refine E.keep [0, 2, 3, 4, 5, 28, 41, 68, 73, 78, 84, 90] (env1 := [(0, _), (2, _), (3, _), (4, _), (5, _), (28, _), (41, _), (68, _), (73, _), (78, _), (84, _), (90, _)]) rfl ?_
           refine C.region ?_
           refine E.pure (S.assign rfl) rfl ?_
           refine E.reslot (v := .int .u64 ((moreL.getD (v - 257) 0 : Nat) : Int)) (congrArg (fun y : Nat => Value.int .u64 (y : Int)) (by exact (size_tab3 (v := v) (by omega) (by omega)).1.symm)) ?_
           refine E.keep [0, 2, 3, 4, 5, 28, 41, 68, 73, 78, 84, 90] (env1 := [(0, _), (2, _), (3, _), (4, _), (5, _), (28, _), (41, _), (68, _), (73, _), (78, _), (84, _), (90, _)]) rfl ?_
           exact ⟨rfl, rfl, by omega, by omega⟩
          ·
           refine C.seq ?_
           refine C.region ?_
           refine E.pure (S.move rfl) rfl ?_
           refine E.pure (S.lt (b := ((281 : Nat) : Int)) rfl rfl) rfl ?_
           refine E.pure (S.assign rfl) rfl ?_
           refine E.keep [0, 2, 3, 4, 5, 28, 41, 68, 73, 78, 84, 90, 96] (env1 := [(0, _), (2, _), (3, _), (4, _), (5, _), (28, _), (41, _), (68, _), (73, _), (78, _), (84, _), (90, _), (96, _)]) rfl ?_
           refine C.ifp rfl (fun h96 => ?_) (fun h96 => ?_)
           ·
            refine C.seq ?_
            refine C.region ?_
            refine E.pure (S.move rfl) rfl ?_
            refine E.pure (S.mul (b := ((16 : Nat) : Int)) rfl rfl (N.mul64 (by omega))) rfl ?_
            refine E.pure (S.sub (b := ((4365 : Nat) : Int)) rfl rfl (N.sub64 (by omega) (by omega))) rfl ?_
            refine E.reslot (v := .int .i64 ((sizesL.getD (v - 257) 0 : Nat) : Int)) (congrArg (fun y : Nat => Value.int .i64 (y : Int)) (by have := (size_tab4 (v := v) (by omega) (by omega)).2; omega)) ?_
            refine E.pure (S.assign rfl) rfl ?_
            refine E.keep [0, 2, 3, 4, 5, 28, 41, 68, 73, 78, 84, 90, 96] (env1 := [(0, _), (2, _), (3, _), (4, _), (5, _), (28, _), (41, _), (68, _), (73, _), (78, _), (84, _), (90, _), (96, _)]) rfl ?_
            refine C.region ?_
            refine E.pure (S.assign rfl) rfl ?_
            refine E.reslot (v := .int .u64 ((moreL.getD (v - 257) 0 : Nat) : Int)) (congrArg (fun y : Nat => Value.int .u64 (y : Int)) (by exact (size_tab4 (v := v) (by omega) (by omega)).1.symm)) ?_
            refine E.keep [0, 2, 3, 4, 5, 28, 41, 68, 73, 78, 84, 90, 96] (env1 := [(0, _), (2, _), (3, _), (4, _), (5, _), (28, _), (41, _), (68, _), (73, _), (78, _), (84, _), (90, _), (96, _)]) rfl ?_
            exact ⟨rfl, rfl, by omega, by omega⟩
           ·
            refine C.seq ?_
            refine C.region ?_
            refine E.pure (S.move rfl) rfl ?_
            refine E.pure (S.lt (b := ((285 : Nat) : Int)) rfl rfl) rfl ?_
            refine E.pure (S.assign rfl) rfl ?_
            refine E.keep [0, 2, 3, 4, 5, 28, 41, 68, 73, 78, 84, 90, 96, 102] (env1 := [(0, _), (2, _), (3, _), (4, _), (5, _), (28, _), (41, _), (68, _), (73, _), (78, _), (84, _), (90, _), (96, _), (102, _)]) rfl ?_
            refine C.ifp rfl (fun h102 => ?_) (fun h102 => ?_)
            ·
             refine C.seq ?_
             refine C.region ?_
             refine E.pure (S.move rfl) rfl ?_
             refine E.pure (S.mul (b := ((32 : Nat) : Int)) rfl rfl (N.mul64 (by omega))) rfl ?_
             refine E.pure (S.sub (b := ((8861 : Nat) : Int)) rfl rfl (N.sub64 (by omega) (by omega))) rfl ?_
             refine E.reslot (v := .int .i64 ((sizesL.getD (v - 257) 0 : Nat) : Int)) (congrArg (fun y : Nat => Value.int .i64 (y : Int)) (by have := (size_tab5 (v := v) (by omega) (by omega)).2; omega)) ?_
             refine E.pure (S.assign rfl) rfl ?_
             refine E.keep [0, 2, 3, 4, 5, 28, 41, 68, 73, 78, 84, 90, 96, 102] (env1 := [(0, _), (2, _), (3, _), (4, _), (5, _), (28, _), (41, _), (68, _), (73, _), (78, _), (84, _), (90, _), (96, _), (102, _)]) rfl ?_
             refine C.region ?_
             refine E.pure (S.assign rfl) rfl ?_
             refine E.reslot (v := .int .u64 ((moreL.getD (v - 257) 0 : Nat) : Int)) (congrArg (fun y : Nat => Value.int .u64 (y : Int)) (by exact (size_tab5 (v := v) (by omega) (by omega)).1.symm)) ?_
             refine E.keep [0, 2, 3, 4, 5, 28, 41, 68, 73, 78, 84, 90, 96, 102] (env1 := [(0, _), (2, _), (3, _), (4, _), (5, _), (28, _), (41, _), (68, _), (73, _), (78, _), (84, _), (90, _), (96, _), (102, _)]) rfl ?_
             exact ⟨rfl, rfl, by omega, by omega⟩
            ·
             refine C.seq ?_
             refine C.region ?_
             refine E.pure (S.move rfl) rfl ?_
             refine E.pure (S.lt (b := ((286 : Nat) : Int)) rfl rfl) rfl ?_
             refine E.pure (S.assign rfl) rfl ?_
             refine E.keep [0, 2, 3, 4, 5, 28, 41, 68, 73, 78, 84, 90, 96, 102, 108] (env1 := [(0, _), (2, _), (3, _), (4, _), (5, _), (28, _), (41, _), (68, _), (73, _), (78, _), (84, _), (90, _), (96, _), (102, _), (108, _)]) rfl ?_
             refine C.ifp rfl (fun h108 => ?_) (fun h108 => ?_)
             ·
              refine C.seq ?_
              refine C.region ?_
              refine E.pure (S.assign rfl) rfl ?_
              refine E.reslot (v := .int .i64 ((sizesL.getD (v - 257) 0 : Nat) : Int)) (congrArg (fun y : Nat => Value.int .i64 (y : Int)) (by exact (size_tab6 (v := v) (by omega) (by omega)).2.symm)) ?_
              refine E.keep [0, 2, 3, 4, 5, 28, 41, 68, 73, 78, 84, 90, 96, 102, 108] (env1 := [(0, _), (2, _), (3, _), (4, _), (5, _), (28, _), (41, _), (68, _), (73, _), (78, _), (84, _), (90, _), (96, _), (102, _), (108, _)]) rfl ?_
              refine C.region ?_
              refine E.pure (S.assign rfl) rfl ?_
              refine E.reslot (v := .int .u64 ((moreL.getD (v - 257) 0 : Nat) : Int)) (congrArg (fun y : Nat => Value.int .u64 (y : Int)) (by exact (size_tab6 (v := v) (by omega) (by omega)).1.symm)) ?_
              refine E.keep [0, 2, 3, 4, 5, 28, 41, 68, 73, 78, 84, 90, 96, 102, 108] (env1 := [(0, _), (2, _), (3, _), (4, _), (5, _), (28, _), (41, _), (68, _), (73, _), (78, _), (84, _), (90, _), (96, _), (102, _), (108, _)]) rfl ?_
              exact ⟨rfl, rfl, by omega, by omega⟩
             ·
              refine C.seq ?_
              refine C.region ?_
              refine E.pure (S.move rfl) rfl ?_
              refine E.pure (S.move rfl) rfl ?_
              refine E.pure (S.nilPtr rfl) rfl ?_
              refine E.pure (S.field rfl fa153_2) rfl ?_
              refine E.still (S.load 3 (k := 2) rfl rfl rfl Tryd.isAgg2) rfl ?_
              refine E.pure (S.mkIface rfl conc165) rfl ?_
              refine E.reslot (v := Er.val ea (.corrupt ro2)) (rfl) ?_
              refine E.pure (S.nilPtr rfl) rfl ?_
              refine E.pure (S.field rfl fa153_14) rfl ?_
              refine E.loud0 (X.store 4 (k := 3) rfl rfl rfl rfl rfl Tryd.sizeOf59) ?_; rintro _ _ ⟨rfl, rfl⟩; refine E.relist (L2 := (_ :: _ :: _ :: _ :: _ :: _ :: _ :: _)) rfl ?_
              refine E.keep [0, 2, 3, 4, 5, 28, 41, 68, 73, 78, 84, 90, 96, 102, 108] (env1 := [(0, _), (2, _), (3, _), (4, _), (5, _), (28, _), (41, _), (68, _), (73, _), (78, _), (84, _), (90, _), (96, _), (102, _), (108, _)]) rfl ?_
              refine C.ret ?_
              exact ⟨rfl, hb_bad (hR.trans (run_big hsy (by omega))) (bad_corrupt _) hA2 H hrd hwr hsum htr⟩
    ·
     rintro _ _ ⟨hq38, rfl, hv1, hv2⟩
     refine C.weaken _ hq38 ?_
     refine C.cut (M := fun ee ll => ∃ (q : Nat), ∃ (b : Nat), ∃ (nb : Nat), ∃ (ro : Int), ∃ (g1 : Frag), ∃ (g2 : Frag), ∃ (g3 : Frag), ∃ (ln : Nat), keeps ee [0, 5] = some [(0, .pointer (some ⟨fb, 0, none⟩)), (5, .int .i64 ((ln : Nat) : Int))] ∧ ll = [g1, g2, g3, ⟨fb, 0, [.iface src.t src.v, .pointer none, .int .i64 (ro), .int .u32 (((b) : Nat) : Int), .int .u64 (((nb) : Nat) : Int)]⟩, ⟨fb, 1045, [.func (.func stp) #[] #[], .int .i64 (((ss) : Nat) : Int), .bool last, .nilIface, trv, .pointer (some ⟨lb, lo, none⟩), .pointer hp, .int .i64 (((cl) : Nat) : Int), .int .i64 (((cd) : Nat) : Int)]⟩, ⟨fb, 1037, [.slice (some ⟨hb, 0, none⟩) 32768 32768, .int .i64 (((wr) : Nat) : Int), .int .i64 (((rd) : Nat) : Int), .bool full]⟩, ⟨hb, 0, bytesV (h)⟩] ++ (HL ++ HD) ∧ (src.At (dt.drop q) g1 g2 g3) ∧ (BitsIn dt (p + lenOf t.lit v + moreL.getD (v - 257) 0) q b nb) ∧ (nb < t.mn + 8) ∧ (ln = sizesL.getD (v - 257) 0 + takeB dt (p + lenOf t.lit v) (moreL.getD (v - 257) 0)) ∧ (¬ left dt (p + lenOf t.lit v) < moreL.getD (v - 257) 0)) ?_ ?_
     ·
      refine C.seq ?_
      refine C.region ?_
      refine E.pure (S.move rfl) rfl ?_
      refine E.pure (S.gt (b := ((0 : Nat) : Int)) rfl rfl) rfl ?_
      refine E.keep [0, 4, 5, 112] (env1 := [(0, _), (4, _), (5, _), (112, _)]) rfl ?_
      refine C.ifp rfl (fun h112 => ?_) (fun h112 => ?_)
      ·
       have hszb := size_bound (D := dt) (p := p + lenOf t.lit v) hv2 hv1
       have h2M : 2 ^ (moreL.getD (v - 257) 0) ≤ 2 ^ 5 := Nat.pow_le_pow_right (by omega) hszb.2
       have h2M1 : 0 < 2 ^ (moreL.getD (v - 257) 0) := Nat.pow_pos (by omega)
       refine C.seq ?_
       refine C.block ?_
       refine C.loop (fun mm ee ll => ∃ (q : Nat), ∃ (b : Nat), ∃ (nb : Nat), ∃ (ro : Int), ∃ (g1 : Frag), ∃ (g2 : Frag), ∃ (g3 : Frag), keeps ee [0, 4, 5] = some [(0, .pointer (some ⟨fb, 0, none⟩)), (4, .int .u64 ((moreL.getD (v - 257) 0 : Nat) : Int)), (5, .int .i64 ((sizesL.getD (v - 257) 0 : Nat) : Int))] ∧ ll = [g1, g2, g3, ⟨fb, 0, [.iface src.t src.v, .pointer none, .int .i64 (ro), .int .u32 (((b) : Nat) : Int), .int .u64 (((nb) : Nat) : Int)]⟩, ⟨fb, 1045, [.func (.func stp) #[] #[], .int .i64 (((ss) : Nat) : Int), .bool last, .nilIface, trv, .pointer (some ⟨lb, lo, none⟩), .pointer hp, .int .i64 (((cl) : Nat) : Int), .int .i64 (((cd) : Nat) : Int)]⟩, ⟨fb, 1037, [.slice (some ⟨hb, 0, none⟩) 32768 32768, .int .i64 (((wr) : Nat) : Int), .int .i64 (((rd) : Nat) : Int), .bool full]⟩, ⟨hb, 0, bytesV (h)⟩] ++ (HL ++ HD) ∧ (src.At (dt.drop q) g1 g2 g3) ∧ (BitsIn dt (p + lenOf t.lit v) q b nb) ∧ (nb < t.mn + 8 ∨ nb < moreL.getD (v - 257) 0 + 8) ∧ mm = moreL.getD (v - 257) 0 - nb) (_) ⟨q2, b2, nb2, ro2, y1, y2, y3, rfl, rfl, hA2, hB2, .inl hnb2, rfl⟩ ?_
       rintro m0 _ _ ⟨q, b, nb, ro, g1, g2, g3, hk0, rfl, hA, hB, hnl, hm0⟩
       refine C.weaken _ hk0 ?_
       refine C.seq ?_
       refine C.seq ?_
       refine C.region ?_
       refine E.pure (S.move rfl) rfl ?_
       refine E.pure (S.nilPtr rfl) rfl ?_
       refine E.pure (S.field rfl fa153_4) rfl ?_
       refine E.still (S.load 3 (k := 4) rfl rfl rfl Tryd.isAgg92) rfl ?_
       refine E.pure (S.move rfl) rfl ?_
       refine E.pure (S.lt rfl rfl) rfl ?_
       refine E.keep [0, 4, 5, 118] (env1 := [(0, _), (4, _), (5, _), (118, _)]) rfl ?_
       refine C.ifp rfl (fun h118 => ?_) (fun h118 => ?_)
       ·
        refine C.skip ?_
        refine C.block ?_
        refine C.seq ?_
        refine C.region ?_
        refine E.pure (S.move rfl) rfl ?_
        refine E.loud1 (OpX.pick [0, 0, 0, 0] (F := (_ :: _ :: _ :: _)) rfl (X.call rfl Tryd.call71 (moreBits_e hs src _ _ _ fb _ dt _ _ _ _ hA hB (by omega)))) rfl ?_; rintro _ _ ⟨_, ⟨k1, k2, k3, e4, b4, nb4, ro4, rfl, rfl, hE4⟩, rfl⟩; refine E.relist (L2 := (_ :: _ :: _ :: _ :: _ :: _ :: _ :: _)) rfl ?_
        refine E.perml [0, 0, 0, 0, 0, 0, 0] rfl ?_
        refine E.relist (L2 := (_ :: _ :: _ :: _ :: _ :: _ :: _ :: _)) rfl ?_
        refine E.pure (S.assign rfl) rfl ?_
        refine E.keep [0, 3, 4, 5, 118] (env1 := [(0, _), (3, _), (4, _), (5, _), (118, _)]) rfl ?_
        refine C.seq ?_
        refine C.region ?_
        refine E.pure (S.move rfl) rfl ?_
        refine E.still (S.neErNil rfl) rfl ?_
        refine E.keep [0, 3, 4, 5, 118, 122] (env1 := [(0, _), (3, _), (4, _), (5, _), (118, _), (122, _)]) rfl ?_
        first | refine C.ifp rfl (fun h122 => ?_) (fun h122 => ?_) | refine C.ifNone rfl (fun h122 => ?_) (fun h122 => ?_) | refine C.ifSome rfl (fun h122 => ?_) (fun h122 => ?_) | refine C.ifSe rfl (fun h122 => ?_) (fun h122 => ?_) | refine C.ifNotSe rfl (fun h122 => ?_) (fun h122 => ?_) | refine C.cond rfl (fun h122 => ?_) (fun h122 => ?_)
        ·
         obtain ⟨hb5, hqe, lx, hAx⟩ := hE4.resolve_left fun h => h122 h.1
         have hle := hB.left_eq
         refine C.seq ?_
         refine C.region ?_
         refine E.pure (S.move rfl) rfl ?_
         refine E.pure (S.move rfl) rfl ?_
         refine E.pure (S.nilPtr rfl) rfl ?_
         refine E.pure (S.field rfl fa153_14) rfl ?_
         refine E.loud0 (X.store 4 (k := 3) rfl rfl rfl (one_er _) rfl Tryd.sizeOf59) ?_; rintro _ _ ⟨rfl, rfl⟩; refine E.relist (L2 := (_ :: _ :: _ :: _ :: _ :: _ :: _ :: _)) rfl ?_
         refine E.keep [0, 3, 4, 5, 118, 122] (env1 := [(0, _), (3, _), (4, _), (5, _), (118, _), (122, _)]) rfl ?_
         refine C.ret ?_
         exact ⟨rfl, hb_bad (hR.trans (run_bad hsy hv1 hv2 (copyR_more (by omega)))) (hb5) hAx H hrd hwr hsum htr⟩
        ·
         obtain ⟨_, hA4, hB4, hn4⟩ := hE4.resolve_right fun h => h.1.2 h122
         subst hn4
         refine C.skip ?_
         refine ⟨_, ?_, _, _, _, _, _, _, _, rfl, rfl, hA4, hB4, .inr (by omega), rfl⟩; omega
       ·
        have hMn : moreL.getD (v - 257) 0 ≤ nb := by omega
        have hb2 := hB.lt32 (by omega)
        have htk := hB.take hMn
        have htl := takeB_lt dt (p + lenOf t.lit v) (moreL.getD (v - 257) 0)
        have hle := hB.left_eq
        refine C.exit rfl ?_
        refine C.seq ?_
        refine C.region ?_
        refine E.pure (S.move rfl) rfl ?_
        refine E.pure (S.move rfl) rfl ?_
        refine E.pure (S.nilPtr rfl) rfl ?_
        refine E.pure (S.field rfl fa153_3) rfl ?_
        refine E.still (S.load 3 (k := 3) rfl rfl rfl Tryd.isAgg52) rfl ?_
        refine E.pure (S.move rfl) rfl ?_
        refine E.pure (S.shl (a := ((1 : Nat) : Int)) rfl rfl (by omega) (N.shl_u32 _ _)) rfl ?_
        refine E.reslot (v := .int .u32 ((2 ^ (moreL.getD (v - 257) 0) : Nat) : Int)) (congrArg (fun y : Nat => Value.int .u32 (y : Int)) (by rw [Nat.one_shiftLeft]; exact Nat.mod_eq_of_lt (by omega))) ?_
        refine E.pure (S.sub (b := ((1 : Nat) : Int)) rfl rfl (N.sub_u32 (by omega) (by omega))) rfl ?_
        refine E.pure (S.and rfl rfl (N.and_u32 (by omega) (by omega))) rfl ?_
        refine E.reslot (v := .int .u32 ((takeB dt (p + lenOf t.lit v) (moreL.getD (v - 257) 0) : Nat) : Int)) (congrArg (fun y : Nat => Value.int .u32 (y : Int)) (by exact mask_take hB (by omega))) ?_
        refine E.pure (S.conv rfl Tryd.underlying52 Tryd.underlying3 (N.i64n (by omega))) rfl ?_
        refine E.pure (S.add rfl rfl (N.add64 (by omega))) rfl ?_
        refine E.pure (S.assign rfl) rfl ?_
        refine E.keep [0, 4, 5, 118] (env1 := [(0, _), (4, _), (5, _), (118, _)]) rfl ?_
        refine C.seq ?_
        refine C.region ?_
        refine E.pure (S.move rfl) rfl ?_
        refine E.pure (S.nilPtr rfl) rfl ?_
        refine E.pure (S.field rfl fa153_3) rfl ?_
        refine E.still (S.load 3 (k := 3) rfl rfl rfl Tryd.isAgg52) rfl ?_
        refine E.pure (S.move rfl) rfl ?_
        refine E.pure (S.shr rfl rfl (by omega) (N.shr_u32 (by omega) _)) rfl ?_
        refine E.reslot (v := .int .u32 ((b / 2 ^ (moreL.getD (v - 257) 0) : Nat) : Int)) (congrArg (fun y : Nat => Value.int .u32 (y : Int)) (by rw [Nat.shiftRight_eq_div_pow])) ?_
        refine E.pure (S.nilPtr rfl) rfl ?_
        refine E.pure (S.field rfl fa153_3) rfl ?_
        refine E.loud0 (X.store 3 (k := 3) rfl rfl rfl rfl rfl Tryd.sizeOf52) ?_; rintro _ _ ⟨rfl, rfl⟩; refine E.relist (L2 := (_ :: _ :: _ :: _ :: _ :: _ :: _ :: _)) rfl ?_
        refine E.keep [0, 4, 5, 118] (env1 := [(0, _), (4, _), (5, _), (118, _)]) rfl ?_
        refine C.region ?_
        refine E.pure (S.move rfl) rfl ?_
        refine E.pure (S.nilPtr rfl) rfl ?_
        refine E.pure (S.field rfl fa153_4) rfl ?_
        refine E.still (S.load 3 (k := 4) rfl rfl rfl Tryd.isAgg92) rfl ?_
        refine E.pure (S.move rfl) rfl ?_
        refine E.pure (S.sub rfl rfl (N.sub_u64 (by omega) (by omega))) rfl ?_
        refine E.pure (S.nilPtr rfl) rfl ?_
        refine E.pure (S.field rfl fa153_4) rfl ?_
        refine E.loud0 (X.store 3 (k := 4) rfl rfl rfl rfl rfl Tryd.sizeOf92) ?_; rintro _ _ ⟨rfl, rfl⟩; refine E.relist (L2 := (_ :: _ :: _ :: _ :: _ :: _ :: _ :: _)) rfl ?_
        refine E.keep [0, 4, 5, 118] (env1 := [(0, _), (4, _), (5, _), (118, _)]) rfl ?_
        exact ⟨_, _, _, _, _, _, _, _, rfl, rfl, hA, htk.2, by omega, rfl, by omega⟩
      ·
       have hM0 : moreL.getD (v - 257) 0 = 0 := by omega
       refine C.skip ?_
       first | exact ⟨_, _, _, _, _, _, _, _, rfl, rfl, hA, htk.2, by omega, rfl, by omega⟩ | exact ⟨_, _, _, _, _, _, _, sizesL.getD (v - 257) 0, rfl, rfl, hA2, (by rw [hM0]; exact hB2), hnb2, (by rw [hM0]; simp [takeB, Nat.mod_one]), by omega⟩
     ·
      rintro _ _ ⟨q, b, nb, ro, g1, g2, g3, ln, hq46, rfl, hA, hB, hnb, hln, hml⟩
      refine C.weaken _ hq46 ?_
      refine C.seq ?_
      refine C.region ?_
      refine E.pure (S.assign rfl) rfl ?_
      refine E.keep [0, 5, 6] (env1 := [(0, _), (5, _), (6, _)]) rfl ?_
      refine C.cut (M := fun ee ll => ∃ (q : Nat), ∃ (b : Nat), ∃ (nb : Nat), ∃ (ro : Int), ∃ (g1 : Frag), ∃ (g2 : Frag), ∃ (g3 : Frag), ∃ (d : Nat), keeps ee [0, 5, 6] = some [(0, .pointer (some ⟨fb, 0, none⟩)), (5, .int .i64 ((ln : Nat) : Int)), (6, .int .i64 ((d : Nat) : Int))] ∧ ll = [g1, g2, g3, ⟨fb, 0, [.iface src.t src.v, .pointer none, .int .i64 (ro), .int .u32 (((b) : Nat) : Int), .int .u64 (((nb) : Nat) : Int)]⟩, ⟨fb, 1045, [.func (.func stp) #[] #[], .int .i64 (((ss) : Nat) : Int), .bool last, .nilIface, trv, .pointer (some ⟨lb, lo, none⟩), .pointer hp, .int .i64 (((cl) : Nat) : Int), .int .i64 (((cd) : Nat) : Int)]⟩, ⟨fb, 1037, [.slice (some ⟨hb, 0, none⟩) 32768 32768, .int .i64 (((wr) : Nat) : Int), .int .i64 (((rd) : Nat) : Int), .bool full]⟩, ⟨hb, 0, bytesV (h)⟩] ++ (HL ++ HD) ∧ (src.At (dt.drop q) g1 g2 g3) ∧ (BitsIn dt (p + lenOf t.lit v + moreL.getD (v - 257) 0 + lenOf t.dist d) q b nb) ∧ (nb < t.mn + 8) ∧ (symR t.dist 0 dt (p + lenOf t.lit v + moreL.getD (v - 257) 0) = some d) ∧ (d < 320)) ?_ ?_
      ·
       refine C.seq ?_
       refine C.region ?_
       refine E.pure (S.move rfl) rfl ?_
       refine E.pure (S.nilPtr rfl) rfl ?_
       refine E.pure (S.field rfl fa153_17) rfl ?_
       refine E.still (S.load 4 (k := 6) rfl rfl rfl Tryd.isAgg151) rfl ?_
       refine E.pure (S.eqPtrNil rfl Tryd.underlying151) rfl ?_
       refine E.keep [0, 5, 6, 158] (env1 := [(0, _), (5, _), (6, _), (158, _)]) rfl ?_
       first | refine C.ifp rfl (fun h158 => ?_) (fun h158 => ?_) | refine C.ifNone rfl (fun h158 => ?_) (fun h158 => ?_) | refine C.ifSome rfl (fun h158 => ?_) (fun h158 => ?_) | refine C.ifSe rfl (fun h158 => ?_) (fun h158 => ?_) | refine C.ifNotSe rfl (fun h158 => ?_) (fun h158 => ?_) | refine C.cond rfl (fun h158 => ?_) (fun h158 => ?_)
       ·
        have hdf : t.dist = fixDist := by
          rcases hD with h1 | ⟨db, dO, h1, _⟩
          · exact h1.2.1
          · rw [h1] at h158; cases h158
        refine C.seq ?_
        refine C.block ?_
        refine C.loop (fun mm ee ll => ∃ (q : Nat), ∃ (b : Nat), ∃ (nb : Nat), ∃ (ro : Int), ∃ (g1 : Frag), ∃ (g2 : Frag), ∃ (g3 : Frag), keeps ee [0, 5] = some [(0, .pointer (some ⟨fb, 0, none⟩)), (5, .int .i64 ((ln : Nat) : Int))] ∧ ll = [g1, g2, g3, ⟨fb, 0, [.iface src.t src.v, .pointer none, .int .i64 (ro), .int .u32 (((b) : Nat) : Int), .int .u64 (((nb) : Nat) : Int)]⟩, ⟨fb, 1045, [.func (.func stp) #[] #[], .int .i64 (((ss) : Nat) : Int), .bool last, .nilIface, trv, .pointer (some ⟨lb, lo, none⟩), .pointer hp, .int .i64 (((cl) : Nat) : Int), .int .i64 (((cd) : Nat) : Int)]⟩, ⟨fb, 1037, [.slice (some ⟨hb, 0, none⟩) 32768 32768, .int .i64 (((wr) : Nat) : Int), .int .i64 (((rd) : Nat) : Int), .bool full]⟩, ⟨hb, 0, bytesV (h)⟩] ++ (HL ++ HD) ∧ (src.At (dt.drop q) g1 g2 g3) ∧ (BitsIn dt (p + lenOf t.lit v + moreL.getD (v - 257) 0) q b nb) ∧ (nb < t.mn + 8 ∨ nb < 5 + 8) ∧ mm = 5 - nb) (_) ⟨q, b, nb, ro, g1, g2, g3, rfl, rfl, hA, hB, .inl hnb, rfl⟩ ?_
        rintro m1 _ _ ⟨q, b, nb, ro, g1, g2, g3, hk1, rfl, hA, hB, hnl, hm1⟩
        refine C.weaken _ hk1 ?_
        refine C.seq ?_
        refine C.seq ?_
        refine C.region ?_
        refine E.pure (S.move rfl) rfl ?_
        refine E.pure (S.nilPtr rfl) rfl ?_
        refine E.pure (S.field rfl fa153_4) rfl ?_
        refine E.still (S.load 3 (k := 4) rfl rfl rfl Tryd.isAgg92) rfl ?_
        refine E.pure (S.lt (b := ((5 : Nat) : Int)) rfl rfl) rfl ?_
        refine E.keep [0, 5, 163] (env1 := [(0, _), (5, _), (163, _)]) rfl ?_
        refine C.ifp rfl (fun h163 => ?_) (fun h163 => ?_)
        ·
         refine C.skip ?_
         refine C.block ?_
         refine C.seq ?_
         refine C.region ?_
         refine E.pure (S.move rfl) rfl ?_
         refine E.loud1 (OpX.pick [0, 0, 0, 0] (F := (_ :: _ :: _ :: _)) rfl (X.call rfl Tryd.call71 (moreBits_e hs src _ _ _ fb _ dt _ _ _ _ hA hB (by omega)))) rfl ?_; rintro _ _ ⟨_, ⟨k1, k2, k3, e4, b4, nb4, ro4, rfl, rfl, hE4⟩, rfl⟩; refine E.relist (L2 := (_ :: _ :: _ :: _ :: _ :: _ :: _ :: _)) rfl ?_
         refine E.perml [0, 0, 0, 0, 0, 0, 0] rfl ?_
         refine E.relist (L2 := (_ :: _ :: _ :: _ :: _ :: _ :: _ :: _)) rfl ?_
         refine E.pure (S.assign rfl) rfl ?_
         refine E.keep [0, 3, 5, 163] (env1 := [(0, _), (3, _), (5, _), (163, _)]) rfl ?_
         refine C.seq ?_
         refine C.region ?_
         refine E.pure (S.move rfl) rfl ?_
         refine E.still (S.neErNil rfl) rfl ?_
         refine E.keep [0, 3, 5, 163, 167] (env1 := [(0, _), (3, _), (5, _), (163, _), (167, _)]) rfl ?_
         first | refine C.ifp rfl (fun h167 => ?_) (fun h167 => ?_) | refine C.ifNone rfl (fun h167 => ?_) (fun h167 => ?_) | refine C.ifSome rfl (fun h167 => ?_) (fun h167 => ?_) | refine C.ifSe rfl (fun h167 => ?_) (fun h167 => ?_) | refine C.ifNotSe rfl (fun h167 => ?_) (fun h167 => ?_) | refine C.cond rfl (fun h167 => ?_) (fun h167 => ?_)
         ·
          obtain ⟨hb5, hqe, lx, hAx⟩ := hE4.resolve_left fun h => h167 h.1
          have hle := hB.left_eq
          refine C.seq ?_
          refine C.region ?_
          refine E.pure (S.move rfl) rfl ?_
          refine E.pure (S.move rfl) rfl ?_
          refine E.pure (S.nilPtr rfl) rfl ?_
          refine E.pure (S.field rfl fa153_14) rfl ?_
          refine E.loud0 (X.store 4 (k := 3) rfl rfl rfl (one_er _) rfl Tryd.sizeOf59) ?_; rintro _ _ ⟨rfl, rfl⟩; refine E.relist (L2 := (_ :: _ :: _ :: _ :: _ :: _ :: _ :: _)) rfl ?_
          refine E.keep [0, 3, 5, 163, 167] (env1 := [(0, _), (3, _), (5, _), (163, _), (167, _)]) rfl ?_
          refine C.ret ?_
          exact ⟨rfl, hb_bad (hR.trans (run_bad hsy hv1 hv2 (copyR_nodist hml (by rw [hdf]; exact sym_fix_none (by omega))))) (hb5) hAx H hrd hwr hsum htr⟩
         ·
          obtain ⟨_, hA4, hB4, hn4⟩ := hE4.resolve_right fun h => h.1.2 h167
          subst hn4
          refine C.skip ?_
          refine ⟨_, ?_, _, _, _, _, _, _, _, rfl, rfl, hA4, hB4, .inr (by omega), rfl⟩; omega
        ·
         have h5n : 5 ≤ nb := by omega
         have hb2 := hB.lt32 (by omega)
         have hle := hB.left_eq
         have htk := hB.take h5n
         have hf := sym_fix (D := dt) (p := p + lenOf t.lit v + moreL.getD (v - 257) 0) (by omega)
         have hdl : revB 5 (takeB dt (p + lenOf t.lit v + moreL.getD (v - 257) 0) 5) < 320 := by omega
         refine C.exit rfl ?_
         refine C.seq ?_
         refine C.region ?_
         refine E.pure (S.move rfl) rfl ?_
         refine E.pure (S.nilPtr rfl) rfl ?_
         refine E.pure (S.field rfl fa153_3) rfl ?_
         refine E.still (S.load 3 (k := 3) rfl rfl rfl Tryd.isAgg52) rfl ?_
         refine E.pure (S.and (b := ((31 : Nat) : Int)) rfl rfl (N.and_u32 (by omega) (by omega))) rfl ?_
         refine E.reslot (v := .int .u32 ((b % 32 : Nat) : Int)) (congrArg (fun y : Nat => Value.int .u32 (y : Int)) (by exact Nat.and_two_pow_sub_one_eq_mod b 5)) ?_
         refine E.pure (S.shl (b := ((3 : Nat) : Int)) rfl rfl (by omega) (N.shl_u32 _ _)) rfl ?_
         refine E.reslot (v := .int .u32 ((b % 32 * 8 : Nat) : Int)) (congrArg (fun y : Nat => Value.int .u32 (y : Int)) (by rw [Nat.shiftLeft_eq]; omega)) ?_
         refine E.pure (S.conv rfl Tryd.underlying52 Tryd.underlying5 (N.in_u8 (by omega))) rfl ?_
         refine E.loud1 (OpX.pick [] (F := (_ :: _ :: _ :: _ :: _ :: _ :: _ :: _)) rfl (X.call rfl Tryd.call84 (reverse8_spec _ (by omega)))) rfl ?_; rintro _ _ ⟨_, ⟨rfl, rfl⟩, rfl⟩; refine E.relist (L2 := (_ :: _ :: _ :: _ :: _ :: _ :: _ :: _)) rfl ?_
         have hr8 := revB_lt 8 (b % 32 * 8)
         refine E.pure (S.conv rfl Tryd.underlying5 Tryd.underlying3 (N.i64n (by omega))) rfl ?_
         refine E.reslot (v := .int .i64 ((revB 5 (takeB dt (p + lenOf t.lit v + moreL.getD (v - 257) 0) 5) : Nat) : Int)) (congrArg (fun y : Nat => Value.int .i64 (y : Int)) (by rw [rev85 (by omega)]; exact congrArg (revB 5) (hB.take (n := 5) (by omega)).1)) ?_
         refine E.pure (S.assign rfl) rfl ?_
         refine E.keep [0, 5, 6, 163] (env1 := [(0, _), (5, _), (6, _), (163, _)]) rfl ?_
         refine C.seq ?_
         refine C.region ?_
         refine E.pure (S.move rfl) rfl ?_
         refine E.pure (S.nilPtr rfl) rfl ?_
         refine E.pure (S.field rfl fa153_3) rfl ?_
         refine E.still (S.load 3 (k := 3) rfl rfl rfl Tryd.isAgg52) rfl ?_
         refine E.pure (S.shr (b := ((5 : Nat) : Int)) rfl rfl (by omega) (N.shr_u32 (by omega) _)) rfl ?_
         refine E.reslot (v := .int .u32 ((b / 2 ^ 5 : Nat) : Int)) (congrArg (fun y : Nat => Value.int .u32 (y : Int)) (by rw [Nat.shiftRight_eq_div_pow])) ?_
         refine E.pure (S.nilPtr rfl) rfl ?_
         refine E.pure (S.field rfl fa153_3) rfl ?_
         refine E.loud0 (X.store 3 (k := 3) rfl rfl rfl rfl rfl Tryd.sizeOf52) ?_; rintro _ _ ⟨rfl, rfl⟩; refine E.relist (L2 := (_ :: _ :: _ :: _ :: _ :: _ :: _ :: _)) rfl ?_
         refine E.keep [0, 5, 6, 163] (env1 := [(0, _), (5, _), (6, _), (163, _)]) rfl ?_
         refine C.region ?_
         refine E.pure (S.move rfl) rfl ?_
         refine E.pure (S.nilPtr rfl) rfl ?_
         refine E.pure (S.field rfl fa153_4) rfl ?_
         refine E.still (S.load 3 (k := 4) rfl rfl rfl Tryd.isAgg92) rfl ?_
         refine E.pure (S.sub (b := ((5 : Nat) : Int)) rfl rfl (N.sub_u64 (by omega) (by omega))) rfl ?_
         refine E.pure (S.nilPtr rfl) rfl ?_
         refine E.pure (S.field rfl fa153_4) rfl ?_
         refine E.loud0 (X.store 3 (k := 4) rfl rfl rfl rfl rfl Tryd.sizeOf92) ?_; rintro _ _ ⟨rfl, rfl⟩; refine E.relist (L2 := (_ :: _ :: _ :: _ :: _ :: _ :: _ :: _)) rfl ?_
         refine E.keep [0, 5, 6, 163] (env1 := [(0, _), (5, _), (6, _), (163, _)]) rfl ?_
         exact ⟨_, _, _, _, _, _, _, revB 5 (takeB dt (p + lenOf t.lit v + moreL.getD (v - 257) 0) 5), rfl, rfl, hA, (by rw [hdf, fix_len hf.2]; exact htk.2), by omega, (by rw [hdf]; exact hf.1), hdl⟩
       ·
        obtain ⟨db, dO, hp1, hHd, hdok, hd15, hdlen⟩ := hD.resolve_left fun h1 => by rw [h1.1] at h158; cases h158
        subst hp1
        refine C.seq ?_
        refine C.region ?_
        refine E.pure (S.move rfl) rfl ?_
        refine E.pure (S.move rfl) rfl ?_
        refine E.pure (S.nilPtr rfl) rfl ?_
        refine E.pure (S.field rfl fa153_17) rfl ?_
        refine E.still (S.load 4 (k := 6) rfl rfl rfl Tryd.isAgg151) rfl ?_
        refine E.loud1 (X.call rfl Tryd.call81 (huffSym_end hs src _ _ _ fb _ _ _ _ _ _ _ _ _ _ db dO dt _ _ _ _ hA hB (by have := hL.mn15; omega) t.dist (minL t.dist) hdok hd15 (Nat.le_refl _) (min_15 hd15) HD (⟨fb, 1037, [.slice (some ⟨hb, 0, none⟩) 32768 32768, .int .i64 (((wr) : Nat) : Int), .int .i64 (((rd) : Nat) : Int), .bool full]⟩ :: ⟨hb, 0, bytesV (h)⟩ :: HL) hHd)) rfl ?_; rintro _ _ ⟨e5, vi5, k1, k2, k3, a5, b5, c5, ev5, rfl, hE5, rfl⟩; refine E.relist (L2 := (_ :: _ :: _ :: _ :: _ :: _ :: _ :: _)) rfl ?_
        refine E.pure (S.move rfl) rfl ?_
        refine E.pure (S.extract rfl rfl) rfl ?_
        refine E.pure (S.extract rfl rfl) rfl ?_
        refine E.pure (S.assign rfl) rfl ?_
        refine E.pure (S.assign rfl) rfl ?_
        refine E.keep [0, 3, 5, 6, 158] (env1 := [(0, _), (3, _), (5, _), (6, _), (158, _)]) rfl ?_
        refine C.seq ?_
        refine C.region ?_
        refine E.pure (S.move rfl) rfl ?_
        refine E.still (S.neErNil rfl) rfl ?_
        refine E.keep [0, 3, 5, 6, 158, 205] (env1 := [(0, _), (3, _), (5, _), (6, _), (158, _), (205, _)]) rfl ?_
        first | refine C.ifp rfl (fun h205 => ?_) (fun h205 => ?_) | refine C.ifNone rfl (fun h205 => ?_) (fun h205 => ?_) | refine C.ifSome rfl (fun h205 => ?_) (fun h205 => ?_) | refine C.ifSe rfl (fun h205 => ?_) (fun h205 => ?_) | refine C.ifNotSe rfl (fun h205 => ?_) (fun h205 => ?_) | refine C.cond rfl (fun h205 => ?_) (fun h205 => ?_)
        ·
         obtain ⟨hb5, hsn, lx, hAx⟩ := hE5.resolve_left fun h => h205 h.1
         refine C.seq ?_
         refine C.region ?_
         refine E.pure (S.move rfl) rfl ?_
         refine E.pure (S.move rfl) rfl ?_
         refine E.pure (S.nilPtr rfl) rfl ?_
         refine E.pure (S.field rfl fa153_14) rfl ?_
         refine E.loud0 (X.store 4 (k := 3) rfl rfl rfl (one_er _) rfl Tryd.sizeOf59) ?_; rintro _ _ ⟨rfl, rfl⟩; refine E.relist (L2 := (_ :: _ :: _ :: _ :: _ :: _ :: _ :: _)) rfl ?_
         refine E.keep [0, 3, 5, 6, 158, 205] (env1 := [(0, _), (3, _), (5, _), (6, _), (158, _), (205, _)]) rfl ?_
         refine C.ret ?_
         exact ⟨rfl, hb_bad (hR.trans (run_bad hsy hv1 hv2 (copyR_nodist hml (symR_min.symm.trans hsn)))) (hb5) hAx H hrd hwr hsum htr⟩
        ·
         obtain ⟨_, d, rfl, hsyd0, hdl, q5, b5, nb5, ro5, hA5, hB5, hn5, hbd5, rfl, rfl, rfl, rfl⟩ := hE5.resolve_right fun h => h.1.2 h205
         have hm5 := (symR_some hsyd0).1
         have hmin5 : minL t.dist ≤ lenOf t.dist d := by rw [lenOf_get (lenOf_lt hm5.1)]; exact (minL_spec _).2.1 _ (List.getElem_mem _) (by have := hm5.1; rw [lenOf_get (lenOf_lt hm5.1)] at this; omega)
         rw [Nat.max_eq_right hmin5] at hbd5
         refine C.skip ?_
         first | exact ⟨_, _, _, _, _, _, _, revB 5 (takeB dt (p + lenOf t.lit v + moreL.getD (v - 257) 0) 5), rfl, rfl, hA, (by rw [hdf, fix_len hf.2]; exact htk.2), by omega, (by rw [hdf]; exact hf.1), hdl⟩ | exact ⟨_, _, _, _, _, _, _, d, rfl, rfl, hA5, hB5, by omega, (symR_min.symm.trans hsyd0), by omega⟩
      ·
       rintro _ _ ⟨q, b, nb, ro, g1, g2, g3, d, hq59, rfl, hA, hB, hnb, hsyd, hdl⟩
       refine C.weaken _ hq59 ?_
       refine C.cut (M := fun ee ll => ∃ (q : Nat), ∃ (b : Nat), ∃ (nb : Nat), ∃ (ro : Int), ∃ (g1 : Frag), ∃ (g2 : Frag), ∃ (g3 : Frag), keeps ee [0, 5, 6] = some [(0, .pointer (some ⟨fb, 0, none⟩)), (5, .int .i64 ((ln : Nat) : Int)), (6, .int .i64 ((farL.getD d 0 + takeB dt (p + lenOf t.lit v + moreL.getD (v - 257) 0 + lenOf t.dist d) (furL.getD d 0) : Nat) : Int))] ∧ ll = [g1, g2, g3, ⟨fb, 0, [.iface src.t src.v, .pointer none, .int .i64 (ro), .int .u32 (((b) : Nat) : Int), .int .u64 (((nb) : Nat) : Int)]⟩, ⟨fb, 1045, [.func (.func stp) #[] #[], .int .i64 (((ss) : Nat) : Int), .bool last, .nilIface, trv, .pointer (some ⟨lb, lo, none⟩), .pointer hp, .int .i64 (((cl) : Nat) : Int), .int .i64 (((cd) : Nat) : Int)]⟩, ⟨fb, 1037, [.slice (some ⟨hb, 0, none⟩) 32768 32768, .int .i64 (((wr) : Nat) : Int), .int .i64 (((rd) : Nat) : Int), .bool full]⟩, ⟨hb, 0, bytesV (h)⟩] ++ (HL ++ HD) ∧ (src.At (dt.drop q) g1 g2 g3) ∧ (BitsIn dt (p + lenOf t.lit v + moreL.getD (v - 257) 0 + lenOf t.dist d + furL.getD d 0) q b nb) ∧ (nb < t.mn + 8) ∧ (d < 30) ∧ (¬ left dt (p + lenOf t.lit v + moreL.getD (v - 257) 0 + lenOf t.dist d) < furL.getD d 0)) ?_ ?_
       ·
        refine C.block ?_
        refine C.seq ?_
        refine C.region ?_
        refine E.pure (S.move rfl) rfl ?_
        refine E.pure (S.lt (b := ((4 : Nat) : Int)) rfl rfl) rfl ?_
        refine E.pure (S.assign rfl) rfl ?_
        refine E.keep [0, 5, 6, 218] (env1 := [(0, _), (5, _), (6, _), (218, _)]) rfl ?_
        refine C.ifp rfl (fun h218 => ?_) (fun h218 => ?_)
        ·
         have hft := (far_tab d (by omega)).1 (by omega)
         refine C.region ?_
         refine E.pure (S.move rfl) rfl ?_
         refine E.pure (S.add (b := ((1 : Nat) : Int)) rfl rfl (N.add64 (by omega))) rfl ?_
         refine E.reslot (v := .int .i64 ((farL.getD d 0 + takeB dt (p + lenOf t.lit v + moreL.getD (v - 257) 0 + lenOf t.dist d) (furL.getD d 0) : Nat) : Int)) (congrArg (fun y : Nat => Value.int .i64 (y : Int)) (by have hft := (far_tab d (by omega)).1 (by omega); rw [hft.1, hft.2]; simp [takeB, Nat.mod_one])) ?_
         refine E.pure (S.assign rfl) rfl ?_
         refine E.keep [0, 5, 6, 218] (env1 := [(0, _), (5, _), (6, _), (218, _)]) rfl ?_
         first | exact ⟨_, _, _, _, _, _, _, rfl, rfl, hA, (by rw [hft.1]; exact htk.2), by omega, by omega, (by rw [hft.1]; omega)⟩ | exact ⟨_, _, _, _, _, _, _, rfl, rfl, hA, (by rw [hft.1]; exact hB), hnb, by omega, (by rw [hft.1]; omega)⟩
        ·
         refine C.seq ?_
         refine C.region ?_
         refine E.pure (S.move rfl) rfl ?_
         refine E.pure (S.lt (b := ((30 : Nat) : Int)) rfl rfl) rfl ?_
         refine E.pure (S.assign rfl) rfl ?_
         refine E.keep [0, 5, 6, 218, 223] (env1 := [(0, _), (5, _), (6, _), (218, _), (223, _)]) rfl ?_
         refine C.ifp rfl (fun h223 => ?_) (fun h223 => ?_)
         ·
          have hft := (far_tab d (by omega)).2 (by omega)
          have h2E : 2 ^ ((d - 2) / 2) ≤ 2 ^ 13 := Nat.pow_le_pow_right (by omega) hft.2.2
          have h2E1 : 2 ^ ((d - 2) / 2 + 1) ≤ 2 ^ 14 := Nat.pow_le_pow_right (by omega) (by omega)
          have h2E0 : 0 < 2 ^ ((d - 2) / 2) := Nat.pow_pos (by omega)
          have h2Em : d % 2 * 2 ^ ((d - 2) / 2) ≤ 1 * 2 ^ 13 := Nat.mul_le_mul (by omega) h2E
          refine C.seq ?_
          refine C.region ?_
          refine E.pure (S.move rfl) rfl ?_
          refine E.pure (S.sub (b := ((2 : Nat) : Int)) rfl rfl (N.sub64 (by omega) (by omega))) rfl ?_
          refine E.pure (S.conv rfl Tryd.underlying3 Tryd.underlying92 (N.in_u64 (by omega))) rfl ?_
          refine E.pure (S.shr (b := ((1 : Nat) : Int)) rfl rfl (by omega) (N.shr_u64 (by omega) _)) rfl ?_
          refine E.reslot (v := .int .u64 (((d - 2) / 2 : Nat) : Int)) (congrArg (fun y : Nat => Value.int .u64 (y : Int)) (by rw [Nat.shiftRight_eq_div_pow])) ?_
          refine E.pure (S.assign rfl) rfl ?_
          refine E.keep [0, 5, 6, 7, 218, 223] (env1 := [(0, _), (5, _), (6, _), (7, _), (218, _), (223, _)]) rfl ?_
          refine C.seq ?_
          refine C.region ?_
          refine E.pure (S.move rfl) rfl ?_
          refine E.pure (S.and (b := ((1 : Nat) : Int)) rfl rfl (N.and64 (by omega) (by omega))) rfl ?_
          refine E.reslot (v := .int .i64 ((d % 2 : Nat) : Int)) (congrArg (fun y : Nat => Value.int .i64 (y : Int)) (by exact Nat.and_one_is_mod d)) ?_
          refine E.pure (S.move rfl) rfl ?_
          refine E.pure (S.shl rfl rfl (by omega) (N.shl64 (by rw [Nat.shiftLeft_eq]; omega))) rfl ?_
          refine E.reslot (v := .int .i64 ((d % 2 * 2 ^ ((d - 2) / 2) : Nat) : Int)) (congrArg (fun y : Nat => Value.int .i64 (y : Int)) (by rw [Nat.shiftLeft_eq])) ?_
          refine E.pure (S.assign rfl) rfl ?_
          refine E.keep [0, 5, 6, 7, 8, 218, 223] (env1 := [(0, _), (5, _), (6, _), (7, _), (8, _), (218, _), (223, _)]) rfl ?_
          refine C.seq ?_
          refine C.block ?_
          refine C.loop (fun mm ee ll => ∃ (q : Nat), ∃ (b : Nat), ∃ (nb : Nat), ∃ (ro : Int), ∃ (g1 : Frag), ∃ (g2 : Frag), ∃ (g3 : Frag), keeps ee [0, 5, 6, 7, 8] = some [(0, .pointer (some ⟨fb, 0, none⟩)), (5, .int .i64 ((ln : Nat) : Int)), (6, .int .i64 ((d : Nat) : Int)), (7, .int .u64 (((d - 2) / 2 : Nat) : Int)), (8, .int .i64 ((d % 2 * 2 ^ ((d - 2) / 2) : Nat) : Int))] ∧ ll = [g1, g2, g3, ⟨fb, 0, [.iface src.t src.v, .pointer none, .int .i64 (ro), .int .u32 (((b) : Nat) : Int), .int .u64 (((nb) : Nat) : Int)]⟩, ⟨fb, 1045, [.func (.func stp) #[] #[], .int .i64 (((ss) : Nat) : Int), .bool last, .nilIface, trv, .pointer (some ⟨lb, lo, none⟩), .pointer hp, .int .i64 (((cl) : Nat) : Int), .int .i64 (((cd) : Nat) : Int)]⟩, ⟨fb, 1037, [.slice (some ⟨hb, 0, none⟩) 32768 32768, .int .i64 (((wr) : Nat) : Int), .int .i64 (((rd) : Nat) : Int), .bool full]⟩, ⟨hb, 0, bytesV (h)⟩] ++ (HL ++ HD) ∧ (src.At (dt.drop q) g1 g2 g3) ∧ (BitsIn dt (p + lenOf t.lit v + moreL.getD (v - 257) 0 + lenOf t.dist d) q b nb) ∧ (nb < t.mn + 8 ∨ nb < (d - 2) / 2 + 8) ∧ mm = (d - 2) / 2 - nb) (_) ⟨q, b, nb, ro, g1, g2, g3, rfl, rfl, hA, hB, .inl hnb, rfl⟩ ?_
          rintro m2 _ _ ⟨q, b, nb, ro, g1, g2, g3, hk2, rfl, hA, hB, hnl, hm2⟩
          refine C.weaken _ hk2 ?_
          refine C.seq ?_
          refine C.seq ?_
          refine C.region ?_
          refine E.pure (S.move rfl) rfl ?_
          refine E.pure (S.nilPtr rfl) rfl ?_
          refine E.pure (S.field rfl fa153_4) rfl ?_
          refine E.still (S.load 3 (k := 4) rfl rfl rfl Tryd.isAgg92) rfl ?_
          refine E.pure (S.move rfl) rfl ?_
          refine E.pure (S.lt rfl rfl) rfl ?_
          refine E.keep [0, 5, 6, 7, 8, 239] (env1 := [(0, _), (5, _), (6, _), (7, _), (8, _), (239, _)]) rfl ?_
          refine C.ifp rfl (fun h239 => ?_) (fun h239 => ?_)
          ·
           refine C.skip ?_
           refine C.block ?_
           refine C.seq ?_
           refine C.region ?_
           refine E.pure (S.move rfl) rfl ?_
           refine E.loud1 (OpX.pick [0, 0, 0, 0] (F := (_ :: _ :: _ :: _)) rfl (X.call rfl Tryd.call71 (moreBits_e hs src _ _ _ fb _ dt _ _ _ _ hA hB (by omega)))) rfl ?_; rintro _ _ ⟨_, ⟨k1, k2, k3, e4, b4, nb4, ro4, rfl, rfl, hE4⟩, rfl⟩; refine E.relist (L2 := (_ :: _ :: _ :: _ :: _ :: _ :: _ :: _)) rfl ?_
           refine E.perml [0, 0, 0, 0, 0, 0, 0] rfl ?_
           refine E.relist (L2 := (_ :: _ :: _ :: _ :: _ :: _ :: _ :: _)) rfl ?_
           refine E.pure (S.assign rfl) rfl ?_
           refine E.keep [0, 3, 5, 6, 7, 8, 239] (env1 := [(0, _), (3, _), (5, _), (6, _), (7, _), (8, _), (239, _)]) rfl ?_
           refine C.seq ?_
           refine C.region ?_
           refine E.pure (S.move rfl) rfl ?_
           refine E.still (S.neErNil rfl) rfl ?_
           refine E.keep [0, 3, 5, 6, 7, 8, 239, 243] (env1 := [(0, _), (3, _), (5, _), (6, _), (7, _), (8, _), (239, _), (243, _)]) rfl ?_
           first | refine C.ifp rfl (fun h243 => ?_) (fun h243 => ?_) | refine C.ifNone rfl (fun h243 => ?_) (fun h243 => ?_) | refine C.ifSome rfl (fun h243 => ?_) (fun h243 => ?_) | refine C.ifSe rfl (fun h243 => ?_) (fun h243 => ?_) | refine C.ifNotSe rfl (fun h243 => ?_) (fun h243 => ?_) | refine C.cond rfl (fun h243 => ?_) (fun h243 => ?_)
           ·
            obtain ⟨hb5, hqe, lx, hAx⟩ := hE4.resolve_left fun h => h243 h.1
            have hle := hB.left_eq
            refine C.seq ?_
            refine C.region ?_
            refine E.pure (S.move rfl) rfl ?_
            refine E.pure (S.move rfl) rfl ?_
            refine E.pure (S.nilPtr rfl) rfl ?_
            refine E.pure (S.field rfl fa153_14) rfl ?_
            refine E.loud0 (X.store 4 (k := 3) rfl rfl rfl (one_er _) rfl Tryd.sizeOf59) ?_; rintro _ _ ⟨rfl, rfl⟩; refine E.relist (L2 := (_ :: _ :: _ :: _ :: _ :: _ :: _ :: _)) rfl ?_
            refine E.keep [0, 3, 5, 6, 7, 8, 239, 243] (env1 := [(0, _), (3, _), (5, _), (6, _), (7, _), (8, _), (239, _), (243, _)]) rfl ?_
            refine C.ret ?_
            exact ⟨rfl, hb_bad (hR.trans (run_bad hsy hv1 hv2 (copyR_fur hml hsyd (by omega) (by rw [hft.1]; omega)))) (hb5) hAx H hrd hwr hsum htr⟩
           ·
            obtain ⟨_, hA4, hB4, hn4⟩ := hE4.resolve_right fun h => h.1.2 h243
            subst hn4
            refine C.skip ?_
            refine ⟨_, ?_, _, _, _, _, _, _, _, rfl, rfl, hA4, hB4, .inr (by omega), rfl⟩; omega
          ·
           have hEn : (d - 2) / 2 ≤ nb := by omega
           have hb2 := hB.lt32 (by omega)
           have hle := hB.left_eq
           have htk := hB.take hEn
           have htl := takeB_lt dt (p + lenOf t.lit v + moreL.getD (v - 257) 0 + lenOf t.dist d) ((d - 2) / 2)
           refine C.exit rfl ?_
           refine C.seq ?_
           refine C.region ?_
           refine E.pure (S.move rfl) rfl ?_
           refine E.pure (S.move rfl) rfl ?_
           refine E.pure (S.nilPtr rfl) rfl ?_
           refine E.pure (S.field rfl fa153_3) rfl ?_
           refine E.still (S.load 3 (k := 3) rfl rfl rfl Tryd.isAgg52) rfl ?_
           refine E.pure (S.move rfl) rfl ?_
           refine E.pure (S.shl (a := ((1 : Nat) : Int)) rfl rfl (by omega) (N.shl_u32 _ _)) rfl ?_
           refine E.reslot (v := .int .u32 ((2 ^ ((d - 2) / 2) : Nat) : Int)) (congrArg (fun y : Nat => Value.int .u32 (y : Int)) (by rw [Nat.one_shiftLeft]; exact Nat.mod_eq_of_lt (by omega))) ?_
           refine E.pure (S.sub (b := ((1 : Nat) : Int)) rfl rfl (N.sub_u32 (by omega) (by omega))) rfl ?_
           refine E.pure (S.and rfl rfl (N.and_u32 (by omega) (by omega))) rfl ?_
           refine E.reslot (v := .int .u32 ((takeB dt (p + lenOf t.lit v + moreL.getD (v - 257) 0 + lenOf t.dist d) ((d - 2) / 2) : Nat) : Int)) (congrArg (fun y : Nat => Value.int .u32 (y : Int)) (by exact mask_take hB (by omega))) ?_
           refine E.pure (S.conv rfl Tryd.underlying52 Tryd.underlying3 (N.i64n (by omega))) rfl ?_
           refine E.pure (S.or rfl rfl (N.or64 (by omega) (by omega))) rfl ?_
           refine E.reslot (v := .int .i64 ((d % 2 * 2 ^ ((d - 2) / 2) + takeB dt (p + lenOf t.lit v + moreL.getD (v - 257) 0 + lenOf t.dist d) ((d - 2) / 2) : Nat) : Int)) (congrArg (fun y : Nat => Value.int .i64 (y : Int)) (by exact or_two (takeB_lt _ _ _))) ?_
           refine E.pure (S.assign rfl) rfl ?_
           refine E.keep [0, 5, 6, 7, 8, 239] (env1 := [(0, _), (5, _), (6, _), (7, _), (8, _), (239, _)]) rfl ?_
           refine C.seq ?_
           refine C.region ?_
           refine E.pure (S.move rfl) rfl ?_
           refine E.pure (S.nilPtr rfl) rfl ?_
           refine E.pure (S.field rfl fa153_3) rfl ?_
           refine E.still (S.load 3 (k := 3) rfl rfl rfl Tryd.isAgg52) rfl ?_
           refine E.pure (S.move rfl) rfl ?_
           refine E.pure (S.shr rfl rfl (by omega) (N.shr_u32 (by omega) _)) rfl ?_
           refine E.reslot (v := .int .u32 ((b / 2 ^ ((d - 2) / 2) : Nat) : Int)) (congrArg (fun y : Nat => Value.int .u32 (y : Int)) (by rw [Nat.shiftRight_eq_div_pow])) ?_
           refine E.pure (S.nilPtr rfl) rfl ?_
           refine E.pure (S.field rfl fa153_3) rfl ?_
           refine E.loud0 (X.store 3 (k := 3) rfl rfl rfl rfl rfl Tryd.sizeOf52) ?_; rintro _ _ ⟨rfl, rfl⟩; refine E.relist (L2 := (_ :: _ :: _ :: _ :: _ :: _ :: _ :: _)) rfl ?_
           refine E.keep [0, 5, 6, 7, 8, 239] (env1 := [(0, _), (5, _), (6, _), (7, _), (8, _), (239, _)]) rfl ?_
           refine C.seq ?_
           refine C.region ?_
           refine E.pure (S.move rfl) rfl ?_
           refine E.pure (S.nilPtr rfl) rfl ?_
           refine E.pure (S.field rfl fa153_4) rfl ?_
           refine E.still (S.load 3 (k := 4) rfl rfl rfl Tryd.isAgg92) rfl ?_
           refine E.pure (S.move rfl) rfl ?_
           refine E.pure (S.sub rfl rfl (N.sub_u64 (by omega) (by omega))) rfl ?_
           refine E.pure (S.nilPtr rfl) rfl ?_
           refine E.pure (S.field rfl fa153_4) rfl ?_
           refine E.loud0 (X.store 3 (k := 4) rfl rfl rfl rfl rfl Tryd.sizeOf92) ?_; rintro _ _ ⟨rfl, rfl⟩; refine E.relist (L2 := (_ :: _ :: _ :: _ :: _ :: _ :: _ :: _)) rfl ?_
           refine E.keep [0, 5, 6, 7, 8, 239] (env1 := [(0, _), (5, _), (6, _), (7, _), (8, _), (239, _)]) rfl ?_
           refine C.region ?_
           refine E.pure (S.move rfl) rfl ?_
           refine E.pure (S.add (b := ((1 : Nat) : Int)) rfl rfl (N.add_u64 (by omega))) rfl ?_
           refine E.pure (S.shl (a := ((1 : Nat) : Int)) rfl rfl (by omega) (N.shl64 (by rw [Nat.one_shiftLeft]; omega))) rfl ?_
           refine E.reslot (v := .int .i64 ((2 ^ ((d - 2) / 2 + 1) : Nat) : Int)) (congrArg (fun y : Nat => Value.int .i64 (y : Int)) (by rw [Nat.one_shiftLeft])) ?_
           refine E.pure (S.add (b := ((1 : Nat) : Int)) rfl rfl (N.add64 (by omega))) rfl ?_
           refine E.pure (S.move rfl) rfl ?_
           refine E.pure (S.add rfl rfl (N.add64 (by omega))) rfl ?_
           refine E.reslot (v := .int .i64 ((farL.getD d 0 + takeB dt (p + lenOf t.lit v + moreL.getD (v - 257) 0 + lenOf t.dist d) (furL.getD d 0) : Nat) : Int)) (congrArg (fun y : Nat => Value.int .i64 (y : Int)) (by rw [hft.1, hft.2.1]; omega)) ?_
           refine E.pure (S.assign rfl) rfl ?_
           refine E.keep [0, 5, 6, 7, 8, 239] (env1 := [(0, _), (5, _), (6, _), (7, _), (8, _), (239, _)]) rfl ?_
           exact ⟨_, _, _, _, _, _, _, rfl, rfl, hA, (by rw [hft.1]; exact htk.2), by omega, by omega, (by rw [hft.1]; omega)⟩
         ·
          refine C.seq ?_
          refine C.region ?_
          refine E.pure (S.move rfl) rfl ?_
          refine E.pure (S.move rfl) rfl ?_
          refine E.pure (S.nilPtr rfl) rfl ?_
          refine E.pure (S.field rfl fa153_2) rfl ?_
          refine E.still (S.load 3 (k := 2) rfl rfl rfl Tryd.isAgg2) rfl ?_
          refine E.pure (S.mkIface rfl conc165) rfl ?_
          refine E.reslot (v := Er.val ea (.corrupt ro)) (rfl) ?_
          refine E.pure (S.nilPtr rfl) rfl ?_
          refine E.pure (S.field rfl fa153_14) rfl ?_
          refine E.loud0 (X.store 4 (k := 3) rfl rfl rfl rfl rfl Tryd.sizeOf59) ?_; rintro _ _ ⟨rfl, rfl⟩; refine E.relist (L2 := (_ :: _ :: _ :: _ :: _ :: _ :: _ :: _)) rfl ?_
          refine E.keep [0, 5, 6, 218, 223] (env1 := [(0, _), (5, _), (6, _), (218, _), (223, _)]) rfl ?_
          refine C.ret ?_
          exact ⟨rfl, hb_bad (hR.trans (run_bad hsy hv1 hv2 (copyR_30 hml hsyd (by omega)))) (bad_corrupt _) hA H hrd hwr hsum htr⟩
       ·
        rintro _ _ ⟨q, b, nb, ro, g1, g2, g3, hq72, rfl, hA, hB, hnb, hd30, hfl⟩
        refine C.weaken _ hq72 ?_
        have hcp := copyR_some (t := t) hml hsyd hd30 hfl
        have hszb := size_bound (D := dt) (p := p + lenOf t.lit v) hv2 hv1
        have hfb := far_bound (D := dt) (p := p + lenOf t.lit v + moreL.getD (v - 257) 0 + lenOf t.dist d) hd30
        have hszH := H.size_le
        refine C.seq ?_
        refine C.seq ?_
        refine C.region ?_
        refine E.pure (S.move rfl) rfl ?_
        refine E.pure (S.move rfl) rfl ?_
        refine E.pure (S.nilPtr rfl) rfl ?_
        refine E.pure (S.field rfl fa153_9) rfl ?_
        refine E.loud1 (OpX.pick [5] (F := (_ :: _ :: _ :: _ :: _ :: _ :: _)) rfl (X.call rfl Tryd.call85 (histSize_spec fb 1037 hb wr rd full (by omega) (by omega)))) rfl ?_; rintro _ _ ⟨_, ⟨rfl, rfl⟩, rfl⟩; refine E.relist (L2 := (_ :: _ :: _ :: _ :: _ :: _ :: _ :: _)) rfl ?_
        refine E.perml [1, 1, 1, 1, 1, 0, 0] rfl ?_
        refine E.relist (L2 := (_ :: _ :: _ :: _ :: _ :: _ :: _ :: _)) rfl ?_
        refine E.reslot (v := .int .i64 ((hsize wr full : Nat) : Int)) (rfl) ?_
        refine E.pure (S.gt rfl rfl) rfl ?_
        refine E.keep [0, 5, 6, 286] (env1 := [(0, _), (5, _), (6, _), (286, _)]) rfl ?_
        refine C.ifp rfl (fun h286 => ?_) (fun h286 => ?_)
        ·
         have hfar : out.length < farL.getD d 0 + takeB dt (p + lenOf t.lit v + moreL.getD (v - 257) 0 + lenOf t.dist d) (furL.getD d 0) := by omega
         refine C.seq ?_
         refine C.region ?_
         refine E.pure (S.move rfl) rfl ?_
         refine E.pure (S.move rfl) rfl ?_
         refine E.pure (S.nilPtr rfl) rfl ?_
         refine E.pure (S.field rfl fa153_2) rfl ?_
         refine E.still (S.load 3 (k := 2) rfl rfl rfl Tryd.isAgg2) rfl ?_
         refine E.pure (S.mkIface rfl conc165) rfl ?_
         refine E.reslot (v := Er.val ea (.corrupt ro)) (rfl) ?_
         refine E.pure (S.nilPtr rfl) rfl ?_
         refine E.pure (S.field rfl fa153_14) rfl ?_
         refine E.loud0 (X.store 4 (k := 3) rfl rfl rfl rfl rfl Tryd.sizeOf59) ?_; rintro _ _ ⟨rfl, rfl⟩; refine E.relist (L2 := (_ :: _ :: _ :: _ :: _ :: _ :: _ :: _)) rfl ?_
         refine E.keep [0, 5, 6, 286] (env1 := [(0, _), (5, _), (6, _), (286, _)]) rfl ?_
         refine C.ret ?_
         exact ⟨rfl, hb_bad (hR.trans (run_far hsy hv1 hv2 hcp hfar)) (bad_corrupt _) hA H hrd hwr hsum htr⟩
        ·
         refine C.skip ?_
         refine C.seq ?_
         refine C.region ?_
         refine E.pure (S.move rfl) rfl ?_
         refine E.pure (S.move rfl) rfl ?_
         refine E.pure (S.move rfl) rfl ?_
         refine E.pure (S.move rfl) rfl ?_
         refine E.pure (S.nilPtr rfl) rfl ?_
         refine E.pure (S.field rfl fa153_18) rfl ?_
         refine E.loud0 (X.store 4 (k := 7) rfl rfl rfl rfl rfl Tryd.sizeOf3) ?_; rintro _ _ ⟨rfl, rfl⟩; refine E.relist (L2 := (_ :: _ :: _ :: _ :: _ :: _ :: _ :: _)) rfl ?_
         refine E.pure (S.nilPtr rfl) rfl ?_
         refine E.pure (S.field rfl fa153_19) rfl ?_
         refine E.loud0 (X.store 4 (k := 8) rfl rfl rfl rfl rfl Tryd.sizeOf3) ?_; rintro _ _ ⟨rfl, rfl⟩; refine E.relist (L2 := (_ :: _ :: _ :: _ :: _ :: _ :: _ :: _)) rfl ?_
         refine E.keep [0, 5, 6, 286] (env1 := [(0, _), (5, _), (6, _), (286, _)]) rfl ?_
         refine C.goto rfl ?_
         have hR2 := hR.trans (run_copy hsy hv1 hv2 hcp (by omega) (by omega) (by have := hB.at8; have := hB.le; omega))
         refine ⟨_, ?_, .inr ⟨rfl, p + lenOf t.lit v + moreL.getD (v - 257) 0 + lenOf t.dist d + furL.getD d 0, q, b, nb, ro, g1, g2, g3, out, h, wr, rd, full, ss, ln, farL.getD d 0 + takeB dt (p + lenOf t.lit v + moreL.getD (v - 257) 0 + lenOf t.dist d) (furL.getD d 0), rfl, rfl, hA, hB, hnb, by omega, H, hrd, hwr, hsum, (hss.imp id And.left), (by rw [hln]; exact hszb.1), hfb.1, by omega, (by rw [hln]; exact hR2), rfl⟩⟩
         omega
  ·
   refine ⟨_, rfl, ?_⟩
   refine C.weaken _ hg1 ?_
   refine C.seq ?_
   refine C.skip ?_
   refine C.seq ?_
   refine C.draw [0, 1, 2, 0, 8, 16, 32, 0, 128, 256, 512, 1092, 4095] (.pure 0 2040 (.pure 1 2041 (.pure 2 2043 (.pure 3 1927 (.pure 4 1935 (.pure 5 1951 (.pure 7 127 (.pure 8 255 (.pure 9 511 (.seg [(6, 1983), (10, 1023)] (.alt 11 (.pure 12 4095 .done) .stop))))))))))) mixed (by decide +kernel) ?_
   refine D.pure rfl (S.move rfl) rfl ?_
   refine D.pure rfl (S.nilPtr rfl) rfl ?_
   refine D.pure rfl (S.field rfl fa153_9) rfl ?_
   refine D.pure rfl (S.move rfl) rfl ?_
   refine D.pure rfl (S.nilPtr rfl) rfl ?_
   refine D.pure rfl (S.field rfl fa153_19) rfl ?_
   refine D.pure rfl (S.move rfl) rfl ?_
   refine D.pure rfl (S.nilPtr rfl) rfl ?_
   refine D.pure rfl (S.field rfl fa153_18) rfl ?_
   refine D.seg (by decide) ?_
   refine W.still rfl (S.load 4 (k := 8) rfl rfl rfl Tryd.isAgg3) rfl ?_
   refine W.still rfl (S.load 4 (k := 7) rfl rfl rfl Tryd.isAgg3) rfl ?_
   refine W.nil ?_
   refine D.one ?_
   refine O.loud1 rfl (OpX.pick [5, 5] (F := (_ :: _ :: _ :: _ :: _ :: _)) rfl (X.call rfl Tryd.call86 (tryWriteCopy_spec fb 1037 hb wr rd full h out H hwr cd cl hcd1 hcd2 (by omega)))) rfl ?_; rintro _ _ ⟨_, ⟨n, h2, rfl, hn1, hn2, H2, rfl⟩, rfl⟩; refine D.relist (L2 := (_ :: _ :: _ :: _ :: _ :: _ :: _ :: _)) rfl ?_
   refine D.perml [2, 2, 2, 2, 2, 0, 0] rfl ?_
   refine D.relist (L2 := (_ :: _ :: _ :: _ :: _ :: _ :: _ :: _)) rfl ?_
   refine D.pure rfl (S.assign rfl) rfl ?_
   refine D.keep [0, 9] (env1 := [(0, _), (9, _)]) rfl ?_
   refine C.cut (M := fun ee ll => ∃ (n : Nat), ∃ (h2 : List UInt8), keeps ee [0, 9] = some [(0, .pointer (some ⟨fb, 0, none⟩)), (9, .int .i64 ((n : Nat) : Int))] ∧ ll = [f1, f2, f3, ⟨fb, 0, [.iface src.t src.v, .pointer none, .int .i64 (ro), .int .u32 (((b) : Nat) : Int), .int .u64 (((nb) : Nat) : Int)]⟩, ⟨fb, 1045, [.func (.func stp) #[] #[], .int .i64 (((ss) : Nat) : Int), .bool last, .nilIface, trv, .pointer (some ⟨lb, lo, none⟩), .pointer hp, .int .i64 (((cl) : Nat) : Int), .int .i64 (((cd) : Nat) : Int)]⟩, ⟨fb, 1037, [.slice (some ⟨hb, 0, none⟩) 32768 32768, .int .i64 (((wr + n) : Nat) : Int), .int .i64 (((rd) : Nat) : Int), .bool full]⟩, ⟨hb, 0, bytesV (h2)⟩] ++ (HL ++ HD) ∧ (n ≤ cl) ∧ (Hist h2 (wr + n) full (copyN out cd n)) ∧ (n = cl ∨ wr + n = 32768)) ?_ ?_
   ·
    refine C.seq ?_
    refine C.region ?_
    refine E.pure (S.move rfl) rfl ?_
    refine E.pure (S.eq (b := ((0 : Nat) : Int)) rfl rfl) rfl ?_
    refine E.keep [0, 9, 316] (env1 := [(0, _), (9, _), (316, _)]) rfl ?_
    refine C.ifp rfl (fun h316 => ?_) (fun h316 => ?_)
    ·
     have hn0 : n = 0 := by omega
     subst hn0
     refine C.draw [0, 1, 2, 0, 8, 16, 32, 0, 128, 256, 512, 1092, 4095] (.pure 0 2040 (.pure 1 2041 (.pure 2 2043 (.pure 3 1927 (.pure 4 1935 (.pure 5 1951 (.pure 7 127 (.pure 8 255 (.pure 9 511 (.seg [(6, 1983), (10, 1023)] (.alt 11 (.pure 12 4095 .done) .stop))))))))))) mixed (by decide +kernel) ?_
     refine D.pure rfl (S.move rfl) rfl ?_
     refine D.pure rfl (S.nilPtr rfl) rfl ?_
     refine D.pure rfl (S.field rfl fa153_9) rfl ?_
     refine D.pure rfl (S.move rfl) rfl ?_
     refine D.pure rfl (S.nilPtr rfl) rfl ?_
     refine D.pure rfl (S.field rfl fa153_19) rfl ?_
     refine D.pure rfl (S.move rfl) rfl ?_
     refine D.pure rfl (S.nilPtr rfl) rfl ?_
     refine D.pure rfl (S.field rfl fa153_18) rfl ?_
     refine D.seg (by decide) ?_
     refine W.still rfl (S.load 4 (k := 8) rfl rfl rfl Tryd.isAgg3) rfl ?_
     refine W.still rfl (S.load 4 (k := 7) rfl rfl rfl Tryd.isAgg3) rfl ?_
     refine W.nil ?_
     refine D.one ?_
     refine O.loud1 rfl (OpX.pick [5, 5] (F := (_ :: _ :: _ :: _ :: _ :: _)) rfl (X.call rfl Tryd.call87 (writeCopy_spec fb 1037 hb (wr + 0) rd full h2 (copyN out cd 0) H2 (by omega) cd cl hcd1 hcd2 (by omega)))) rfl ?_; rintro _ _ ⟨_, ⟨n3, h3, rfl, hn3, hn4, H3, rfl⟩, rfl⟩; refine D.relist (L2 := (_ :: _ :: _ :: _ :: _ :: _ :: _ :: _)) rfl ?_
     refine D.perml [2, 2, 2, 2, 2, 0, 0] rfl ?_
     refine D.relist (L2 := (_ :: _ :: _ :: _ :: _ :: _ :: _ :: _)) rfl ?_
     refine D.pure rfl (S.assign rfl) rfl ?_
     refine D.keep [0, 9, 316] (env1 := [(0, _), (9, _), (316, _)]) rfl ?_
     first | exact ⟨n, h2, rfl, rfl, hn1, H2, .inl (hn2.resolve_left (by omega))⟩ | exact ⟨n3, h3, rfl, rfl, hn3, H3, by omega⟩
    ·
     refine C.skip ?_
     exact ⟨n, h2, rfl, rfl, hn1, H2, .inl (hn2.resolve_left (by omega))⟩
   ·
    rintro _ _ ⟨n, h2, hq78, rfl, hn1, H2, hn2⟩
    refine C.weaken _ hq78 ?_
    have hwn2 := H2.wrLe
    have hcln := copyN_length out cd n
    refine C.seq ?_
    refine C.region ?_
    refine E.pure (S.move rfl) rfl ?_
    refine E.pure (S.nilPtr rfl) rfl ?_
    refine E.pure (S.field rfl fa153_18) rfl ?_
    refine E.still (S.load 4 (k := 7) rfl rfl rfl Tryd.isAgg3) rfl ?_
    refine E.pure (S.move rfl) rfl ?_
    refine E.pure (S.sub rfl rfl (N.sub64 (by omega) (by omega))) rfl ?_
    refine E.pure (S.nilPtr rfl) rfl ?_
    refine E.pure (S.field rfl fa153_18) rfl ?_
    refine E.loud0 (X.store 4 (k := 7) rfl rfl rfl rfl rfl Tryd.sizeOf3) ?_; rintro _ _ ⟨rfl, rfl⟩; refine E.relist (L2 := (_ :: _ :: _ :: _ :: _ :: _ :: _ :: _)) rfl ?_
    refine E.keep [0, 9] (env1 := [(0, _), (9, _)]) rfl ?_
    refine C.seq ?_
    refine C.seq ?_
    refine C.region ?_
    refine E.pure (S.move rfl) rfl ?_
    refine E.pure (S.nilPtr rfl) rfl ?_
    refine E.pure (S.field rfl fa153_9) rfl ?_
    refine E.loud1 (OpX.pick [5] (F := (_ :: _ :: _ :: _ :: _ :: _ :: _)) rfl (X.call rfl Tryd.call83 (availWrite_spec fb 1037 hb (wr + n) rd full (by omega) (by omega)))) rfl ?_; rintro _ _ ⟨_, ⟨rfl, rfl⟩, rfl⟩; refine E.relist (L2 := (_ :: _ :: _ :: _ :: _ :: _ :: _ :: _)) rfl ?_
    refine E.perml [1, 1, 1, 1, 1, 0, 0] rfl ?_
    refine E.relist (L2 := (_ :: _ :: _ :: _ :: _ :: _ :: _ :: _)) rfl ?_
    refine E.pure (S.eq (b := ((0 : Nat) : Int)) rfl rfl) rfl ?_
    refine E.pure (S.move rfl) rfl ?_
    refine E.fork (fun g342 => ?_) (fun g342 => ?_)
    ·
     refine E.guardNo 342 true rfl rfl rfl rfl ?_
     refine E.guardNo 342 true rfl rfl rfl rfl ?_
     refine E.guardNo 342 true rfl rfl rfl rfl ?_
     refine E.guardNo 342 true rfl rfl rfl rfl ?_
     refine E.guardNo 342 true rfl rfl rfl rfl ?_
     refine E.pure (S.pickT rfl rfl) rfl ?_
     refine E.keep [0, 9, 348] (env1 := [(0, _), (9, _), (348, _)]) rfl ?_
     refine C.yes rfl (rfl) ?_
     refine C.seq ?_
     refine C.region ?_
     refine E.pure (S.move rfl) rfl ?_
     refine E.pure (S.move rfl) rfl ?_
     refine E.pure (S.nilPtr rfl) rfl ?_
     refine E.pure (S.field rfl fa153_9) rfl ?_
     refine E.loud1 (OpX.pick [5] (F := (_ :: _ :: _ :: _ :: _ :: _ :: _)) rfl (X.call rfl Tryd.call77 (readFlush_spec fb 1037 hb (wr + n) rd full (by omega) (by omega)))) rfl ?_; rintro _ _ ⟨_, ⟨Aw, hfl, rfl⟩, rfl⟩; refine E.relist (L2 := (_ :: _ :: _ :: _ :: _ :: _ :: _ :: _)) rfl ?_
     refine E.perml [1, 1, 1, 1, 1, 0, 0] rfl ?_
     refine E.relist (L2 := (_ :: _ :: _ :: _ :: _ :: _ :: _ :: _)) rfl ?_
     refine E.pure (S.nilPtr rfl) rfl ?_
     refine E.pure (S.field rfl fa153_15) rfl ?_
     refine E.loud0 (X.store 4 (k := 4) rfl rfl rfl (flush_one hfl) rfl Tryd.sizeOf22) ?_; rintro _ _ ⟨rfl, rfl⟩; refine E.relist (L2 := (_ :: _ :: _ :: _ :: _ :: _ :: _ :: _)) rfl ?_
     refine E.keep [0, 9, 348] (env1 := [(0, _), (9, _), (348, _)]) rfl ?_
     refine C.seq ?_
     refine C.region ?_
     refine E.pure (S.move rfl) rfl ?_
     refine E.pure (S.nilPtr rfl) rfl ?_
     refine E.pure (S.field rfl fa153_11) rfl ?_
     refine E.loud0 (X.store 4 (k := 0) rfl rfl rfl rfl rfl Tryd.sizeOf150) ?_; rintro _ _ ⟨rfl, rfl⟩; refine E.relist (L2 := (_ :: _ :: _ :: _ :: _ :: _ :: _ :: _)) rfl ?_
     refine E.keep [0, 9, 348] (env1 := [(0, _), (9, _), (348, _)]) rfl ?_
     refine C.seq ?_
     refine C.region ?_
     refine E.pure (S.move rfl) rfl ?_
     refine E.pure (S.nilPtr rfl) rfl ?_
     refine E.pure (S.field rfl fa153_12) rfl ?_
     refine E.loud0 (X.store 4 (k := 1) rfl rfl rfl rfl rfl Tryd.sizeOf3) ?_; rintro _ _ ⟨rfl, rfl⟩; refine E.relist (L2 := (_ :: _ :: _ :: _ :: _ :: _ :: _ :: _)) rfl ?_
     refine E.keep [0, 9, 348] (env1 := [(0, _), (9, _), (348, _)]) rfl ?_
     refine C.ret ?_
     have hwn : wr + n = 32768 := by first | omega | (simp at g342; omega)
     obtain ⟨wr5, full5, hW, hlen, hsz⟩ := WinSt.flush (gv := gv) H2 (by omega) (by rw [copyN_length]; omega) hfl
     have hs5 : hsize wr full ≤ hsize (wr + n) full := by unfold hsize; split <;> omega
     have hR5 : R = run dt (.sym last t) (copyN (copyN out cd n) cd (cl - n)) p := by rw [copyN_add, show n + (cl - n) = cl by omega]; exact hR
     exact ⟨rfl, _, _, _, _, _, _, _, rfl, .inl ⟨_, (fun h => by rw [h] at hlen; simp at hlen; omega), p, q, nb, _, _, _, _, _, _, 1, cl - n, cd, ⟨hA, _, _, hB, rfl⟩, hnb, hW, rfl, .inr ⟨rfl, by omega, hcd1, by omega, hR5⟩⟩⟩
    ·
     refine E.wanted 342 rfl rfl ?_
     refine E.pure (S.move rfl) rfl ?_
     refine E.wanted 342 rfl rfl ?_
     refine E.pure (S.nilPtr rfl) rfl ?_
     refine E.wanted 342 rfl rfl ?_
     refine E.pure (S.field rfl fa153_18) rfl ?_
     refine E.wanted 342 rfl rfl ?_
     refine E.still (S.load 4 (k := 7) rfl rfl rfl Tryd.isAgg3) rfl ?_
     refine E.wanted 342 rfl rfl ?_
     refine E.pure (S.gt (b := ((0 : Nat) : Int)) rfl rfl) rfl ?_
     refine E.pure (S.pickF rfl rfl) rfl ?_
     refine E.keep [0, 9, 348] (env1 := [(0, _), (9, _), (348, _)]) rfl ?_
     refine C.ifp rfl (fun h348 => ?_) (fun h348 => ?_)
     ·
      refine C.seq ?_
      refine C.region ?_
      refine E.pure (S.move rfl) rfl ?_
      refine E.pure (S.move rfl) rfl ?_
      refine E.pure (S.nilPtr rfl) rfl ?_
      refine E.pure (S.field rfl fa153_9) rfl ?_
      refine E.loud1 (OpX.pick [5] (F := (_ :: _ :: _ :: _ :: _ :: _ :: _)) rfl (X.call rfl Tryd.call77 (readFlush_spec fb 1037 hb (wr + n) rd full (by omega) (by omega)))) rfl ?_; rintro _ _ ⟨_, ⟨Aw, hfl, rfl⟩, rfl⟩; refine E.relist (L2 := (_ :: _ :: _ :: _ :: _ :: _ :: _ :: _)) rfl ?_
      refine E.perml [1, 1, 1, 1, 1, 0, 0] rfl ?_
      refine E.relist (L2 := (_ :: _ :: _ :: _ :: _ :: _ :: _ :: _)) rfl ?_
      refine E.pure (S.nilPtr rfl) rfl ?_
      refine E.pure (S.field rfl fa153_15) rfl ?_
      refine E.loud0 (X.store 4 (k := 4) rfl rfl rfl (flush_one hfl) rfl Tryd.sizeOf22) ?_; rintro _ _ ⟨rfl, rfl⟩; refine E.relist (L2 := (_ :: _ :: _ :: _ :: _ :: _ :: _ :: _)) rfl ?_
      refine E.keep [0, 9, 348] (env1 := [(0, _), (9, _), (348, _)]) rfl ?_
      refine C.seq ?_
      refine C.region ?_
      refine E.pure (S.move rfl) rfl ?_
      refine E.pure (S.nilPtr rfl) rfl ?_
      refine E.pure (S.field rfl fa153_11) rfl ?_
      refine E.loud0 (X.store 4 (k := 0) rfl rfl rfl rfl rfl Tryd.sizeOf150) ?_; rintro _ _ ⟨rfl, rfl⟩; refine E.relist (L2 := (_ :: _ :: _ :: _ :: _ :: _ :: _ :: _)) rfl ?_
      refine E.keep [0, 9, 348] (env1 := [(0, _), (9, _), (348, _)]) rfl ?_
      refine C.seq ?_
      refine C.region ?_
      refine E.pure (S.move rfl) rfl ?_
      refine E.pure (S.nilPtr rfl) rfl ?_
      refine E.pure (S.field rfl fa153_12) rfl ?_
      refine E.loud0 (X.store 4 (k := 1) rfl rfl rfl rfl rfl Tryd.sizeOf3) ?_; rintro _ _ ⟨rfl, rfl⟩; refine E.relist (L2 := (_ :: _ :: _ :: _ :: _ :: _ :: _ :: _)) rfl ?_
      refine E.keep [0, 9, 348] (env1 := [(0, _), (9, _), (348, _)]) rfl ?_
      refine C.ret ?_
      have hwn : wr + n = 32768 := by first | omega | (simp at g342; omega)
      obtain ⟨wr5, full5, hW, hlen, hsz⟩ := WinSt.flush (gv := gv) H2 (by omega) (by rw [copyN_length]; omega) hfl
      have hs5 : hsize wr full ≤ hsize (wr + n) full := by unfold hsize; split <;> omega
      have hR5 : R = run dt (.sym last t) (copyN (copyN out cd n) cd (cl - n)) p := by rw [copyN_add, show n + (cl - n) = cl by omega]; exact hR
      exact ⟨rfl, _, _, _, _, _, _, _, rfl, .inl ⟨_, (fun h => by rw [h] at hlen; simp at hlen; omega), p, q, nb, _, _, _, _, _, _, 1, cl - n, cd, ⟨hA, _, _, hB, rfl⟩, hnb, hW, rfl, .inr ⟨rfl, by omega, hcd1, by omega, hR5⟩⟩⟩
     ·
      refine C.skip ?_
      refine C.goto rfl ?_
      have hncl : n = cl := by first | omega | (simp at g342; omega)
      refine ⟨_, ?_, .inl ⟨rfl, p, q, b, nb, ro, f1, f2, f3, _, _, wr + n, rd, full, ss, cl - n, cd, rfl, rfl, hA, hB, hnb, hp0, H2, by omega, by first | omega | (simp at g342; omega), (by rw [copyN_length]; omega), (hss.imp id fun h => ⟨h, by omega, hcd1, Nat.le_trans hcd2 (by unfold hsize; split <;> omega)⟩), (by rw [hncl]; exact hR), rfl⟩⟩
      omega
end Go.Eng
namespace Go.Eng
open Go Go.Proofs
set_option maxRecDepth 100000

set_option maxHeartbeats 1000000
/-- What a stored block gives of which n bytes are left. -/
def stored (D : List UInt8) (last : Bool) (n : Nat) (out : List UInt8) (q : Nat) : ResR :=
  if D.length < q + n then (out ++ D.drop q, .bad)
  else if last then (out ++ (D.drop q).take n, .done (q + n)) else run D .next (out ++ (D.drop q).take n) (8 * (q + n))
theorem stored_step {D : List UInt8} {last : Bool} {n k : Nat} {out : List UInt8} {q : Nat} (hk : k ≤ n) (hq : q + k ≤ D.length) : stored D last n out q = stored D last (n - k) (out ++ (D.drop q).take k) (q + k) := by
  unfold stored
  have e : q + k + (n - k) = q + n := by omega
  have e2 : (D.drop q).take k ++ (D.drop (q + k)).take (n - k) = (D.drop q).take n := by
    rw [← List.drop_drop, ← List.take_add, show k + (n - k) = n by omega]
  have e3 : (D.drop q).take k ++ D.drop (q + k) = D.drop q := by rw [← List.drop_drop, List.take_append_drop]
  rw [e, List.append_assoc, e3, List.append_assoc, e2]
/-- Within a stored block. -/
def StorSt {K : Known} {ea : Fin 5 → Addr} (src : Src K ea) (dt : List UInt8) (fb hb : Nat) (R : ResR) (gv : Nat) (pend : List UInt8) (q : Nat) (x1 x2 x3 A T W H : Frag) : Prop :=
  ∃ out trv h wr rd full ss last hl hd cl cd, HeadSt src dt fb (8 * q) q 0 x1 x2 x3 A ∧ WinSt fb hb gv out pend trv h wr rd full W H ∧ T = ptF fb 79 ss last .nilIface trv hl hd cl cd ∧ (ss = 0 ∨ (ss = 1 ∧ 1 ≤ cd ∧ cd ≤ hsize wr full)) ∧ cl ≤ 65535 ∧ R = stored dt last cl out q
/-- How copyData ends. -/
def CdEnd {K : Known} {ea : Fin 5 → Addr} (src : Src K ea) (dt : List UInt8) (fb hb : Nat) (R : ResR) (gv p0 : Nat) (L : Frags) : Prop :=
  ∃ y1 y2 y3 A T W H, L = [y1, y2, y3, A, T, W, H] ∧ ((∃ pend q, pend ≠ [] ∧ StorSt src dt fb hb R gv pend q y1 y2 y3 A T W H) ∨ (∃ p2, p0 ≤ p2 ∧ NextSt src dt fb hb R gv [] p2 y1 y2 y3 A T W H) ∨ ∃ pend, EndSt src dt fb hb R gv pend y1 y2 y3 A T W H)
theorem bad_full {l : List UInt8} {m : Nat} (h : fullErr l m ≠ .none) : Bad5 (noEof (fullErr l m)) ∧ l.length < m := by
  unfold fullErr at h ⊢
  split at h
  · exact absurd rfl h
  · rename_i h1
    rw [if_neg h1]
    split
    · exact ⟨⟨rfl, noEof_ne (by simp)⟩, by omega⟩
    · exact ⟨⟨rfl, noEof_ne (by simp)⟩, by omega⟩
theorem full_none {l : List UInt8} {m : Nat} (h : fullErr l m = .none) : m ≤ l.length := by
  unfold fullErr at h
  split at h
  · assumption
  · split at h <;> cases h
theorem win_join (h l : List UInt8) (wr m : Nat) (hl : h.length = 32768) (hm : wr + m ≤ 32768) :
    h.take wr ++ (l.take m ++ (((h.drop wr).take m).drop (Nat.min m l.length) ++ h.drop (wr + m))) = h.take wr ++ l.take m ++ h.drop (wr + (l.take m).length) := by
  rw [List.append_assoc]
  congr 2
  have e : (l.take m).length = Nat.min m l.length := List.length_take
  have h1 : Nat.min m l.length ≤ m := Nat.min_le_left _ _
  rw [e, ← List.drop_drop, ← List.drop_drop]
  conv => rhs; rw [← List.take_append_drop m (h.drop wr)]
  rw [List.drop_append_of_le_length]
  rw [List.length_take, List.length_drop]; omega

theorem win_cut (h : List UInt8) (wr m : Nat) : bytesV h = ([bytesV (h.take wr), bytesV ((h.drop wr).take m), bytesV (h.drop (wr + m))] : List (List Value)).flatten := by
  simp only [List.flatten_cons, List.flatten_nil, List.append_nil]
  rw [← bytesV_append, ← bytesV_append, ← List.drop_drop, List.take_append_drop, List.take_append_drop]
theorem win_ok (h : List UInt8) (wr m : Nat) (hl : h.length = 32768) (hm : wr + m ≤ 32768) : chunksOk 0 [(0, bytesV (h.take wr)), (wr, bytesV ((h.drop wr).take m)), (wr + m, bytesV (h.drop (wr + m)))] := by
  simp [chunksOk, bytesV_length]; omega
theorem win_glue (hb wr m : Nat) (h l : List UInt8) (F : Frags) (hl : h.length = 32768) (hm : wr + m ≤ 32768) :
    Same ([⟨hb, 0, bytesV (h.take wr)⟩, ⟨hb, wr, bytesV (l.take m) ++ (bytesV ((h.drop wr).take m)).drop (Nat.min m l.length)⟩, ⟨hb, wr + m, bytesV (h.drop (wr + m))⟩] ++ F) (⟨hb, 0, bytesV (h.take wr ++ l.take m ++ h.drop (wr + (l.take m).length))⟩ :: F) := by
  have e : bytesV (h.take wr ++ l.take m ++ h.drop (wr + (l.take m).length)) = ([bytesV (h.take wr), bytesV (l.take m) ++ (bytesV ((h.drop wr).take m)).drop (Nat.min m l.length), bytesV (h.drop (wr + m))] : List (List Value)).flatten := by
    simp only [List.flatten_cons, List.flatten_nil, List.append_nil]
    rw [← win_join h l wr m hl hm, ← bytesV_drop, ← bytesV_append, ← bytesV_append, ← bytesV_append, List.append_assoc]
  rw [e]
  refine (Same.chunks hb F [(0, bytesV (h.take wr)), (wr, bytesV (l.take m) ++ (bytesV ((h.drop wr).take m)).drop (Nat.min m l.length)), (wr + m, bytesV (h.drop (wr + m)))] 0 ?_).symm
  have : Nat.min m l.length ≤ m := Nat.min_le_left _ _
  have e1 : (l.take m).length = Nat.min m l.length := List.length_take
  simp [chunksOk, bytesV_length, e1]; omega

theorem copyData_spec {K : Known} {ea : Fin 5 → Addr} (hs : Sents K ea) (src : Src K ea) (dt : List UInt8) (fb hb : Nat) (R : ResR) (gv : Nat) (last : Bool) (hlv hdv : Value) (stp : Nat) (a0 : Option Addr) (c0 : Nat) (trv : Value) (htr : trv = .slice a0 0 c0) (x1 x2 x3 : Frag) (q : Nat) (ro : Int) (out h : List UInt8) (wr rd : Nat) (full : Bool) (ss cl cd : Nat) (hA : src.At (dt.drop q) x1 x2 x3) (hq : q ≤ dt.length) (H : Hist h wr full out) (hrd : rd ≤ wr) (hwr : wr < 32768) (hsum : gv + (wr - rd) = out.length) (hss : ss = 0 ∨ (ss = 1 ∧ 1 ≤ cd ∧ cd ≤ hsize wr full)) (hcl : cl ≤ 65535) (hR : R = stored dt last cl out q) : Fn Tryd.prog K 79 #[.pointer (some ⟨fb, 0, none⟩)] ([x1, x2, x3, ⟨fb, 0, [.iface src.t src.v, .pointer none, .int .i64 (ro), .int .u32 0, .int .u64 0]⟩, ⟨fb, 1045, [.func (.func stp) #[] #[], .int .i64 (((ss) : Nat) : Int), .bool last, .nilIface, trv, hlv, hdv, .int .i64 (((cl) : Nat) : Int), .int .i64 (((cd) : Nat) : Int)]⟩, ⟨fb, 1037, [.slice (some ⟨hb, 0, none⟩) 32768 32768, .int .i64 (((wr) : Nat) : Int), .int .i64 (((rd) : Nat) : Int), .bool full]⟩, ⟨hb, 0, bytesV (h)⟩]) (fun r L => r = .tuple #[] ∧ CdEnd src dt fb hb R gv (8 * q) L) := by
 refine Fn.intro (args := [.pointer (some ⟨fb, 0, none⟩)]) (RR := Ret0 _) Tryd.func79 rfl rfl Tryd.ntmps79 (res0 Tryd.results79) ?_
 refine C.reenv (env2 := [(0, .pointer (some ⟨fb, 0, none⟩))]) rfl ?_
 refine C.seq ?_
 refine C.region ?_
 refine E.pure (S.move rfl) rfl ?_
 refine E.pure (S.nilPtr rfl) rfl ?_
 refine E.pure (S.field rfl fa153_9) rfl ?_
 refine E.loud1 (OpX.pick [5] (F := [_, _, _, _, _, _]) rfl (X.call rfl Tryd.call89 (writeSlice_spec fb 1037 hb wr rd full hwr))) rfl ?_; rintro _ _ ⟨_, ⟨rfl, rfl⟩, rfl⟩; refine E.relist (L2 := [_, _, _, _, _, _, _]) rfl ?_
 refine E.perml [1, 1, 1, 1, 1, 0, 0] rfl ?_
 refine E.relist (L2 := [_, _, _, _, _, _, _]) rfl ?_
 refine E.pure (S.assign rfl) rfl ?_
 refine E.keep [0, 2] (env1 := [(0, _), (2, _)]) rfl ?_
 refine C.cut (M := fun ee ll => ∃ (m : Nat), ∃ (mc : Nat), keeps ee [0, 2] = some [(0, .pointer (some ⟨fb, 0, none⟩)), (2, .slice (some ⟨hb, wr, none⟩) m mc)] ∧ ll = [x1, x2, x3, ⟨fb, 0, [.iface src.t src.v, .pointer none, .int .i64 (ro), .int .u32 0, .int .u64 0]⟩, ⟨fb, 1045, [.func (.func stp) #[] #[], .int .i64 (((ss) : Nat) : Int), .bool last, .nilIface, trv, hlv, hdv, .int .i64 (((cl) : Nat) : Int), .int .i64 (((cd) : Nat) : Int)]⟩, ⟨fb, 1037, [.slice (some ⟨hb, 0, none⟩) 32768 32768, .int .i64 (((wr) : Nat) : Int), .int .i64 (((rd) : Nat) : Int), .bool full]⟩, ⟨hb, 0, bytesV (h)⟩] ∧ (m ≤ cl) ∧ (m ≤ 32768 - wr) ∧ (m = cl ∨ m = 32768 - wr) ∧ (m ≤ mc)) ?_ ?_
 ·
  refine C.seq ?_
  refine C.region ?_
  refine E.pure (S.move rfl) rfl ?_
  refine E.pure (S.lenSl rfl Tryd.underlying22) rfl ?_
  refine E.pure (S.move rfl) rfl ?_
  refine E.pure (S.nilPtr rfl) rfl ?_
  refine E.pure (S.field rfl fa153_18) rfl ?_
  refine E.still (S.load 4 (k := 7) rfl rfl rfl Tryd.isAgg3) rfl ?_
  refine E.pure (S.gt rfl rfl) rfl ?_
  refine E.keep [0, 2, 15] (env1 := [(0, _), (2, _), (15, _)]) rfl ?_
  refine C.ifp rfl (fun h15 => ?_) (fun h15 => ?_)
  ·
   refine C.region ?_
   refine E.pure (S.move rfl) rfl ?_
   refine E.pure (S.move rfl) rfl ?_
   refine E.pure (S.nilPtr rfl) rfl ?_
   refine E.pure (S.field rfl fa153_18) rfl ?_
   refine E.still (S.load 4 (k := 7) rfl rfl rfl Tryd.isAgg3) rfl ?_
   refine E.pure (S.slH rfl rfl (by omega) Tryd.underlying22 Tryd.sizeOf5) rfl ?_
   refine E.pure (S.assign rfl) rfl ?_
   refine E.keep [0, 2, 15] (env1 := [(0, _), (2, _), (15, _)]) rfl ?_
   exact ⟨cl, 32768 - wr, rfl, rfl, by omega, by omega, .inl rfl, by omega⟩
  ·
   refine C.skip ?_
   first | exact ⟨cl, 32768 - wr, rfl, rfl, by omega, by omega, .inl rfl, by omega⟩ | exact ⟨32768 - wr, 32768 - wr, rfl, rfl, by omega, by omega, .inr rfl, by omega⟩
 ·
  rintro _ _ ⟨m, mc, hq3, rfl, hm1, hm2, hm3, hmc⟩
  refine C.weaken _ hq3 ?_
  refine C.seq ?_
  refine C.perml [6] rfl ?_
  refine C.relist (L2 := ⟨hb, 0, bytesV h⟩ :: [x1, x2, x3, ⟨fb, 0, [.iface src.t src.v, .pointer none, .int .i64 (ro), .int .u32 0, .int .u64 0]⟩, ⟨fb, 1045, [.func (.func stp) #[] #[], .int .i64 (((ss) : Nat) : Int), .bool last, .nilIface, trv, hlv, hdv, .int .i64 (((cl) : Nat) : Int), .int .i64 (((cd) : Nat) : Int)]⟩, ⟨fb, 1037, [.slice (some ⟨hb, 0, none⟩) 32768 32768, .int .i64 (((wr) : Nat) : Int), .int .i64 (((rd) : Nat) : Int), .bool full]⟩]) rfl ?_
  refine C.relist (L2 := ⟨hb, 0, ([bytesV (h.take wr), bytesV ((h.drop wr).take m), bytesV (h.drop (wr + m))] : List (List Value)).flatten⟩ :: [x1, x2, x3, ⟨fb, 0, [.iface src.t src.v, .pointer none, .int .i64 (ro), .int .u32 0, .int .u64 0]⟩, ⟨fb, 1045, [.func (.func stp) #[] #[], .int .i64 (((ss) : Nat) : Int), .bool last, .nilIface, trv, hlv, hdv, .int .i64 (((cl) : Nat) : Int), .int .i64 (((cd) : Nat) : Int)]⟩, ⟨fb, 1037, [.slice (some ⟨hb, 0, none⟩) 32768 32768, .int .i64 (((wr) : Nat) : Int), .int .i64 (((rd) : Nat) : Int), .bool full]⟩]) (by rw [win_cut h wr m]) ?_
  refine C.same (Same.chunks hb [x1, x2, x3, ⟨fb, 0, [.iface src.t src.v, .pointer none, .int .i64 (ro), .int .u32 0, .int .u64 0]⟩, ⟨fb, 1045, [.func (.func stp) #[] #[], .int .i64 (((ss) : Nat) : Int), .bool last, .nilIface, trv, hlv, hdv, .int .i64 (((cl) : Nat) : Int), .int .i64 (((cd) : Nat) : Int)]⟩, ⟨fb, 1037, [.slice (some ⟨hb, 0, none⟩) 32768 32768, .int .i64 (((wr) : Nat) : Int), .int .i64 (((rd) : Nat) : Int), .bool full]⟩] [(0, bytesV (h.take wr)), (wr, bytesV ((h.drop wr).take m)), (wr + m, bytesV (h.drop (wr + m)))] 0 (win_ok h wr m H.len (by omega))) ?_
  refine C.relist (L2 := [⟨hb, 0, bytesV (h.take wr)⟩, ⟨hb, wr, bytesV ((h.drop wr).take m)⟩, ⟨hb, wr + m, bytesV (h.drop (wr + m))⟩, x1, x2, x3, ⟨fb, 0, [.iface src.t src.v, .pointer none, .int .i64 (ro), .int .u32 0, .int .u64 0]⟩, ⟨fb, 1045, [.func (.func stp) #[] #[], .int .i64 (((ss) : Nat) : Int), .bool last, .nilIface, trv, hlv, hdv, .int .i64 (((cl) : Nat) : Int), .int .i64 (((cd) : Nat) : Int)]⟩, ⟨fb, 1037, [.slice (some ⟨hb, 0, none⟩) 32768 32768, .int .i64 (((wr) : Nat) : Int), .int .i64 (((rd) : Nat) : Int), .bool full]⟩]) rfl ?_
  refine C.region ?_
  refine E.pure (S.move rfl) rfl ?_
  refine E.pure (S.nilPtr rfl) rfl ?_
  refine E.pure (S.field rfl fa153_0) rfl ?_
  refine E.still (S.load 6 (k := 0) rfl rfl rfl Tryd.isAgg71) rfl ?_
  refine E.pure (S.move rfl) rfl ?_
  refine E.loud1 (OpX.pick [3, 3, 3, 1] (F := [_, _, _, _, _]) rfl (X.call rfl Tryd.call45 (readFull_spec hs src (dt.drop q) x1 x2 x3 hb wr m mc (bytesV ((h.drop wr).take m)) hA (by rw [bytesV_length, List.length_take, List.length_drop, H.len]; omega) hmc (by omega)))) rfl ?_; rintro _ _ ⟨_, ⟨f1, f2, f3, hF, rfl, rfl⟩, rfl⟩; refine E.relist (L2 := [_, _, _, _, _, _, _, _, _]) rfl ?_
  refine E.pure (S.move rfl) rfl ?_
  refine E.pure (S.extract rfl rfl) rfl ?_
  refine E.pure (S.extract rfl rfl) rfl ?_
  refine E.pure (S.assign rfl) rfl ?_
  refine E.pure (S.assign rfl) rfl ?_
  refine E.keep [0, 2, 3, 4] (env1 := [(0, _), (2, _), (3, _), (4, _)]) rfl ?_
  refine C.perml [4, 3, 3] rfl ?_
  refine C.same (win_glue hb wr m h (dt.drop q) [f1, f2, f3, ⟨fb, 0, [.iface src.t src.v, .pointer none, .int .i64 (ro), .int .u32 0, .int .u64 0]⟩, ⟨fb, 1045, [.func (.func stp) #[] #[], .int .i64 (((ss) : Nat) : Int), .bool last, .nilIface, trv, hlv, hdv, .int .i64 (((cl) : Nat) : Int), .int .i64 (((cd) : Nat) : Int)]⟩, ⟨fb, 1037, [.slice (some ⟨hb, 0, none⟩) 32768 32768, .int .i64 (((wr) : Nat) : Int), .int .i64 (((rd) : Nat) : Int), .bool full]⟩] H.len (by omega)) ?_
  refine C.perml [1, 1, 1, 1, 1, 1] rfl ?_
  refine C.relist (L2 := [f1, f2, f3, ⟨fb, 0, [.iface src.t src.v, .pointer none, .int .i64 (ro), .int .u32 0, .int .u64 0]⟩, ⟨fb, 1045, [.func (.func stp) #[] #[], .int .i64 (((ss) : Nat) : Int), .bool last, .nilIface, trv, hlv, hdv, .int .i64 (((cl) : Nat) : Int), .int .i64 (((cd) : Nat) : Int)]⟩, ⟨fb, 1037, [.slice (some ⟨hb, 0, none⟩) 32768 32768, .int .i64 (((wr) : Nat) : Int), .int .i64 (((rd) : Nat) : Int), .bool full]⟩, ⟨hb, 0, bytesV (h.take wr ++ (dt.drop q).take m ++ h.drop (wr + ((dt.drop q).take m).length))⟩]) rfl ?_
  have hdl : (dt.drop q).length = dt.length - q := List.length_drop
  have hxl : ((dt.drop q).take m).length = Nat.min m (dt.drop q).length := List.length_take
  have hmn1 : Nat.min m (dt.drop q).length ≤ m := Nat.min_le_left _ _
  have hHW := H.write ((dt.drop q).take m) (by rw [hxl]; omega)
  refine C.seq ?_
  refine C.region ?_
  refine E.pure (S.move rfl) rfl ?_
  refine E.pure (S.nilPtr rfl) rfl ?_
  refine E.pure (S.field rfl fa153_2) rfl ?_
  refine E.still (S.load 3 (k := 2) rfl rfl rfl Tryd.isAgg2) rfl ?_
  refine E.pure (S.move rfl) rfl ?_
  refine E.pure (S.add rfl rfl rfl) rfl ?_
  refine E.pure (S.nilPtr rfl) rfl ?_
  refine E.pure (S.field rfl fa153_2) rfl ?_
  refine E.loud0 (X.store 3 (k := 2) rfl rfl rfl rfl rfl Tryd.sizeOf2) ?_; rintro _ _ ⟨rfl, rfl⟩; refine E.relist (L2 := [_, _, _, _, _, _, _]) rfl ?_
  refine E.keep [0, 2, 3, 4] (env1 := [(0, _), (2, _), (3, _), (4, _)]) rfl ?_
  refine C.seq ?_
  refine C.region ?_
  refine E.pure (S.move rfl) rfl ?_
  refine E.pure (S.nilPtr rfl) rfl ?_
  refine E.pure (S.field rfl fa153_18) rfl ?_
  refine E.still (S.load 4 (k := 7) rfl rfl rfl Tryd.isAgg3) rfl ?_
  refine E.pure (S.move rfl) rfl ?_
  refine E.pure (S.sub rfl rfl (N.sub64 (by omega) (by omega))) rfl ?_
  refine E.pure (S.nilPtr rfl) rfl ?_
  refine E.pure (S.field rfl fa153_18) rfl ?_
  refine E.loud0 (X.store 4 (k := 7) rfl rfl rfl rfl rfl Tryd.sizeOf3) ?_; rintro _ _ ⟨rfl, rfl⟩; refine E.relist (L2 := [_, _, _, _, _, _, _]) rfl ?_
  refine E.keep [0, 2, 3, 4] (env1 := [(0, _), (2, _), (3, _), (4, _)]) rfl ?_
  refine C.seq ?_
  refine C.region ?_
  refine E.pure (S.move rfl) rfl ?_
  refine E.pure (S.nilPtr rfl) rfl ?_
  refine E.pure (S.field rfl fa153_9) rfl ?_
  refine E.pure (S.move rfl) rfl ?_
  refine E.loud1 (OpX.pick [5] (F := [_, _, _, _, _, _]) rfl (X.call rfl Tryd.call90 (writeMark_spec fb 1037 hb wr rd full (by omega) _ (by omega)))) rfl ?_; rintro _ _ ⟨_, ⟨rfl, rfl⟩, rfl⟩; refine E.relist (L2 := [_, _, _, _, _, _, _]) rfl ?_
  refine E.perml [1, 1, 1, 1, 1, 0, 0] rfl ?_
  refine E.relist (L2 := [_, _, _, _, _, _, _]) rfl ?_
  refine E.keep [0, 2, 3, 4] (env1 := [(0, _), (2, _), (3, _), (4, _)]) rfl ?_
  refine C.seq ?_
  refine C.seq ?_
  refine C.region ?_
  refine E.pure (S.move rfl) rfl ?_
  refine E.still (S.neErNil rfl) rfl ?_
  refine E.keep [0, 2, 3, 4, 53] (env1 := [(0, _), (2, _), (3, _), (4, _), (53, _)]) rfl ?_
  first | refine C.ifp rfl (fun h53 => ?_) (fun h53 => ?_) | refine C.ifNone rfl (fun h53 => ?_) (fun h53 => ?_) | refine C.ifSome rfl (fun h53 => ?_) (fun h53 => ?_) | refine C.ifSe rfl (fun h53 => ?_) (fun h53 => ?_) | refine C.ifNotSe rfl (fun h53 => ?_) (fun h53 => ?_) | refine C.cond rfl (fun h53 => ?_) (fun h53 => ?_)
  ·
   obtain ⟨hbf, hlt⟩ := bad_full h53
   have hmn : Nat.min m (dt.drop q).length = (dt.drop q).length := Nat.min_eq_right (by omega)
   have HW := hHW
   rw [hxl] at HW
   rw [hxl]
   refine C.seq ?_
   refine C.region ?_
   refine E.pure (S.move rfl) rfl ?_
   refine E.pure (S.move rfl) rfl ?_
   refine E.loud1 (OpX.pick [] (F := [_, _, _, _, _, _, _]) rfl (X.call rfl Tryd.call76 (flate_noEOF (L := []) hs _))) rfl ?_; rintro _ _ ⟨_, ⟨rfl, rfl⟩, rfl⟩; refine E.relist (L2 := [_, _, _, _, _, _, _]) rfl ?_
   refine E.pure (S.nilPtr rfl) rfl ?_
   refine E.pure (S.field rfl fa153_14) rfl ?_
   refine E.loud0 (X.store 4 (k := 3) rfl rfl rfl (one_er _) rfl Tryd.sizeOf59) ?_; rintro _ _ ⟨rfl, rfl⟩; refine E.relist (L2 := [_, _, _, _, _, _, _]) rfl ?_
   refine E.keep [0, 2, 3, 4, 53] (env1 := [(0, _), (2, _), (3, _), (4, _), (53, _)]) rfl ?_
   refine C.ret ?_
   refine ⟨rfl, _, _, _, _, _, _, _, rfl, .inr (.inr ⟨[], _, .bad, _, trv, _, _, rd, full, .inr ⟨rfl, hbf, _, hF⟩, ⟨_, _, _, rfl⟩, ⟨HW, by omega, by omega, by simp only [List.length_nil, List.length_append]; omega, by simp, by rw [htr]; exact TR.nil _ _ _ _, rfl, rfl⟩, ⟨_, _, _, _, _, _, _, rfl⟩, ?_, .inl rfl⟩)⟩
   rw [hR, stored, if_pos (by omega), List.take_of_length_le (by omega)]
  ·
   have hge := full_none h53
   have hmn : Nat.min m (dt.drop q).length = m := Nat.min_eq_left hge
   rw [hmn] at hxl
   have HW := hHW
   rw [hxl] at HW
   rw [hxl, hmn]
   rw [List.drop_drop] at hF
   refine C.skip ?_
   refine C.seq ?_
   refine C.seq ?_
   refine C.region ?_
   refine E.pure (S.move rfl) rfl ?_
   refine E.pure (S.nilPtr rfl) rfl ?_
   refine E.pure (S.field rfl fa153_9) rfl ?_
   refine E.loud1 (OpX.pick [5] (F := [_, _, _, _, _, _]) rfl (X.call rfl Tryd.call83 (availWrite_spec fb 1037 hb (wr + m) rd full (by omega) (by omega)))) rfl ?_; rintro _ _ ⟨_, ⟨rfl, rfl⟩, rfl⟩; refine E.relist (L2 := [_, _, _, _, _, _, _]) rfl ?_
   refine E.perml [1, 1, 1, 1, 1, 0, 0] rfl ?_
   refine E.relist (L2 := [_, _, _, _, _, _, _]) rfl ?_
   refine E.pure (S.eq (b := ((0 : Nat) : Int)) rfl rfl) rfl ?_
   refine E.pure (S.move rfl) rfl ?_
   refine E.fork (fun g64 => ?_) (fun g64 => ?_)
   ·
    refine E.guardNo 64 true rfl rfl rfl rfl ?_
    refine E.guardNo 64 true rfl rfl rfl rfl ?_
    refine E.guardNo 64 true rfl rfl rfl rfl ?_
    refine E.guardNo 64 true rfl rfl rfl rfl ?_
    refine E.guardNo 64 true rfl rfl rfl rfl ?_
    refine E.pure (S.pickT rfl rfl) rfl ?_
    refine E.keep [0, 2, 3, 4, 53, 70] (env1 := [(0, _), (2, _), (3, _), (4, _), (53, _), (70, _)]) rfl ?_
    refine C.yes rfl (rfl) ?_
    refine C.seq ?_
    refine C.region ?_
    refine E.pure (S.move rfl) rfl ?_
    refine E.pure (S.move rfl) rfl ?_
    refine E.pure (S.nilPtr rfl) rfl ?_
    refine E.pure (S.field rfl fa153_9) rfl ?_
    refine E.loud1 (OpX.pick [5] (F := [_, _, _, _, _, _]) rfl (X.call rfl Tryd.call77 (readFlush_spec fb 1037 hb (wr + m) rd full (by omega) (by omega)))) rfl ?_; rintro _ _ ⟨_, ⟨Aw, hfl, rfl⟩, rfl⟩; refine E.relist (L2 := [_, _, _, _, _, _, _]) rfl ?_
    refine E.perml [1, 1, 1, 1, 1, 0, 0] rfl ?_
    refine E.relist (L2 := [_, _, _, _, _, _, _]) rfl ?_
    refine E.pure (S.nilPtr rfl) rfl ?_
    refine E.pure (S.field rfl fa153_15) rfl ?_
    refine E.loud0 (X.store 4 (k := 4) rfl rfl rfl (flush_one hfl) rfl Tryd.sizeOf22) ?_; rintro _ _ ⟨rfl, rfl⟩; refine E.relist (L2 := [_, _, _, _, _, _, _]) rfl ?_
    refine E.keep [0, 2, 3, 4, 53, 70] (env1 := [(0, _), (2, _), (3, _), (4, _), (53, _), (70, _)]) rfl ?_
    refine C.seq ?_
    refine C.region ?_
    refine E.pure (S.move rfl) rfl ?_
    refine E.pure (S.nilPtr rfl) rfl ?_
    refine E.pure (S.field rfl fa153_11) rfl ?_
    refine E.loud0 (X.store 4 (k := 0) rfl rfl rfl rfl rfl Tryd.sizeOf150) ?_; rintro _ _ ⟨rfl, rfl⟩; refine E.relist (L2 := [_, _, _, _, _, _, _]) rfl ?_
    refine E.keep [0, 2, 3, 4, 53, 70] (env1 := [(0, _), (2, _), (3, _), (4, _), (53, _), (70, _)]) rfl ?_
    refine C.ret ?_
    have hR2 := hR.trans (stored_step (k := m) hm1 (by omega))
    have hwm : wr + m = 32768 := by omega
    obtain ⟨wr5, full5, hW, hlen, hsz⟩ := WinSt.flush (gv := gv) HW (by omega) (by rw [List.length_append]; omega) hfl
    have hs5 : hsize wr full ≤ hsize (wr + m) full := by unfold hsize; split <;> omega
    exact ⟨rfl, _, _, _, _, _, _, _, rfl, .inl ⟨_, q + m, (fun h => by rw [h] at hlen; simp at hlen; omega), _, _, _, wr5, wr5, full5, ss, last, hlv, hdv, cl - m, cd, ⟨hF, 0, _, BitsIn.start dt (by omega), rfl⟩, hW, rfl, hss.imp id (fun h => ⟨h.1, h.2.1, by omega⟩), by omega, hR2⟩⟩
   ·
    refine E.wanted 64 rfl rfl ?_
    refine E.pure (S.move rfl) rfl ?_
    refine E.wanted 64 rfl rfl ?_
    refine E.pure (S.nilPtr rfl) rfl ?_
    refine E.wanted 64 rfl rfl ?_
    refine E.pure (S.field rfl fa153_18) rfl ?_
    refine E.wanted 64 rfl rfl ?_
    refine E.still (S.load 4 (k := 7) rfl rfl rfl Tryd.isAgg3) rfl ?_
    refine E.wanted 64 rfl rfl ?_
    refine E.pure (S.gt (b := ((0 : Nat) : Int)) rfl rfl) rfl ?_
    refine E.pure (S.pickF rfl rfl) rfl ?_
    refine E.keep [0, 2, 3, 4, 53, 70] (env1 := [(0, _), (2, _), (3, _), (4, _), (53, _), (70, _)]) rfl ?_
    refine C.ifp rfl (fun h70 => ?_) (fun h70 => ?_)
    ·
     refine C.seq ?_
     refine C.region ?_
     refine E.pure (S.move rfl) rfl ?_
     refine E.pure (S.move rfl) rfl ?_
     refine E.pure (S.nilPtr rfl) rfl ?_
     refine E.pure (S.field rfl fa153_9) rfl ?_
     refine E.loud1 (OpX.pick [5] (F := [_, _, _, _, _, _]) rfl (X.call rfl Tryd.call77 (readFlush_spec fb 1037 hb (wr + m) rd full (by omega) (by omega)))) rfl ?_; rintro _ _ ⟨_, ⟨Aw, hfl, rfl⟩, rfl⟩; refine E.relist (L2 := [_, _, _, _, _, _, _]) rfl ?_
     refine E.perml [1, 1, 1, 1, 1, 0, 0] rfl ?_
     refine E.relist (L2 := [_, _, _, _, _, _, _]) rfl ?_
     refine E.pure (S.nilPtr rfl) rfl ?_
     refine E.pure (S.field rfl fa153_15) rfl ?_
     refine E.loud0 (X.store 4 (k := 4) rfl rfl rfl (flush_one hfl) rfl Tryd.sizeOf22) ?_; rintro _ _ ⟨rfl, rfl⟩; refine E.relist (L2 := [_, _, _, _, _, _, _]) rfl ?_
     refine E.keep [0, 2, 3, 4, 53, 70] (env1 := [(0, _), (2, _), (3, _), (4, _), (53, _), (70, _)]) rfl ?_
     refine C.seq ?_
     refine C.region ?_
     refine E.pure (S.move rfl) rfl ?_
     refine E.pure (S.nilPtr rfl) rfl ?_
     refine E.pure (S.field rfl fa153_11) rfl ?_
     refine E.loud0 (X.store 4 (k := 0) rfl rfl rfl rfl rfl Tryd.sizeOf150) ?_; rintro _ _ ⟨rfl, rfl⟩; refine E.relist (L2 := [_, _, _, _, _, _, _]) rfl ?_
     refine E.keep [0, 2, 3, 4, 53, 70] (env1 := [(0, _), (2, _), (3, _), (4, _), (53, _), (70, _)]) rfl ?_
     refine C.ret ?_
     have hR2 := hR.trans (stored_step (k := m) hm1 (by omega))
     have hwm : wr + m = 32768 := by omega
     obtain ⟨wr5, full5, hW, hlen, hsz⟩ := WinSt.flush (gv := gv) HW (by omega) (by rw [List.length_append]; omega) hfl
     have hs5 : hsize wr full ≤ hsize (wr + m) full := by unfold hsize; split <;> omega
     exact ⟨rfl, _, _, _, _, _, _, _, rfl, .inl ⟨_, q + m, (fun h => by rw [h] at hlen; simp at hlen; omega), _, _, _, wr5, wr5, full5, ss, last, hlv, hdv, cl - m, cd, ⟨hF, 0, _, BitsIn.start dt (by omega), rfl⟩, hW, rfl, hss.imp id (fun h => ⟨h.1, h.2.1, by omega⟩), by omega, hR2⟩⟩
    ·
     refine C.skip ?_
     refine C.region ?_
     refine E.pure (S.move rfl) rfl ?_
     refine E.loud1 (OpX.pick [5, 4] (F := [_, _, _, _, _]) rfl (X.call rfl Tryd.call78 (finishBlock_spec hs fb hb (wr + m) rd full last (by omega) (by omega) _ _ _ _ _ _ _ _))) rfl ?_; rintro _ _ ⟨_, ⟨rfl, ev2, tr2, Aw, rfl, hfin⟩, rfl⟩; refine E.relist (L2 := [_, _, _, _, _, _, _]) rfl ?_
     refine E.perml [2, 2, 2, 2, 1, 0, 0] rfl ?_
     refine E.relist (L2 := [_, _, _, _, _, _, _]) rfl ?_
     refine E.keep [0, 2, 3, 4, 53, 70] (env1 := [(0, _), (2, _), (3, _), (4, _), (53, _), (70, _)]) rfl ?_
     have hR2 := hR.trans (stored_step (k := m) hm1 (by omega))
     have hmc : m = cl := by omega
     have hwm : wr + m < 32768 := by omega
     subst hmc
     rw [Nat.sub_self] at hR2
     have hs5 : hsize wr full ≤ hsize (wr + m) full := by unfold hsize; split <;> omega
     unfold stored at hR2
     rw [if_neg (by omega), List.take_zero, List.append_nil, Nat.add_zero] at hR2
     rcases hfin with ⟨hl5, rfl, rfl, rfl⟩ | ⟨hl5, rfl, ⟨h1, rfl, rfl⟩ | ⟨_, hfl⟩⟩
     · rw [hl5] at hR2
       refine ⟨rfl, _, _, _, _, _, _, _, rfl, .inr (.inl ⟨8 * (q + m), by omega, q + m, 0, _, _, _, wr + m, rd, full, ss, last, _, _, m - m, cd, ⟨hF, 0, _, BitsIn.start dt (by omega), rfl⟩, by omega, ⟨HW, by omega, hwm, by simp only [List.length_nil, List.length_append]; omega, by simp, by rw [htr]; exact TR.nil _ _ _ _, rfl, rfl⟩, rfl, hss.imp id (fun h => ⟨h.1, by omega, h.2.1, by omega⟩), hR2⟩)⟩
     · rw [hl5, if_pos rfl] at hR2
       exact ⟨rfl, _, _, _, _, _, _, _, rfl, .inr (.inr ⟨[], _, _, .eof, _, _, wr + m, rd, full, .inl ⟨q + m, rfl, rfl, by omega, hF⟩, ⟨_, _, _, rfl⟩, ⟨HW, by omega, hwm, by simp only [List.length_nil, List.length_append]; omega, by simp, by rw [htr]; exact TR.nil _ _ _ _, rfl, rfl⟩, ⟨_, _, _, _, _, _, _, rfl⟩, hR2, .inl rfl⟩)⟩
     · rw [hl5, if_pos rfl] at hR2
       obtain ⟨wr5, full5, hW, hlen, hsz⟩ := WinSt.flush (gv := gv) HW (by omega) (by rw [List.length_append]; omega) hfl
       exact ⟨rfl, _, _, _, _, _, _, _, rfl, .inr (.inr ⟨_, _, _, .eof, _, _, wr5, wr5, full5, .inl ⟨q + m, rfl, rfl, by omega, hF⟩, ⟨_, _, _, rfl⟩, hW, ⟨_, _, _, _, _, _, _, rfl⟩, hR2, .inr rfl⟩)⟩
end Go.Eng
namespace Go.Eng
open Go Go.Proofs
set_option maxRecDepth 100000

set_option maxHeartbeats 1000000
theorem zc288 : (Value.agg Tryd.zeroCells168).cells.toList = cellsI 288 (fun _ => 0) := by kernel_rfl
theorem zcHufL : (Value.agg Tryd.zeroCells144).cells.toList = hufZ := by rw [zcHuf]
def fixv (i : Nat) : Nat := if i < 144 then 8 else if i < 256 then 9 else if i < 280 then 7 else 8
def fixTo (k i : Nat) : Nat := if i < k then fixv i else 0
theorem fix_zero : cellsI 288 (fun _ => 0) = cellsI 288 (fixTo 0) := cellsI_congr fun o _ => by simp [fixTo]
theorem fix_next {k v : Nat} (hv : fixv k = v) : (cellsI 288 (fixTo k)).set (k * 1) (.int .i64 ((v : Nat) : Int)) = cellsI 288 (fixTo (k + 1)) :=
  cellsI_set (by rw [fixTo, if_pos (by omega), hv]) fun o _ hne => by
    unfold fixTo
    by_cases h : o < k
    · rw [if_pos h, if_pos (by omega)]
    · rw [if_neg h, if_neg (by omega)]
theorem fix_full : cellsI 288 (fixTo 288) = intsV fixLit ++ [] := by
  rw [List.append_nil]
  have e : fixLit = (List.range 288).map fixv := by decide +kernel
  rw [e, intsV, List.map_map, cellsI]
  refine List.map_congr_left fun i hi => ?_
  have := List.mem_range.1 hi
  simp [fixTo, this]
theorem fix_ok : okLens fixLit := by decide +kernel
theorem fix_min : minL fixLit = 7 := by decide +kernel
theorem fix_15 : ∀ x ∈ fixLit, x ≤ 15 := by decide +kernel
theorem fix_lenL : fixLit.length = 288 := by decide +kernel

theorem fixedHuffman_walk {K : Known} : Fn Tryd.prog K 73 #[] ([]) (fun r L => ∃ qb L1 J, r = .pointer (some ⟨qb, 0, none⟩) ∧ HufT fixLit 7 qb 0 L1 ∧ Same L (L1 ++ J)) := by
 refine Fn.intro (args := []) (RR := Ret1 0 _) Tryd.func73 rfl rfl Tryd.ntmps73 (res1 Tryd.results73) ?_
 refine C.reenv (env2 := []) rfl ?_
 refine C.seq ?_
 refine C.region ?_
 refine E.pure (S.assign rfl) rfl ?_
 refine E.keep [0] (env1 := [(0, _)]) rfl ?_
 refine C.seq ?_
 refine C.region ?_
 refine E.loud1 (X.alloc Tryd.zeroValue168) rfl ?_; rintro _ _ ⟨b1, rfl, rfl⟩; refine E.relist (L2 := [_]) rfl ?_
 refine E.relist (L2 := [⟨b1, 0, cellsI 288 (fixTo (0))⟩]) (by rw [zc288, fix_zero]) ?_
 refine E.keep [0, 1] (env1 := [(0, _), (1, _)]) rfl ?_
 refine C.seq ?_
 refine C.seq ?_
 refine C.region ?_
 refine E.pure (S.assign rfl) rfl ?_
 refine E.keep [0, 1, 2] (env1 := [(0, _), (1, _), (2, _)]) rfl ?_
 refine C.block ?_
 refine C.loop (fun mm ee ll => ∃ (k : Nat), keeps ee [1, 2] = some [(1, .pointer (some ⟨b1, 0, none⟩)), (2, .int .i64 ((k : Nat) : Int))] ∧ ll = [⟨b1, 0, cellsI 288 (fixTo (k))⟩] ∧ (0 ≤ k) ∧ (k ≤ 144) ∧ mm = 144 - k) (_) ⟨0, rfl, rfl, by omega, by omega, rfl⟩ ?_
 rintro m0 _ _ ⟨k, hk0, rfl, hj1, hj2, hm0⟩
 refine C.weaken _ hk0 ?_
 refine C.seq ?_
 refine C.seq ?_
 refine C.region ?_
 refine E.pure (S.move rfl) rfl ?_
 refine E.pure (S.lt (b := ((144 : Nat) : Int)) rfl rfl) rfl ?_
 refine E.keep [1, 2, 8] (env1 := [(1, _), (2, _), (8, _)]) rfl ?_
 refine C.ifp rfl (fun h8 => ?_) (fun h8 => ?_)
 ·
  refine C.skip ?_
  refine C.seq ?_
  refine C.block ?_
  refine C.region ?_
  refine E.pure (S.move rfl) rfl ?_
  refine E.pure (S.ixArr rfl rfl (by omega) Tryd.underlying168 Tryd.sizeOf3) rfl ?_
  refine E.loud0 (X.store 0 (k := k * 1) rfl rfl rfl rfl (by rw [Nat.blt_eq, cellsI_length]; omega) Tryd.sizeOf3) ?_
  rintro _ _ ⟨rfl, rfl⟩
  refine E.relist (L2 := [⟨b1, 0, cellsI 288 (fixTo (k + 1))⟩]) (congrArg (fun x => ([⟨b1, 0, x⟩] : Frags)) (fix_next (v := 8) (by unfold fixv; repeat (first | rw [if_pos (by omega)] | rw [if_neg (by omega)])))) ?_
  refine E.keep [1, 2, 8] (env1 := [(1, _), (2, _), (8, _)]) rfl ?_
  refine C.region ?_
  refine E.pure (S.move rfl) rfl ?_
  refine E.pure (S.add (b := ((1 : Nat) : Int)) rfl rfl (N.add64 (by omega))) rfl ?_
  refine E.pure (S.assign rfl) rfl ?_
  refine E.keep [1, 2, 8] (env1 := [(1, _), (2, _), (8, _)]) rfl ?_
  refine ⟨_, ?_, k + 1, rfl, rfl, by omega, by omega, rfl⟩; omega
 ·
  have hk : k = 144 := by omega
  subst hk
  refine C.exit rfl ?_
  refine C.seq ?_
  refine C.seq ?_
  refine C.region ?_
  refine E.pure (S.assign rfl) rfl ?_
  refine E.keep [1, 2, 3, 8] (env1 := [(1, _), (2, _), (3, _), (8, _)]) rfl ?_
  refine C.block ?_
  refine C.loop (fun mm ee ll => ∃ (k : Nat), keeps ee [1, 3] = some [(1, .pointer (some ⟨b1, 0, none⟩)), (3, .int .i64 ((k : Nat) : Int))] ∧ ll = [⟨b1, 0, cellsI 288 (fixTo (k))⟩] ∧ (144 ≤ k) ∧ (k ≤ 256) ∧ mm = 256 - k) (_) ⟨144, rfl, rfl, by omega, by omega, rfl⟩ ?_
  rintro m1 _ _ ⟨k, hk1, rfl, hj1, hj2, hm1⟩
  refine C.weaken _ hk1 ?_
  refine C.seq ?_
  refine C.seq ?_
  refine C.region ?_
  refine E.pure (S.move rfl) rfl ?_
  refine E.pure (S.lt (b := ((256 : Nat) : Int)) rfl rfl) rfl ?_
  refine E.keep [1, 3, 14] (env1 := [(1, _), (3, _), (14, _)]) rfl ?_
  refine C.ifp rfl (fun h14 => ?_) (fun h14 => ?_)
  ·
   refine C.skip ?_
   refine C.seq ?_
   refine C.block ?_
   refine C.region ?_
   refine E.pure (S.move rfl) rfl ?_
   refine E.pure (S.ixArr rfl rfl (by omega) Tryd.underlying168 Tryd.sizeOf3) rfl ?_
   refine E.loud0 (X.store 0 (k := k * 1) rfl rfl rfl rfl (by rw [Nat.blt_eq, cellsI_length]; omega) Tryd.sizeOf3) ?_
   rintro _ _ ⟨rfl, rfl⟩
   refine E.relist (L2 := [⟨b1, 0, cellsI 288 (fixTo (k + 1))⟩]) (congrArg (fun x => ([⟨b1, 0, x⟩] : Frags)) (fix_next (v := 9) (by unfold fixv; repeat (first | rw [if_pos (by omega)] | rw [if_neg (by omega)])))) ?_
   refine E.keep [1, 3, 14] (env1 := [(1, _), (3, _), (14, _)]) rfl ?_
   refine C.region ?_
   refine E.pure (S.move rfl) rfl ?_
   refine E.pure (S.add (b := ((1 : Nat) : Int)) rfl rfl (N.add64 (by omega))) rfl ?_
   refine E.pure (S.assign rfl) rfl ?_
   refine E.keep [1, 3, 14] (env1 := [(1, _), (3, _), (14, _)]) rfl ?_
   refine ⟨_, ?_, k + 1, rfl, rfl, by omega, by omega, rfl⟩; omega
  ·
   have hk : k = 256 := by omega
   subst hk
   refine C.exit rfl ?_
   refine C.seq ?_
   refine C.seq ?_
   refine C.region ?_
   refine E.pure (S.assign rfl) rfl ?_
   refine E.keep [1, 3, 4, 14] (env1 := [(1, _), (3, _), (4, _), (14, _)]) rfl ?_
   refine C.block ?_
   refine C.loop (fun mm ee ll => ∃ (k : Nat), keeps ee [1, 4] = some [(1, .pointer (some ⟨b1, 0, none⟩)), (4, .int .i64 ((k : Nat) : Int))] ∧ ll = [⟨b1, 0, cellsI 288 (fixTo (k))⟩] ∧ (256 ≤ k) ∧ (k ≤ 280) ∧ mm = 280 - k) (_) ⟨256, rfl, rfl, by omega, by omega, rfl⟩ ?_
   rintro m2 _ _ ⟨k, hk2, rfl, hj1, hj2, hm2⟩
   refine C.weaken _ hk2 ?_
   refine C.seq ?_
   refine C.seq ?_
   refine C.region ?_
   refine E.pure (S.move rfl) rfl ?_
   refine E.pure (S.lt (b := ((280 : Nat) : Int)) rfl rfl) rfl ?_
   refine E.keep [1, 4, 20] (env1 := [(1, _), (4, _), (20, _)]) rfl ?_
   refine C.ifp rfl (fun h20 => ?_) (fun h20 => ?_)
   ·
    refine C.skip ?_
    refine C.seq ?_
    refine C.block ?_
    refine C.region ?_
    refine E.pure (S.move rfl) rfl ?_
    refine E.pure (S.ixArr rfl rfl (by omega) Tryd.underlying168 Tryd.sizeOf3) rfl ?_
    refine E.loud0 (X.store 0 (k := k * 1) rfl rfl rfl rfl (by rw [Nat.blt_eq, cellsI_length]; omega) Tryd.sizeOf3) ?_
    rintro _ _ ⟨rfl, rfl⟩
    refine E.relist (L2 := [⟨b1, 0, cellsI 288 (fixTo (k + 1))⟩]) (congrArg (fun x => ([⟨b1, 0, x⟩] : Frags)) (fix_next (v := 7) (by unfold fixv; repeat (first | rw [if_pos (by omega)] | rw [if_neg (by omega)])))) ?_
    refine E.keep [1, 4, 20] (env1 := [(1, _), (4, _), (20, _)]) rfl ?_
    refine C.region ?_
    refine E.pure (S.move rfl) rfl ?_
    refine E.pure (S.add (b := ((1 : Nat) : Int)) rfl rfl (N.add64 (by omega))) rfl ?_
    refine E.pure (S.assign rfl) rfl ?_
    refine E.keep [1, 4, 20] (env1 := [(1, _), (4, _), (20, _)]) rfl ?_
    refine ⟨_, ?_, k + 1, rfl, rfl, by omega, by omega, rfl⟩; omega
   ·
    have hk : k = 280 := by omega
    subst hk
    refine C.exit rfl ?_
    refine C.seq ?_
    refine C.seq ?_
    refine C.region ?_
    refine E.pure (S.assign rfl) rfl ?_
    refine E.keep [1, 4, 5, 20] (env1 := [(1, _), (4, _), (5, _), (20, _)]) rfl ?_
    refine C.block ?_
    refine C.loop (fun mm ee ll => ∃ (k : Nat), keeps ee [1, 5] = some [(1, .pointer (some ⟨b1, 0, none⟩)), (5, .int .i64 ((k : Nat) : Int))] ∧ ll = [⟨b1, 0, cellsI 288 (fixTo (k))⟩] ∧ (280 ≤ k) ∧ (k ≤ 288) ∧ mm = 288 - k) (_) ⟨280, rfl, rfl, by omega, by omega, rfl⟩ ?_
    rintro m3 _ _ ⟨k, hk3, rfl, hj1, hj2, hm3⟩
    refine C.weaken _ hk3 ?_
    refine C.seq ?_
    refine C.seq ?_
    refine C.region ?_
    refine E.pure (S.move rfl) rfl ?_
    refine E.pure (S.lt (b := ((288 : Nat) : Int)) rfl rfl) rfl ?_
    refine E.keep [1, 5, 26] (env1 := [(1, _), (5, _), (26, _)]) rfl ?_
    refine C.ifp rfl (fun h26 => ?_) (fun h26 => ?_)
    ·
     refine C.skip ?_
     refine C.seq ?_
     refine C.block ?_
     refine C.region ?_
     refine E.pure (S.move rfl) rfl ?_
     refine E.pure (S.ixArr rfl rfl (by omega) Tryd.underlying168 Tryd.sizeOf3) rfl ?_
     refine E.loud0 (X.store 0 (k := k * 1) rfl rfl rfl rfl (by rw [Nat.blt_eq, cellsI_length]; omega) Tryd.sizeOf3) ?_
     rintro _ _ ⟨rfl, rfl⟩
     refine E.relist (L2 := [⟨b1, 0, cellsI 288 (fixTo (k + 1))⟩]) (congrArg (fun x => ([⟨b1, 0, x⟩] : Frags)) (fix_next (v := 8) (by unfold fixv; repeat (first | rw [if_pos (by omega)] | rw [if_neg (by omega)])))) ?_
     refine E.keep [1, 5, 26] (env1 := [(1, _), (5, _), (26, _)]) rfl ?_
     refine C.region ?_
     refine E.pure (S.move rfl) rfl ?_
     refine E.pure (S.add (b := ((1 : Nat) : Int)) rfl rfl (N.add64 (by omega))) rfl ?_
     refine E.pure (S.assign rfl) rfl ?_
     refine E.keep [1, 5, 26] (env1 := [(1, _), (5, _), (26, _)]) rfl ?_
     refine ⟨_, ?_, k + 1, rfl, rfl, by omega, by omega, rfl⟩; omega
    ·
     have hk : k = 288 := by omega
     subst hk
     refine C.exit rfl ?_
     refine C.seq ?_
     refine C.region ?_
     refine E.loud1 (X.alloc Tryd.zeroValue144) rfl ?_; rintro _ _ ⟨b31, rfl, rfl⟩; refine E.relist (L2 := [_, _]) rfl ?_
     refine E.relist (L2 := [⟨b31, 0, .int .i64 ((0 : Nat) : Int) :: (cellsU 512 (fun _ => 0) ++ [.slice none 0 0, .int .u32 0])⟩, ⟨b1, 0, intsV fixLit ++ []⟩]) (by rw [zcHufL, ← fix_full]; rfl) ?_
     refine E.pure (S.assign rfl) rfl ?_
     refine E.keep [1, 5, 6, 26] (env1 := [(1, _), (5, _), (6, _), (26, _)]) rfl ?_
     refine C.seq ?_
     refine C.region ?_
     refine E.pure (S.move rfl) rfl ?_
     refine E.pure (S.slArr (l := 0) (k := .i64) (h := 288) (k' := .i64) rfl rfl rfl (by omega) (by omega) Tryd.underlying168 Tryd.sizeOf3) rfl ?_
     refine E.reslot (v := .slice (some ⟨b1, 0, none⟩) (fixLit.length) (fixLit.length)) (by rw [fix_lenL]; rfl) ?_
     refine E.loud1 (X.call rfl Tryd.call80 (init_walk b31 0 b1 0 fixLit.length 0 (cellsU 512 (fun _ => 0) ++ [.slice none 0 0, .int .u32 0]) [] fixLit (by simp [cellsU_length]) (fun _ => rfl) fix_15 (by rw [fix_lenL]; decide))) rfl ?_
     rintro rI LI hI
     refine E.keep [1, 5, 6, 26] (env1 := [(1, _), (5, _), (6, _), (26, _)]) rfl ?_
     refine C.seq ?_
     refine C.region ?_
     refine E.pure (S.move rfl) rfl ?_
     refine E.pure (S.assign rfl) rfl ?_
     refine E.keep [0, 1, 5, 6, 26] (env1 := [(0, _), (1, _), (5, _), (6, _), (26, _)]) rfl ?_
     refine C.ret ?_
     rcases hI with ⟨_, _, L1, J, hH, hS⟩ | ⟨hno, _⟩
     · rw [fix_min] at hH
       exact ⟨_, rfl, b31, L1, _ :: J, rfl, hH, hS.trans (Same.perm (List.perm_middle.symm))⟩
     · exact absurd fix_ok hno
theorem fixedHuffman_spec {K : Known} : Fn Tryd.prog K 73 #[] [] fun r L => ∃ qb, r = .pointer (some ⟨qb, 0, none⟩) ∧ HufT fixLit 7 qb 0 L :=
  Fn.lose fixedHuffman_walk fun v L' ⟨qb, L1, J, h1, h2, h3⟩ => ⟨L1, J, h3, qb, h1, h2⟩

end Go.Eng
namespace Go.Eng
open Go Go.Proofs
set_option maxRecDepth 100000

set_option maxHeartbeats 1000000
/-- How dataBlock ends. -/
def DbEnd {K : Known} {ea : Fin 5 → Addr} (src : Src K ea) (dt : List UInt8) (fb hb : Nat) (R : ResR) (gv p0 : Nat) (L : Frags) : Prop :=
  ∃ y1 y2 y3 A T W H ws, ws.length = 4 ∧ L = [y1, y2, y3, A, T, W, H, ⟨fb, 1041, ws⟩] ∧ ((∃ pend q, pend ≠ [] ∧ StorSt src dt fb hb R gv pend q y1 y2 y3 A T W H) ∨ (∃ pend p2, p0 < p2 ∧ NextSt src dt fb hb R gv pend p2 y1 y2 y3 A T W H) ∨ ∃ pend, EndSt src dt fb hb R gv pend y1 y2 y3 A T W H)
/-- What comes of a stored block whose lengths stand at byte q. -/
def storR (dt : List UInt8) (last : Bool) (out : List UInt8) (q : Nat) : ResR := match storedN dt q with
  | none => (out, .bad)
  | some n => stored dt last n out (q + 4)
theorem storR_short {dt : List UInt8} {last : Bool} {out : List UInt8} {q : Nat} (h : dt.length < q + 4) : storR dt last out q = (out, .bad) := by
  unfold storR storedN; rw [if_pos h]
theorem compl16 {n : Nat} (h : n < 65536) : IntKind.u16.wrap (-1 - (n : Int)) = ((65535 - n : Nat) : Int) := by
  have e : IntKind.u16.wrap (-1 - (n : Int)) = (-1 - (n : Int)) % 65536 := rfl
  rw [e]; omega
theorem not_i64 {a : Nat} (h : a < 65536) : IntKind.i64.wrap (((BitVec.ofInt 64 (-1) ^^^ BitVec.ofNat 64 a).toNat : Nat) : Int) = -1 - (a : Int) := by
  have e1 : BitVec.ofInt 64 (-1) = BitVec.allOnes 64 := by decide
  rw [e1, BitVec.allOnes_xor, BitVec.toNat_not, BitVec.toNat_ofNat, Nat.mod_eq_of_lt (by omega)]
  rw [show (2 : Nat) ^ 64 - 1 - a = 18446744073709551615 - a from rfl]
  rw [IntKind.wrap_i64]; omega
theorem S.not64 {n : Nat} {env : Env} {ty xT : TypeId} {x : Operand} {a : Nat} (hx : ev? env x = some (.int .i64 (a : Int))) (ha : a < 65536) :
    OpP Tryd.prog n (.unOp .xor xT x) ty env (.int .i64 (-1 - (a : Int))) := by
  intro ac w hf
  simp only [exop, execOp, hf.eval hx, Op.unary]
  have e : IntKind.i64.signed = true := rfl
  rw [e]
  simp only [if_true, intBits_xor]
  have := not_i64 ha
  rw [← this]
  simp only [bits, N.ofInt_nat]
  rfl
theorem four_bytes {dt : List UInt8} {q : Nat} (h : q + 4 ≤ dt.length) : ∃ b0 b1 b2 b3 : UInt8, (dt.drop q).take 4 = [b0, b1, b2, b3] ∧ (dt.getD q 0).toNat = b0.toNat ∧ (dt.getD (q + 1) 0).toNat = b1.toNat ∧ (dt.getD (q + 2) 0).toNat = b2.toNat ∧ (dt.getD (q + 3) 0).toNat = b3.toNat := by
  have g : ∀ i, (dt.drop q)[i]? = dt[q + i]? := fun i => List.getElem?_drop
  match hd : dt.drop q, (by rw [List.length_drop]; omega : 4 ≤ (dt.drop q).length) with
  | b0 :: b1 :: b2 :: b3 :: r, _ =>
    have g0 := g 0
    have g1 := g 1
    have g2 := g 2
    have g3 := g 3
    rw [hd] at g0 g1 g2 g3
    simp only [List.getElem?_cons_zero, List.getElem?_cons_succ, Nat.add_zero] at g0 g1 g2 g3
    exact ⟨b0, b1, b2, b3, rfl, by rw [List.getD_eq_getElem?_getD, ← g0]; rfl, by rw [List.getD_eq_getElem?_getD, ← g1]; rfl, by rw [List.getD_eq_getElem?_getD, ← g2]; rfl, by rw [List.getD_eq_getElem?_getD, ← g3]; rfl⟩
theorem or8 (a b : Nat) (ha : a < 256) : a ||| b * 256 = a + 256 * b := by
  rw [Nat.or_comm, show b * 256 = b <<< 8 by rw [Nat.shiftLeft_eq], ← Nat.shiftLeft_add_eq_or_of_lt (by simpa using ha), Nat.shiftLeft_eq]; omega

theorem dataBlock_spec {K : Known} {ea : Fin 5 → Addr} (hs : Sents K ea) (src : Src K ea) (dt : List UInt8) (fb hb : Nat) (R : ResR) (gv : Nat) (last : Bool) (hlv hdv : Value) (stp : Nat) (a0 : Option Addr) (c0 : Nat) (trv : Value) (htr : trv = .slice a0 0 c0) (x1 x2 x3 : Frag) (p q b nb : Nat) (ro : Int) (out h : List UInt8) (wr rd : Nat) (full : Bool) (ss cl cd : Nat) (ws : List Value) (hwl : ws.length = 4) (hA : src.At (dt.drop q) x1 x2 x3) (hB : BitsIn dt p q b nb) (hnb : nb < 8) (H : Hist h wr full out) (hrd : rd ≤ wr) (hwr : wr < 32768) (hsum : gv + (wr - rd) = out.length) (hss : SsOk ss cl cd (hsize wr full)) (hR : R = storR dt last out q) : Fn Tryd.prog K 72 #[.pointer (some ⟨fb, 0, none⟩)] ([x1, x2, x3, ⟨fb, 0, [.iface src.t src.v, .pointer none, .int .i64 (ro), .int .u32 (((b) : Nat) : Int), .int .u64 (((nb) : Nat) : Int)]⟩, ⟨fb, 1045, [.func (.func stp) #[] #[], .int .i64 (((ss) : Nat) : Int), .bool last, .nilIface, trv, hlv, hdv, .int .i64 (((cl) : Nat) : Int), .int .i64 (((cd) : Nat) : Int)]⟩, ⟨fb, 1037, [.slice (some ⟨hb, 0, none⟩) 32768 32768, .int .i64 (((wr) : Nat) : Int), .int .i64 (((rd) : Nat) : Int), .bool full]⟩, ⟨hb, 0, bytesV (h)⟩, ⟨fb, 1041, ws⟩]) (fun r L => r = .tuple #[] ∧ DbEnd src dt fb hb R gv p L) := by
 refine Fn.intro (args := [.pointer (some ⟨fb, 0, none⟩)]) (RR := Ret0 _) Tryd.func72 rfl rfl Tryd.ntmps72 (res0 Tryd.results72) ?_
 refine C.reenv (env2 := [(0, .pointer (some ⟨fb, 0, none⟩))]) rfl ?_
 refine C.seq ?_
 have hq := hB.le
 have hat := hB.at8
 have hdl : (dt.drop q).length = dt.length - q := List.length_drop
 refine C.region ?_
 refine E.pure (S.move rfl) rfl ?_
 refine E.pure (S.nilPtr rfl) rfl ?_
 refine E.pure (S.field rfl fa153_4) rfl ?_
 refine E.loud0 (X.store 3 (k := 4) rfl rfl rfl rfl rfl Tryd.sizeOf92) ?_; rintro _ _ ⟨rfl, rfl⟩; refine E.relist (L2 := [_, _, _, _, _, _, _, _]) rfl ?_
 refine E.keep [0] (env1 := [(0, _)]) rfl ?_
 refine C.seq ?_
 refine C.region ?_
 refine E.pure (S.move rfl) rfl ?_
 refine E.pure (S.nilPtr rfl) rfl ?_
 refine E.pure (S.field rfl fa153_3) rfl ?_
 refine E.loud0 (X.store 3 (k := 3) rfl rfl rfl rfl rfl Tryd.sizeOf52) ?_; rintro _ _ ⟨rfl, rfl⟩; refine E.relist (L2 := [_, _, _, _, _, _, _, _]) rfl ?_
 refine E.keep [0] (env1 := [(0, _)]) rfl ?_
 refine C.seq ?_
 refine C.draw [0, 1, 2, 4, 0, 16, 32, 64, 136, 256, 512, 512, 2047, 8191] (.pure 0 240 (.pure 1 241 (.pure 2 243 (.pure 4 15 (.pure 5 31 (.pure 6 63 (.pure 7 127 (.seg [(3, 247)] (.alt 8 (.pure 9 511 (.pure 10 3071 (.pure 11 6143 (.pure 12 4095 (.pure 13 8191 .done))))) .stop))))))))) mixed (by decide +kernel) ?_
 refine D.pure rfl (S.move rfl) rfl ?_
 refine D.pure rfl (S.nilPtr rfl) rfl ?_
 refine D.pure rfl (S.field rfl fa153_0) rfl ?_
 refine D.pure rfl (S.move rfl) rfl ?_
 refine D.pure rfl (S.nilPtr rfl) rfl ?_
 refine D.pure rfl (S.field rfl fa153_10) rfl ?_
 refine D.pure rfl (S.slArr (l := 0) (h := 4) rfl rfl rfl (by omega) (by omega) Tryd.underlying149 Tryd.sizeOf5) rfl ?_
 refine D.reslot (v := .slice (some ⟨fb, 1041, none⟩) (4) (4)) (slice_to (by simp [part]) rfl rfl) ?_
 refine D.seg (by decide) ?_
 refine W.still rfl (S.load 3 (k := 0) rfl rfl rfl Tryd.isAgg71) rfl ?_
 refine W.nil ?_
 refine D.one ?_
 refine O.loud1 rfl (OpX.pick [0, 0, 0, 4] (F := [_, _, _, _]) rfl (X.call rfl Tryd.call45 (readFull_spec hs src (dt.drop q) x1 x2 x3 fb 1041 4 4 ws hA hwl.symm (Nat.le_refl _) (by decide)))) rfl ?_; rintro _ _ ⟨_, ⟨f1, f2, f3, hF, rfl, rfl⟩, rfl⟩; refine D.relist (L2 := [_, _, _, _, _, _, _, _]) rfl ?_
 refine D.perml [0, 0, 0, 1, 1, 1, 1, 0] rfl ?_
 refine D.relist (L2 := [_, _, _, _, _, _, _, _]) rfl ?_
 refine D.pure rfl (S.move rfl) rfl ?_
 refine D.pure rfl (S.extract rfl rfl) rfl ?_
 refine D.pure rfl (S.extract rfl rfl) rfl ?_
 refine D.pure rfl (S.assign rfl) rfl ?_
 refine D.pure rfl (S.assign rfl) rfl ?_
 refine D.keep [0, 2, 3] (env1 := [(0, _), (2, _), (3, _)]) rfl ?_
 refine C.seq ?_
 refine C.region ?_
 refine E.pure (S.move rfl) rfl ?_
 refine E.pure (S.nilPtr rfl) rfl ?_
 refine E.pure (S.field rfl fa153_2) rfl ?_
 refine E.still (S.load 3 (k := 2) rfl rfl rfl Tryd.isAgg2) rfl ?_
 refine E.pure (S.move rfl) rfl ?_
 refine E.pure (S.add rfl rfl rfl) rfl ?_
 refine E.pure (S.nilPtr rfl) rfl ?_
 refine E.pure (S.field rfl fa153_2) rfl ?_
 refine E.loud0 (X.store 3 (k := 2) rfl rfl rfl rfl rfl Tryd.sizeOf2) ?_; rintro _ _ ⟨rfl, rfl⟩; refine E.relist (L2 := [_, _, _, _, _, _, _, _]) rfl ?_
 refine E.keep [0, 2, 3] (env1 := [(0, _), (2, _), (3, _)]) rfl ?_
 refine C.seq ?_
 refine C.seq ?_
 refine C.region ?_
 refine E.pure (S.move rfl) rfl ?_
 refine E.still (S.neErNil rfl) rfl ?_
 refine E.keep [0, 2, 3, 33] (env1 := [(0, _), (2, _), (3, _), (33, _)]) rfl ?_
 first | refine C.ifp rfl (fun h33 => ?_) (fun h33 => ?_) | refine C.ifNone rfl (fun h33 => ?_) (fun h33 => ?_) | refine C.ifSome rfl (fun h33 => ?_) (fun h33 => ?_) | refine C.ifSe rfl (fun h33 => ?_) (fun h33 => ?_) | refine C.ifNotSe rfl (fun h33 => ?_) (fun h33 => ?_) | refine C.cond rfl (fun h33 => ?_) (fun h33 => ?_)
 ·
  obtain ⟨hbf, hlt⟩ := bad_full h33
  have hmn : Nat.min 4 (dt.drop q).length = (dt.drop q).length := Nat.min_eq_right (by omega)
  refine C.seq ?_
  refine C.region ?_
  refine E.pure (S.move rfl) rfl ?_
  refine E.pure (S.move rfl) rfl ?_
  refine E.loud1 (OpX.pick [] (F := [_, _, _, _, _, _, _, _]) rfl (X.call rfl Tryd.call76 (flate_noEOF (L := []) hs _))) rfl ?_; rintro _ _ ⟨_, ⟨rfl, rfl⟩, rfl⟩; refine E.relist (L2 := [_, _, _, _, _, _, _, _]) rfl ?_
  refine E.pure (S.nilPtr rfl) rfl ?_
  refine E.pure (S.field rfl fa153_14) rfl ?_
  refine E.loud0 (X.store 4 (k := 3) rfl rfl rfl (one_er _) rfl Tryd.sizeOf59) ?_; rintro _ _ ⟨rfl, rfl⟩; refine E.relist (L2 := [_, _, _, _, _, _, _, _]) rfl ?_
  refine E.keep [0, 2, 3, 33] (env1 := [(0, _), (2, _), (3, _), (33, _)]) rfl ?_
  refine C.ret ?_
  refine ⟨rfl, _, _, _, _, _, _, _, _, ?_, rfl, .inr (.inr ⟨[], out, .bad, _, trv, h, wr, rd, full, .inr ⟨rfl, hbf, _, hF⟩, ⟨_, _, _, rfl⟩, ⟨H, hrd, hwr, by simpa using hsum, by simp, by rw [htr]; exact TR.nil _ _ _ _, rfl, rfl⟩, ⟨_, _, _, _, _, _, _, rfl⟩, ?_, .inl rfl⟩)⟩
  · rw [hmn]; simp only [List.length_append, bytesV_length, List.length_take, List.length_drop, hwl]; omega
  · rw [hR]; exact storR_short (by omega)
 ·
  have hge := full_none h33
  have hmn : Nat.min 4 (dt.drop q).length = 4 := Nat.min_eq_left hge
  obtain ⟨b0, b1, b2, b3, hb4, e0, e1, e2, e3⟩ := four_bytes (dt := dt) (q := q) (by omega)
  have w0 := b0.toNat_lt
  have w1 := b1.toNat_lt
  have w2 := b2.toNat_lt
  have w3 := b3.toNat_lt
  rw [hb4, hmn, show List.drop 4 ws = [] from List.drop_eq_nil_of_le (by omega)]
  rw [List.drop_drop] at hF
  refine C.relist (L2 := [f1, f2, f3, ⟨fb, 0, [.iface src.t src.v, .pointer none, .int .i64 _, .int .u32 (((0) : Nat) : Int), .int .u64 (((0) : Nat) : Int)]⟩, ⟨fb, 1045, [.func (.func stp) #[] #[], .int .i64 (((ss) : Nat) : Int), .bool last, .nilIface, trv, hlv, hdv, .int .i64 (((cl) : Nat) : Int), .int .i64 (((cd) : Nat) : Int)]⟩, ⟨fb, 1037, [.slice (some ⟨hb, 0, none⟩) 32768 32768, .int .i64 (((wr) : Nat) : Int), .int .i64 (((rd) : Nat) : Int), .bool full]⟩, ⟨hb, 0, bytesV (h)⟩, ⟨fb, 1041, [.int .u8 ((b0.toNat : Nat) : Int), .int .u8 ((b1.toNat : Nat) : Int), .int .u8 ((b2.toNat : Nat) : Int), .int .u8 ((b3.toNat : Nat) : Int)]⟩]) rfl ?_
  refine C.skip ?_
  refine C.seq ?_
  refine C.draw [0, 1, 2, 4, 8, 16, 0, 64, 128, 256, 512, 1024, 2048, 4128, 16383] (.pure 0 8128 (.pure 1 8129 (.pure 2 8131 (.pure 3 8135 (.pure 6 63 (.pure 7 127 (.pure 8 255 (.pure 9 511 (.seg [(4, 8143), (5, 8159), (10, 1023), (11, 2047), (12, 4095), (13, 8191), (14, 16383)] .done))))))))) mixed (by decide +kernel) ?_
  refine D.pure rfl (S.move rfl) rfl ?_
  refine D.pure rfl (S.nilPtr rfl) rfl ?_
  refine D.pure rfl (S.field rfl fa153_10) rfl ?_
  refine D.pure rfl (S.ixArr (i := 0) rfl rfl (by omega) Tryd.underlying149 Tryd.sizeOf5) rfl ?_
  refine D.pure rfl (S.move rfl) rfl ?_
  refine D.pure rfl (S.nilPtr rfl) rfl ?_
  refine D.pure rfl (S.field rfl fa153_10) rfl ?_
  refine D.pure rfl (S.ixArr (i := 1) rfl rfl (by omega) Tryd.underlying149 Tryd.sizeOf5) rfl ?_
  refine D.seg (by decide) ?_
  refine W.still rfl (S.load 7 (k := 0) rfl rfl rfl Tryd.isAgg5) rfl ?_
  refine W.pure rfl (S.conv rfl Tryd.underlying5 Tryd.underlying3 (N.i64n (by omega))) rfl ?_
  refine W.still rfl (S.load 7 (k := 1) rfl rfl rfl Tryd.isAgg5) rfl ?_
  refine W.pure rfl (S.conv rfl Tryd.underlying5 Tryd.underlying3 (N.i64n (by omega))) rfl ?_
  refine W.pure rfl (S.shl (b := ((8 : Nat) : Int)) rfl rfl (by omega) (N.shl64 (by omega))) rfl ?_
  refine W.reslot (v := .int .i64 ((b1.toNat * 256 : Nat) : Int)) (congrArg (fun y : Nat => Value.int .i64 (y : Int)) (by rw [Nat.shiftLeft_eq])) ?_
  refine W.pure rfl (S.or rfl rfl (N.or64 (by omega) (by omega))) rfl ?_
  refine W.reslot (v := .int .i64 ((b0.toNat + 256 * b1.toNat : Nat) : Int)) (congrArg (fun y : Nat => Value.int .i64 (y : Int)) (by exact or8 _ _ (by omega))) ?_
  refine W.pure rfl (S.assign rfl) rfl ?_
  refine W.nil ?_
  refine D.keep [0, 2, 3, 4, 33] (env1 := [(0, _), (2, _), (3, _), (4, _), (33, _)]) rfl ?_
  refine C.seq ?_
  refine C.draw [0, 1, 2, 4, 8, 16, 0, 64, 128, 256, 512, 1024, 2048, 4128, 16383] (.pure 0 8128 (.pure 1 8129 (.pure 2 8131 (.pure 3 8135 (.pure 6 63 (.pure 7 127 (.pure 8 255 (.pure 9 511 (.seg [(4, 8143), (5, 8159), (10, 1023), (11, 2047), (12, 4095), (13, 8191), (14, 16383)] .done))))))))) mixed (by decide +kernel) ?_
  refine D.pure rfl (S.move rfl) rfl ?_
  refine D.pure rfl (S.nilPtr rfl) rfl ?_
  refine D.pure rfl (S.field rfl fa153_10) rfl ?_
  refine D.pure rfl (S.ixArr (i := 2) rfl rfl (by omega) Tryd.underlying149 Tryd.sizeOf5) rfl ?_
  refine D.pure rfl (S.move rfl) rfl ?_
  refine D.pure rfl (S.nilPtr rfl) rfl ?_
  refine D.pure rfl (S.field rfl fa153_10) rfl ?_
  refine D.pure rfl (S.ixArr (i := 3) rfl rfl (by omega) Tryd.underlying149 Tryd.sizeOf5) rfl ?_
  refine D.seg (by decide) ?_
  refine W.still rfl (S.load 7 (k := 2) rfl rfl rfl Tryd.isAgg5) rfl ?_
  refine W.pure rfl (S.conv rfl Tryd.underlying5 Tryd.underlying3 (N.i64n (by omega))) rfl ?_
  refine W.still rfl (S.load 7 (k := 3) rfl rfl rfl Tryd.isAgg5) rfl ?_
  refine W.pure rfl (S.conv rfl Tryd.underlying5 Tryd.underlying3 (N.i64n (by omega))) rfl ?_
  refine W.pure rfl (S.shl (b := ((8 : Nat) : Int)) rfl rfl (by omega) (N.shl64 (by omega))) rfl ?_
  refine W.reslot (v := .int .i64 ((b3.toNat * 256 : Nat) : Int)) (congrArg (fun y : Nat => Value.int .i64 (y : Int)) (by rw [Nat.shiftLeft_eq])) ?_
  refine W.pure rfl (S.or rfl rfl (N.or64 (by omega) (by omega))) rfl ?_
  refine W.reslot (v := .int .i64 ((b2.toNat + 256 * b3.toNat : Nat) : Int)) (congrArg (fun y : Nat => Value.int .i64 (y : Int)) (by exact or8 _ _ (by omega))) ?_
  refine W.pure rfl (S.assign rfl) rfl ?_
  refine W.nil ?_
  refine D.keep [0, 2, 3, 4, 5, 33] (env1 := [(0, _), (2, _), (3, _), (4, _), (5, _), (33, _)]) rfl ?_
  refine C.seq ?_
  refine C.seq ?_
  refine C.region ?_
  refine E.pure (S.move rfl) rfl ?_
  refine E.pure (S.conv rfl Tryd.underlying3 Tryd.underlying120 (N.in_u16 (by omega))) rfl ?_
  refine E.pure (S.move rfl) rfl ?_
  refine E.pure (S.not64 rfl (by omega)) rfl ?_
  refine E.pure (S.conv rfl Tryd.underlying3 Tryd.underlying120 (compl16 (by omega))) rfl ?_
  refine E.pure (S.ne rfl rfl) rfl ?_
  refine E.keep [0, 2, 3, 4, 5, 33, 72] (env1 := [(0, _), (2, _), (3, _), (4, _), (5, _), (33, _), (72, _)]) rfl ?_
  refine C.ifp rfl (fun h72 => ?_) (fun h72 => ?_)
  ·
   refine C.seq ?_
   refine C.region ?_
   refine E.pure (S.move rfl) rfl ?_
   refine E.pure (S.move rfl) rfl ?_
   refine E.pure (S.nilPtr rfl) rfl ?_
   refine E.pure (S.field rfl fa153_2) rfl ?_
   refine E.still (S.load 3 (k := 2) rfl rfl rfl Tryd.isAgg2) rfl ?_
   refine E.pure (S.mkIface rfl conc165) rfl ?_
   refine E.reslot (v := Er.val ea (.corrupt _)) (rfl) ?_
   refine E.pure (S.nilPtr rfl) rfl ?_
   refine E.pure (S.field rfl fa153_14) rfl ?_
   refine E.loud0 (X.store 4 (k := 3) rfl rfl rfl rfl rfl Tryd.sizeOf59) ?_; rintro _ _ ⟨rfl, rfl⟩; refine E.relist (L2 := [_, _, _, _, _, _, _, _]) rfl ?_
   refine E.keep [0, 2, 3, 4, 5, 33, 72] (env1 := [(0, _), (2, _), (3, _), (4, _), (5, _), (33, _), (72, _)]) rfl ?_
   refine C.ret ?_
   refine ⟨rfl, _, _, _, _, _, _, _, _, ?_, rfl, .inr (.inr ⟨[], out, .bad, _, trv, h, wr, rd, full, .inr ⟨rfl, bad_corrupt _, _, hF⟩, ⟨_, _, _, rfl⟩, ⟨H, hrd, hwr, by simpa using hsum, by simp, by rw [htr]; exact TR.nil _ _ _ _, rfl, rfl⟩, ⟨_, _, _, _, _, _, _, rfl⟩, ?_, .inl rfl⟩)⟩
   · rfl
   · rw [hR, storR, storedN, if_neg (by omega), if_neg (by rw [e0, e1, e2, e3]; omega)]
  ·
   refine C.skip ?_
   refine C.seq ?_
   refine C.seq ?_
   refine C.region ?_
   refine E.pure (S.move rfl) rfl ?_
   refine E.pure (S.eq (b := ((0 : Nat) : Int)) rfl rfl) rfl ?_
   refine E.keep [0, 2, 3, 4, 5, 33, 72, 82] (env1 := [(0, _), (2, _), (3, _), (4, _), (5, _), (33, _), (72, _), (82, _)]) rfl ?_
   refine C.ifp rfl (fun h82 => ?_) (fun h82 => ?_)
   ·
    have hn0 : b0.toNat + 256 * b1.toNat = 0 := by omega
    refine C.seq ?_
    refine C.region ?_
    refine E.pure (S.move rfl) rfl ?_
    refine E.pure (S.move rfl) rfl ?_
    refine E.pure (S.nilPtr rfl) rfl ?_
    refine E.pure (S.field rfl fa153_9) rfl ?_
    refine E.loud1 (OpX.pick [5] (F := [_, _, _, _, _, _, _]) rfl (X.call rfl Tryd.call77 (readFlush_spec fb 1037 hb wr rd full hrd (by omega)))) rfl ?_; rintro _ _ ⟨_, ⟨Aw, hfl, rfl⟩, rfl⟩; refine E.relist (L2 := [_, _, _, _, _, _, _, _]) rfl ?_
    refine E.perml [1, 1, 1, 1, 1, 0, 0, 0] rfl ?_
    refine E.relist (L2 := [_, _, _, _, _, _, _, _]) rfl ?_
    refine E.pure (S.nilPtr rfl) rfl ?_
    refine E.pure (S.field rfl fa153_15) rfl ?_
    refine E.loud0 (X.store 4 (k := 4) rfl rfl rfl (flush_one hfl) rfl Tryd.sizeOf22) ?_; rintro _ _ ⟨rfl, rfl⟩; refine E.relist (L2 := [_, _, _, _, _, _, _, _]) rfl ?_
    refine E.keep [0, 2, 3, 4, 5, 33, 72, 82] (env1 := [(0, _), (2, _), (3, _), (4, _), (5, _), (33, _), (72, _), (82, _)]) rfl ?_
    have hfl0 := hfl
    obtain ⟨_, _, hA5⟩ := hfl
    have hA6 := (hA5.resolve_right fun h => by omega).2
    subst hA6
    refine C.seq ?_
    refine C.region ?_
    refine E.pure (S.move rfl) rfl ?_
    refine E.loud1 (OpX.pick [5, 4] (F := [_, _, _, _, _, _]) rfl (X.call rfl Tryd.call78 (finishBlock_spec hs fb hb wr wr full last (Nat.le_refl _) hwr _ _ _ _ _ _ _ _))) rfl ?_; rintro _ _ ⟨_, ⟨rfl, ev2, tr2, Aw2, rfl, hfin⟩, rfl⟩; refine E.relist (L2 := [_, _, _, _, _, _, _, _]) rfl ?_
    refine E.perml [2, 2, 2, 2, 1, 0, 0, 0] rfl ?_
    refine E.relist (L2 := [_, _, _, _, _, _, _, _]) rfl ?_
    refine E.keep [0, 2, 3, 4, 5, 33, 72, 82] (env1 := [(0, _), (2, _), (3, _), (4, _), (5, _), (33, _), (72, _), (82, _)]) rfl ?_
    refine C.ret ?_
    have hst : storedN dt q = some (b0.toNat + 256 * b1.toNat) := by rw [storedN, if_neg (by omega), if_pos (by rw [e0, e1, e2, e3]; omega), e0, e1]
    have hR2 : R = stored dt last (b0.toNat + 256 * b1.toNat) out (q + 4) := by rw [hR, storR, hst]
    obtain ⟨wr5, full5, hW, hlen, hsz⟩ := WinSt.flush (gv := gv) H hrd hsum hfl0
    rw [hn0] at hR2
    unfold stored at hR2
    rw [if_neg (by omega), List.take_zero, List.append_nil, Nat.add_zero] at hR2
    rcases hfin with ⟨hl5, rfl, rfl, rfl⟩ | ⟨hl5, rfl, hfin⟩
    · rw [hl5] at hR2
      exact ⟨rfl, _, _, _, _, _, _, _, _, rfl, rfl, .inr (.inl ⟨_, 8 * (q + 4), by omega, q + 4, 0, _, _, _, wr5, wr5, full5, ss, last, _, _, cl, cd, ⟨hF, 0, _, BitsIn.start dt (by omega), rfl⟩, by omega, hW, rfl, ss_more hss hsz, hR2⟩)⟩
    · rw [hl5, if_pos rfl] at hR2
      obtain ⟨_, rfl, rfl⟩ := hfin.resolve_right (fun h => absurd h.1 (Nat.lt_irrefl _))
      exact ⟨rfl, _, _, _, _, _, _, _, _, rfl, rfl, .inr (.inr ⟨_, _, _, .eof, _, _, wr5, wr5, full5, .inl ⟨q + 4, rfl, rfl, by omega, hF⟩, ⟨_, _, _, rfl⟩, hW, ⟨_, _, _, _, _, _, _, rfl⟩, hR2, .inr rfl⟩)⟩
   ·
    refine C.skip ?_
    refine C.seq ?_
    refine C.region ?_
    refine E.pure (S.move rfl) rfl ?_
    refine E.pure (S.move rfl) rfl ?_
    refine E.pure (S.nilPtr rfl) rfl ?_
    refine E.pure (S.field rfl fa153_18) rfl ?_
    refine E.loud0 (X.store 4 (k := 7) rfl rfl rfl rfl rfl Tryd.sizeOf3) ?_; rintro _ _ ⟨rfl, rfl⟩; refine E.relist (L2 := [_, _, _, _, _, _, _, _]) rfl ?_
    refine E.keep [0, 2, 3, 4, 5, 33, 72, 82] (env1 := [(0, _), (2, _), (3, _), (4, _), (5, _), (33, _), (72, _), (82, _)]) rfl ?_
    refine C.region ?_
    refine E.pure (S.move rfl) rfl ?_
    have hst : storedN dt q = some (b0.toNat + 256 * b1.toNat) := by rw [storedN, if_neg (by omega), if_pos (by rw [e0, e1, e2, e3]; omega), e0, e1]
    have hR2 : R = stored dt last (b0.toNat + 256 * b1.toNat) out (q + 4) := by rw [hR, storR, hst]
    refine E.loud1 (OpX.pick [0, 0, 0, 0, 0, 0, 0] (F := [_]) rfl (X.call rfl Tryd.call79 (copyData_spec hs src dt fb hb R gv last hlv hdv stp a0 c0 trv htr f1 f2 f3 (q + 4) _ out h wr rd full ss _ cd hF (by omega) H hrd hwr hsum (hss.imp id fun h => ⟨h.1, h.2.2.1, h.2.2.2⟩) (by omega) hR2))) rfl ?_; rintro _ _ ⟨_, ⟨rfl, y1, y2, y3, Ay, Ty, Wy, Hy, rfl, hC⟩, rfl⟩; refine E.relist (L2 := [_, _, _, _, _, _, _, _]) rfl ?_
    refine E.keep [0, 2, 3, 4, 5, 33, 72, 82] (env1 := [(0, _), (2, _), (3, _), (4, _), (5, _), (33, _), (72, _), (82, _)]) rfl ?_
    have hst : storedN dt q = some (b0.toNat + 256 * b1.toNat) := by rw [storedN, if_neg (by omega), if_pos (by rw [e0, e1, e2, e3]; omega), e0, e1]
    have hR2 : R = stored dt last (b0.toNat + 256 * b1.toNat) out (q + 4) := by rw [hR, storR, hst]
    rcases hC with ⟨pend, q5, h1, h2⟩ | ⟨p2, h1, h2⟩ | ⟨pend, h2⟩
    · exact ⟨rfl, _, _, _, _, _, _, _, _, rfl, rfl, .inl ⟨pend, q5, h1, h2⟩⟩
    · exact ⟨rfl, _, _, _, _, _, _, _, _, rfl, rfl, .inr (.inl ⟨[], p2, by omega, h2⟩)⟩
    · exact ⟨rfl, _, _, _, _, _, _, _, _, rfl, rfl, .inr (.inr ⟨pend, h2⟩)⟩
end Go.Eng
namespace Go.Eng
open Go Go.Proofs
set_option maxRecDepth 100000

section
variable {D : List UInt8} {cl acc : List Nat} {n p x : Nat}
theorem lensGo_done (h : n ≤ acc.length) : lensGo D cl n acc p = some (acc, p) := by rw [lensGo, dif_neg (by omega)]
theorem lensGo_none (h : acc.length < n) (hs : symR cl (minL cl) D p = none) : lensGo D cl n acc p = none := by rw [lensGo, dif_pos h]; simp only [hs]
theorem lensGo_lit (h : acc.length < n) (hs : symR cl (minL cl) D p = some x) (hx : x < 16) : lensGo D cl n acc p = lensGo D cl n (acc ++ [x]) (p + lenOf cl x) := by
  rw [lensGo, dif_pos h]; simp only [hs]; rw [if_pos hx]
theorem lensGo_empty (h : acc.length < n) (hs : symR cl (minL cl) D p = some 16) (h0 : acc = []) : lensGo D cl n acc p = none := by
  rw [lensGo, dif_pos h]; simp only [hs]
  rw [if_neg (by decide), if_pos ⟨trivial, h0⟩]
theorem lensGo_short (h : acc.length < n) (hs : symR cl (minL cl) D p = some x) (hx : 16 ≤ x) (h0 : ¬ (x = 16 ∧ acc = [])) (hl : left D (p + lenOf cl x) < repN x) : lensGo D cl n acc p = none := by
  rw [lensGo, dif_pos h]; simp only [hs]
  rw [if_neg (by omega), if_neg h0, if_pos hl]
theorem lensGo_over (h : acc.length < n) (hs : symR cl (minL cl) D p = some x) (hx : 16 ≤ x) (h0 : ¬ (x = 16 ∧ acc = [])) (hl : ¬ left D (p + lenOf cl x) < repN x) (ho : n < acc.length + (repB x + takeB D (p + lenOf cl x) (repN x))) : lensGo D cl n acc p = none := by
  rw [lensGo, dif_pos h]; simp only [hs]
  rw [if_neg (by omega), if_neg h0, if_neg hl, dif_pos ho]
theorem lensGo_rep (h : acc.length < n) (hs : symR cl (minL cl) D p = some x) (hx : 16 ≤ x) (h0 : ¬ (x = 16 ∧ acc = [])) (hl : ¬ left D (p + lenOf cl x) < repN x) (ho : ¬ n < acc.length + (repB x + takeB D (p + lenOf cl x) (repN x))) :
    lensGo D cl n acc p = lensGo D cl n (acc ++ List.replicate (repB x + takeB D (p + lenOf cl x) (repN x)) (if x = 16 then acc.getLastD 0 else 0)) (p + lenOf cl x + repN x) := by
  rw [lensGo, dif_pos h]; simp only [hs]
  rw [if_neg (by omega), if_neg h0, if_neg hl, dif_neg ho]
end

def clv (D : List UInt8) (p k s : Nat) : Nat := if ordL.idxOf s < k then takeB D (p + 3 * ordL.idxOf s) 3 else 0
/-- What the lengths of the code of lengths hold when i of them are told. -/
structure CbOk (D : List UInt8) (p k i : Nat) (cs : List Value) : Prop where
  len : cs.length = 19
  at_ : ∀ s, s < 19 → ordL.idxOf s < i → cs[s]? = some (.int .i64 ((clv D p k s : Nat) : Int))
theorem ord_idx : ∀ i, i < 19 → ordL.idxOf (ordL.getD i 0) = i ∧ ordL.getD i 0 < 19 := by decide
theorem idx_ord : ∀ s, s < 19 → ordL.getD (ordL.idxOf s) 0 = s ∧ ordL.idxOf s < 19 := by decide
theorem CbOk.next {D : List UInt8} {p k i v : Nat} {cs : List Value} (h : CbOk D p k i cs) (hi : i < 19) (hv : clv D p k (ordL.getD i 0) = v) : CbOk D p k (i + 1) (cs.set (ordL.getD i 0 * 1) (.int .i64 ((v : Nat) : Int))) := by
  refine ⟨by rw [List.length_set]; exact h.len, fun s hs hsi => ?_⟩
  rw [Nat.mul_one, List.getElem?_set]
  have ho := ord_idx i hi
  have hx := idx_ord s hs
  split
  · rename_i e
    rw [if_pos (by rw [h.len]; exact ho.2), ← e, hv]
  · rename_i e
    refine h.at_ s hs ?_
    rcases Nat.lt_or_ge (ordL.idxOf s) i with h1 | h1
    · exact h1
    · have : ordL.idxOf s = i := by omega
      rw [this] at hx
      exact absurd hx.1 e
theorem CbOk.full {D : List UInt8} {p k : Nat} {cs : List Value} (h : CbOk D p k 19 cs) : cs = intsV (clL D p k) ++ [] := by
  rw [List.append_nil]
  apply List.ext_getElem?
  intro s
  rcases Nat.lt_or_ge s 19 with hs | hs
  · rw [h.at_ s hs (idx_ord s hs).2, intsV, clL, List.map_map, List.getElem?_map, List.getElem?_range hs]; rfl
  · rw [List.getElem?_eq_none (by rw [h.len]; exact hs), List.getElem?_eq_none (by rw [intsV_length, clL, List.length_map, List.length_range]; exact hs)]
theorem clL_len (D : List UInt8) (p k : Nat) : (clL D p k).length = 19 := by simp [clL]
theorem clL_le (D : List UInt8) (p k : Nat) : ∀ x ∈ clL D p k, x ≤ 15 := by
  intro x hx
  obtain ⟨s, _, rfl⟩ := List.mem_map.1 hx
  split
  · have := takeB_lt D (p + 3 * ordL.idxOf s) 3
    omega
  · omega

/-! ### Why there is no code -/
section
variable {D : List UInt8} {p : Nat}
theorem dynR_14 (h : left D p < 14) : dynR D p = none := by unfold dynR; rw [if_pos h]
theorem dynR_286 (h : ¬ left D p < 14) (h1 : 286 < takeB D p 5 + 257) : dynR D p = none := by unfold dynR; rw [if_neg h, if_pos h1]
theorem dynR_30 (h : ¬ left D p < 14) (h1 : ¬ 286 < takeB D p 5 + 257) (h2 : 30 < takeB D (p + 5) 5 + 1) : dynR D p = none := by unfold dynR; rw [if_neg h, if_neg h1, if_pos h2]
theorem dynR_cl (h : ¬ left D p < 14) (h1 : ¬ 286 < takeB D p 5 + 257) (h2 : ¬ 30 < takeB D (p + 5) 5 + 1) (h3 : left D (p + 14) < 3 * (takeB D (p + 10) 4 + 4)) : dynR D p = none := by unfold dynR; rw [if_neg h, if_neg h1, if_neg h2, if_pos h3]
theorem dynR_eq (h : ¬ left D p < 14) (h1 : ¬ 286 < takeB D p 5 + 257) (h2 : ¬ 30 < takeB D (p + 5) 5 + 1) (h3 : ¬ left D (p + 14) < 3 * (takeB D (p + 10) 4 + 4)) : dynR D p =
    if ¬ okLens (clL D (p + 14) (takeB D (p + 10) 4 + 4)) then none
    else match lensGo D (clL D (p + 14) (takeB D (p + 10) 4 + 4)) (takeB D p 5 + 257 + (takeB D (p + 5) 5 + 1)) [] (p + 14 + 3 * (takeB D (p + 10) 4 + 4)) with
      | none => none
      | some (all, p2) => if okLens (all.take (takeB D p 5 + 257)) ∧ okLens (all.drop (takeB D p 5 + 257)) then some (⟨all.take (takeB D p 5 + 257), max (minL (all.take (takeB D p 5 + 257))) (all.getD 256 0), all.drop (takeB D p 5 + 257)⟩, p2) else none := by
  conv => lhs; unfold dynR
  rw [if_neg h, if_neg h1, if_neg h2, if_neg h3]
  rfl
end
end Go.Eng
