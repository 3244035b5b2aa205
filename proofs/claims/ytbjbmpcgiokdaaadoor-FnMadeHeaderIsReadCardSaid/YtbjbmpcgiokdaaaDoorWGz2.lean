/-
  Walk of gzip: readString.
-/
import Derived.Test.YtbjbmpcgiokdaaaDoorStr
set_option linter.unusedVariables false
set_option linter.unusedSimpArgs false
namespace Go.Eng
open Go Go.Proofs
set_option maxRecDepth 100000

theorem readString_spec {K : Known} {ea : Fin 5 → Addr} (hs : Sents K ea) (src : Src K ea) (l : List UInt8) (x1 x2 x3 : Frag) (zb d : Nat) (c0 c1 c2 c3 c4 c5 c7 c9 : Value) (bs : List Value) (hA : src.At l x1 x2 x3) (hbs : bs.length = 512) (hd : d < 4294967296) : Fn Tryd.prog K 58 #[.pointer (some ⟨zb, 0, none⟩)] [x1, x2, x3, ⟨zb, 0, [c0, c1, c2, c3, c4, c5, .iface src.t src.v, c7, .int .u32 ((d : Nat) : Int), c9]⟩, ⟨zb, 10, bs⟩] (fun r L => ∃ f1 f2 f3 bs2, src.At (l.drop (strUsed l)) f1 f2 f3 ∧ bs2.length = 512 ∧ r = .tuple #[.string (strTxt l), Er.val ea (strEr l)] ∧ L = [f1, f2, f3, ⟨zb, 0, [c0, c1, c2, c3, c4, c5, .iface src.t src.v, c7, .int .u32 ((strCrc d l : Nat) : Int), c9]⟩, ⟨zb, 10, bs2⟩]) := by
  refine Fn.intro (args := [.pointer (some ⟨zb, 0, none⟩)]) (RR := Ret2 2 3 _) Tryd.func58 rfl rfl Tryd.ntmps58 (res2 Tryd.results58) ?_
  refine C.reenv (env2 := [(0, .pointer (some ⟨zb, 0, none⟩))]) rfl ?_
  refine C.seq ?_
  refine C.region ?_
  refine E.pure (S.assign rfl) rfl ?_
  refine E.pure (S.assign (v := Er.val ea .none) rfl) rfl ?_
  refine E.keep [0, 2, 3] (env1 := [(0, _), (2, _), (3, _)]) rfl ?_
  refine C.seq ?_
  refine C.region ?_
  refine E.pure (S.assign (v := Er.val ea .none) rfl) rfl ?_
  refine E.keep [0, 2, 3, 4] (env1 := [(0, _), (2, _), (3, _), (4, _)]) rfl ?_
  refine C.seq ?_
  refine C.region ?_
  refine E.pure (S.assign rfl) rfl ?_
  refine E.keep [0, 2, 3, 4, 5] (env1 := [(0, _), (2, _), (3, _), (4, _), (5, _)]) rfl ?_
  refine C.seq ?_
  refine C.region ?_
  refine E.pure (S.assign rfl) rfl ?_
  refine E.keep [0, 2, 3, 4, 5, 6] (env1 := [(0, _), (2, _), (3, _), (4, _), (5, _), (6, _)]) rfl ?_
  refine C.block ?_
  refine C.loop (fun mm ee ll => ∃ (i : Nat), ∃ (nc : Bool), ∃ (g1 : Frag), ∃ (g2 : Frag), ∃ (g3 : Frag), keeps ee [0, 5, 6] = some [(0, .pointer (some ⟨zb, 0, none⟩)), (5, .bool nc), (6, .int .i64 ((i : Nat) : Int))] ∧ ll = [g1, g2, g3, ⟨zb, 0, [c0, c1, c2, c3, c4, c5, .iface src.t src.v, c7, .int .u32 ((d : Nat) : Int), c9]⟩, ⟨zb, 10, bytesV (l.take (i)) ++ bs.drop (i)⟩] ∧ (i ≤ 512) ∧ (i ≤ l.length) ∧ (∀ c ∈ l.take i, c ≠ 0) ∧ (nc = (l.take i).any big) ∧ (src.At (l.drop i) g1 g2 g3) ∧ mm = 512 - i) (_) ⟨0, false, x1, x2, x3, rfl, rfl, by omega, by omega, by simp, rfl, hA, rfl⟩ ?_
  rintro m0 _ _ ⟨i, nc, g1, g2, g3, hk0, rfl, hi, hil, hnz, hnc, hG, hm0⟩
  refine C.weaken _ hk0 ?_
  refine C.seq ?_
  refine C.block ?_
  refine C.seq ?_
  refine C.seq ?_
  refine C.region ?_
  refine E.pure (S.move rfl) rfl ?_
  refine E.pure (S.ge (b := ((512 : Nat) : Int)) rfl rfl) rfl ?_
  refine E.keep [0, 5, 6, 13] (env1 := [(0, _), (5, _), (6, _), (13, _)]) rfl ?_
  first | refine C.ifp rfl (fun h13 => ?_) (fun h13 => ?_) | refine C.ifNone rfl (fun h13 => ?_) (fun h13 => ?_) | refine C.ifSome rfl (fun h13 => ?_) (fun h13 => ?_) | refine C.ifSe rfl (fun h13 => ?_) (fun h13 => ?_) | refine C.ifNotSe rfl (fun h13 => ?_) (fun h13 => ?_) | refine C.cond rfl (fun h13 => ?_) (fun h13 => ?_)
  ·
    obtain ⟨q1, q2, q3, q4⟩ := str_header (l := l) (by rw [show i = 512 by omega] at hnz; exact hnz) (by omega) d
    rw [show i = 512 by omega, ← q2] at hG
    refine C.seq ?_
    refine C.draw [0, 0, 3] (.pure 1 1 (.seg [(0, 2), (2, 3)] .done)) mixed (by decide +kernel) ?_
    refine D.pure rfl (S.assign rfl) rfl ?_
    refine D.seg (by decide) ?_
    refine W.still rfl (S.loadBase rfl hs.g1 Tryd.isAgg59) rfl ?_
    refine W.pure rfl (S.assign rfl) rfl ?_
    refine W.nil ?_
    refine D.keep [0, 2, 3, 5, 6, 13] (env1 := [(0, _), (2, _), (3, _), (5, _), (6, _), (13, _)]) rfl ?_
    refine C.ret ?_
    exact ⟨_, _, rfl, rfl, g1, g2, g3, (bytesV (l.take i) ++ bs.drop i), hG, by rw [List.length_append, bytesV_length, List.length_take, List.length_drop]; omega, by first | (rw [q3, q1]; rfl) | rw [q3, q1], by first | (rw [q4]; rfl) | rw [q4]⟩
  ·
    refine C.skip ?_
    refine C.seq ?_
    refine C.draw [0, 0, 0, 4, 8, 16, 32, 64, 128, 128, 1, 1024, 2559, 4607, 16383] (.pure 0 1022 (.pure 1 4093 (.pure 2 3075 (.pure 3 3079 (.pure 4 3087 (.pure 10 1023 (.pure 11 2047 (.seg [(5, 3103)] (.alt 6 (.pure 7 3199 (.pure 8 3839 (.pure 9 15871 (.pure 12 4095 (.alt 13 (.pure 14 16383 .done) .stop))))) .stop))))))))) mixed (by decide +kernel) ?_
    refine D.pure rfl (S.move rfl) rfl ?_
    refine D.pure rfl (S.move rfl) rfl ?_
    refine D.pure rfl (S.move rfl) rfl ?_
    refine D.pure rfl (S.nilPtr rfl) rfl ?_
    refine D.pure rfl (S.field rfl fa76_1) rfl ?_
    refine D.pure rfl (S.nilPtr rfl) rfl ?_
    refine D.pure rfl (S.field rfl fa76_5) rfl ?_
    refine D.seg (by decide) ?_
    refine W.still rfl (S.load 3 (k := 6) rfl rfl rfl Tryd.isAgg71) rfl ?_
    refine W.nil ?_
    refine D.one ?_
    refine O.loud1 rfl (OpX.pick [0, 0, 0] (F := [_, _]) rfl (X.invoke rfl rfl src.mByte src.cByte (src.byte _ _ _ _ hG))) rfl ?_; rintro _ _ ⟨_, ⟨f1, f2, f3, hF, rfl, rfl⟩, rfl⟩; refine D.relist (L2 := [_, _, _, _, _]) rfl ?_
    refine D.pure rfl (S.move rfl) rfl ?_
    refine D.pure rfl (S.extract rfl rfl) rfl ?_
    refine D.pure rfl (S.extract rfl rfl) rfl ?_
    refine D.pure rfl (S.ixArr rfl rfl (by omega) Tryd.underlying74 Tryd.sizeOf5) rfl ?_
    refine D.reslot (v := .pointer (some ⟨zb, 10 + i, none⟩)) (ptr_to (by omega)) ?_
    refine D.one ?_
    refine O.loud0 rfl (X.store 4 (k := i) rfl rfl rfl rfl (by rw [Nat.blt_eq, List.length_append, bytesV_length, List.length_take, List.length_drop]; omega) Tryd.sizeOf5) ?_; rintro _ _ ⟨rfl, rfl⟩; refine D.relist (L2 := [_, _, _, _, _]) rfl ?_
    refine D.pure rfl (S.assign rfl) rfl ?_
    refine D.keep [0, 4, 5, 6, 13] (env1 := [(0, _), (4, _), (5, _), (6, _), (13, _)]) rfl ?_
    refine C.seq ?_
    refine C.seq ?_
    refine C.region ?_
    refine E.pure (S.move rfl) rfl ?_
    refine E.still (S.neErNil rfl) rfl ?_
    refine E.keep [0, 4, 5, 6, 13, 29] (env1 := [(0, _), (4, _), (5, _), (6, _), (13, _), (29, _)]) rfl ?_
    first | refine C.ifp rfl (fun h29 => ?_) (fun h29 => ?_) | refine C.ifNone rfl (fun h29 => ?_) (fun h29 => ?_) | refine C.ifSome rfl (fun h29 => ?_) (fun h29 => ?_) | refine C.ifSe rfl (fun h29 => ?_) (fun h29 => ?_) | refine C.ifNotSe rfl (fun h29 => ?_) (fun h29 => ?_) | refine C.cond rfl (fun h29 => ?_) (fun h29 => ?_)
    ·
      have hz : l.drop i = [] := by
        cases hq : l.drop i with
        | nil => rfl
        | cons c r => rw [hq] at h29; exact absurd rfl h29
      have hz2 := List.drop_eq_nil_iff.1 hz
      have hlen : (bytesV (l.take i)).length = i := by rw [bytesV_length, List.length_take]; omega
      obtain ⟨q1, q2, q3, q4⟩ := str_eof (l := l) (by rw [List.take_of_length_le hz2] at hnz; exact hnz) (by omega) d
      rw [hz, show [].drop 1 = l.drop (strUsed l) by rw [q2, List.drop_length]; rfl] at hF
      have q5 : rdErr (l.drop i) = .eof := by rw [hz]; rfl
      refine C.seq ?_
      refine C.region ?_
      refine E.pure (S.move rfl) rfl ?_
      refine E.pure (S.assign rfl) rfl ?_
      refine E.pure (S.assign rfl) rfl ?_
      refine E.keep [0, 2, 3, 4, 5, 6, 13, 29] (env1 := [(0, _), (2, _), (3, _), (4, _), (5, _), (6, _), (13, _), (29, _)]) rfl ?_
      refine C.ret ?_
      exact ⟨_, _, rfl, rfl, f1, f2, f3, ((bytesV (l.take i) ++ bs.drop i).set i (.int .u8 ((rdByte (l.drop i) : Nat) : Int))), hF, by rw [List.length_set, List.length_append, bytesV_length, List.length_take, List.length_drop]; omega, by first | (rw [q3, q1, q5]; rfl) | rw [q3, q1, q5], by first | (rw [q4]; rfl) | rw [q4]⟩
    ·
      have hi3 : i < l.length := by
        rcases Nat.lt_or_ge i l.length with h | h
        · exact h
        · rw [List.drop_eq_nil_of_le h] at h29; cases h29
      have hcons : l.drop i = l[i] :: l.drop (i + 1) := List.drop_eq_getElem_cons hi3
      have hrb : rdByte (l.drop i) = l[i].toNat := by rw [hcons]; rfl
      rw [hcons, List.drop_succ_cons, List.drop_zero] at hF
      refine C.relist (L2 := [f1, f2, f3, ⟨zb, 0, [c0, c1, c2, c3, c4, c5, .iface src.t src.v, c7, .int .u32 ((d : Nat) : Int), c9]⟩, ⟨zb, 10, bytesV (l.take (i + 1)) ++ bs.drop (i + 1)⟩]) (by rw [hrb]; exact congrArg (fun x => [f1, f2, f3, ⟨zb, 0, [c0, c1, c2, c3, c4, c5, .iface src.t src.v, c7, .int .u32 ((d : Nat) : Int), c9]⟩, (⟨zb, 10, x⟩ : Frag)]) (buf_set hi3 (by omega) hbs)) ?_
      have hget := buf_get (bs := bs) hi3
      have hc8 := l[i].toNat_lt
      refine C.skip ?_
      refine C.cut (M := fun ee ll => ∃ (nc2 : Bool), keeps ee [0, 5, 6] = some [(0, .pointer (some ⟨zb, 0, none⟩)), (5, .bool nc2), (6, .int .i64 ((i : Nat) : Int))] ∧ ll = [f1, f2, f3, ⟨zb, 0, [c0, c1, c2, c3, c4, c5, .iface src.t src.v, c7, .int .u32 ((d : Nat) : Int), c9]⟩, ⟨zb, 10, bytesV (l.take (i + 1)) ++ bs.drop (i + 1)⟩] ∧ (nc2 = (l.take (i + 1)).any big)) ?_ ?_
      ·
        refine C.seq ?_
        refine C.region ?_
        refine E.pure (S.move rfl) rfl ?_
        refine E.pure (S.move rfl) rfl ?_
        refine E.pure (S.nilPtr rfl) rfl ?_
        refine E.pure (S.field rfl fa76_5) rfl ?_
        refine E.pure (S.ixArr rfl rfl (by omega) Tryd.underlying74 Tryd.sizeOf5) rfl ?_
        refine E.reslot (v := .pointer (some ⟨zb, 10 + i, none⟩)) (ptr_to (by omega)) ?_
        refine E.still (S.load 4 (k := i) rfl rfl hget Tryd.isAgg5) rfl ?_
        refine E.pure (S.gt (b := ((127 : Nat) : Int)) rfl rfl) rfl ?_
        refine E.keep [0, 4, 5, 6, 13, 29, 37] (env1 := [(0, _), (4, _), (5, _), (6, _), (13, _), (29, _), (37, _)]) rfl ?_
        first | refine C.ifp rfl (fun h37 => ?_) (fun h37 => ?_) | refine C.ifNone rfl (fun h37 => ?_) (fun h37 => ?_) | refine C.ifSome rfl (fun h37 => ?_) (fun h37 => ?_) | refine C.ifSe rfl (fun h37 => ?_) (fun h37 => ?_) | refine C.ifNotSe rfl (fun h37 => ?_) (fun h37 => ?_) | refine C.cond rfl (fun h37 => ?_) (fun h37 => ?_)
        ·
          refine C.region ?_
          refine E.pure (S.assign rfl) rfl ?_
          refine E.keep [0, 4, 5, 6, 13, 29, 37] (env1 := [(0, _), (4, _), (5, _), (6, _), (13, _), (29, _), (37, _)]) rfl ?_
          first | exact ⟨true, rfl, rfl, any_true hi3 h37⟩ | exact ⟨nc, rfl, rfl, any_keep hi3 hnc h37⟩
        ·
          refine C.skip ?_
          first | exact ⟨true, rfl, rfl, any_true hi3 h37⟩ | exact ⟨nc, rfl, rfl, any_keep hi3 hnc h37⟩
      ·
        rintro _ _ ⟨nc2, hq12, rfl, hnc2⟩
        refine C.weaken _ hq12 ?_
        refine C.seq ?_
        refine C.region ?_
        refine E.pure (S.move rfl) rfl ?_
        refine E.pure (S.move rfl) rfl ?_
        refine E.pure (S.nilPtr rfl) rfl ?_
        refine E.pure (S.field rfl fa76_5) rfl ?_
        refine E.pure (S.ixArr rfl rfl (by omega) Tryd.underlying74 Tryd.sizeOf5) rfl ?_
        refine E.reslot (v := .pointer (some ⟨zb, 10 + i, none⟩)) (ptr_to (by omega)) ?_
        refine E.still (S.load 4 (k := i) rfl rfl hget Tryd.isAgg5) rfl ?_
        refine E.pure (S.eq (b := ((0 : Nat) : Int)) rfl rfl) rfl ?_
        refine E.keep [0, 5, 6, 44] (env1 := [(0, _), (5, _), (6, _), (44, _)]) rfl ?_
        first | refine C.ifp rfl (fun h44 => ?_) (fun h44 => ?_) | refine C.ifNone rfl (fun h44 => ?_) (fun h44 => ?_) | refine C.ifSome rfl (fun h44 => ?_) (fun h44 => ?_) | refine C.ifSe rfl (fun h44 => ?_) (fun h44 => ?_) | refine C.ifNotSe rfl (fun h44 => ?_) (fun h44 => ?_) | refine C.cond rfl (fun h44 => ?_) (fun h44 => ?_)
        ·
          have h0 : l[i]? = some 0 := by rw [List.getElem?_eq_getElem hi3, Option.some.injEq]; exact UInt8.toNat_inj.1 (by simpa using h44)
          obtain ⟨q1, q2, q3, q4⟩ := str_ok hnz h0 (by omega) d
          rw [← q2] at hF
          have hlt1 : (l.take (i + 1)).length = i + 1 := by rw [List.length_take]; omega
          have hlt0 : (l.take i).length = i := by rw [List.length_take]; omega
          refine C.seq ?_
          refine C.draw [0, 0, 2, 4, 8, 0, 32, 64, 0, 256, 640, 1040, 4095, 8191, 12287] (.pure 0 4094 (.pure 1 2017 (.pure 2 2019 (.pure 3 2023 (.pure 5 799 (.pure 6 831 (.pure 7 895 (.pure 8 255 (.pure 9 511 (.pure 10 1023 (.seg [(4, 2031)] (.alt 11 (.pure 12 4095 (.pure 13 8191 (.alt 14 .done .stop))) .stop)))))))))))) mixed (by decide +kernel) ?_
          refine D.pure rfl (S.move rfl) rfl ?_
          refine D.pure rfl (S.move rfl) rfl ?_
          refine D.pure rfl (S.nilPtr rfl) rfl ?_
          refine D.pure rfl (S.field rfl fa76_3) rfl ?_
          refine D.pure rfl (S.move rfl) rfl ?_
          refine D.pure rfl (S.nilPtr rfl) rfl ?_
          refine D.pure rfl (S.field rfl fa76_5) rfl ?_
          refine D.pure rfl (S.move rfl) rfl ?_
          first | refine D.pure rfl (S.add (b := ((1 : Nat) : Int)) rfl rfl (N.add64 (by omega))) rfl ?_ | refine D.pure rfl (S.add (b := ((1 : Nat) : Int)) rfl rfl (N.addZ (by omega))) rfl ?_
          refine D.pure rfl (S.slArr (l := 0) (k := .i64) rfl rfl rfl (by omega) (by omega) Tryd.underlying74 Tryd.sizeOf5) rfl ?_
          refine D.reslot (v := .slice (some ⟨zb, 10, none⟩) ((l.take (i + 1)).length) (512)) (slice_to (by simp [part]) (by rw [hlt1]; rfl) rfl) ?_
          refine D.seg (by decide) ?_
          refine W.still rfl (S.load 3 (k := 8) rfl rfl rfl Tryd.isAgg52) rfl ?_
          refine W.nil ?_
          refine D.one ?_
          refine O.loud1 rfl (X.call rfl Tryd.call44 (UpdateIEEE_spec d zb 10 512 (l.take (i + 1)) hd (Reads.frag (i := 4) (k := 0) rfl buf_part) (by omega) (by omega))) rfl ?_; rintro _ _ ⟨rfl, rfl⟩; refine D.relist (L2 := [_, _, _, _, _]) rfl ?_
          refine D.pure rfl (S.nilPtr rfl) rfl ?_
          refine D.pure rfl (S.field rfl fa76_3) rfl ?_
          refine D.one ?_
          refine O.loud0 rfl (X.store 3 (k := 8) rfl rfl rfl rfl rfl Tryd.sizeOf52) ?_; rintro _ _ ⟨rfl, rfl⟩; refine D.relist (L2 := [_, _, _, _, _]) rfl ?_
          refine D.keep [0, 5, 6, 44] (env1 := [(0, _), (5, _), (6, _), (44, _)]) rfl ?_
          refine C.seq ?_
          refine C.seq ?_
          refine C.region ?_
          refine E.pure (S.move rfl) rfl ?_
          refine E.keep [0, 5, 6, 44, 59] (env1 := [(0, _), (5, _), (6, _), (44, _), (59, _)]) rfl ?_
          first | refine C.ifp rfl (fun h59 => ?_) (fun h59 => ?_) | refine C.ifNone rfl (fun h59 => ?_) (fun h59 => ?_) | refine C.ifSome rfl (fun h59 => ?_) (fun h59 => ?_) | refine C.ifSe rfl (fun h59 => ?_) (fun h59 => ?_) | refine C.ifNotSe rfl (fun h59 => ?_) (fun h59 => ?_) | refine C.cond rfl (fun h59 => ?_) (fun h59 => ?_)
          ·
            refine C.seq ?_
            refine C.region ?_
            refine E.pure (S.move rfl) rfl ?_
            refine E.loud1 (X.make (l := 0) (c := i) (bytes := 4) Tryd.underlying140 infoI32 (z := .int .i32 0) rfl rfl rfl rfl rfl rfl (by omega) (by omega) (by omega)) rfl ?_; rintro _ _ ⟨b, rfl, rfl⟩; refine E.relist (L2 := [_, _, _, _, _, _]) rfl ?_
            refine E.pure (S.assign rfl) rfl ?_
            refine E.keep [0, 5, 6, 7, 44, 59] (env1 := [(0, _), (5, _), (6, _), (7, _), (44, _), (59, _)]) rfl ?_
            refine C.seq ?_
            refine C.seq ?_
            refine C.region ?_
            refine E.pure (S.move rfl) rfl ?_
            refine E.pure (S.nilPtr rfl) rfl ?_
            refine E.pure (S.field rfl fa76_5) rfl ?_
            refine E.pure (S.move rfl) rfl ?_
            refine E.pure (S.slArr (l := 0) (k := .i64) rfl rfl rfl (by omega) (by omega) Tryd.underlying74 Tryd.sizeOf5) rfl ?_
            refine E.reslot (v := .slice (some ⟨zb, 10, none⟩) ((l.take i).length) (512)) (slice_to (by simp [part]) (by rw [hlt0]; rfl) rfl) ?_
            refine E.pure (S.lenSl rfl Tryd.underlying22) rfl ?_
            refine E.reslot (v := .int .i64 ((i : Nat) : Int)) (by rw [hlt0]) ?_
            refine E.pure (S.move rfl) rfl ?_
            refine E.keep [0, 5, 6, 7, 44, 59, 66, 67, 68] (env1 := [(0, _), (5, _), (6, _), (7, _), (44, _), (59, _), (66, _), (67, _), (68, _)]) rfl ?_
            refine C.block ?_
            refine C.loop (fun mm ee ll => ∃ (j : Nat), ∃ (b : Nat), ∃ (o : Nat), ∃ (c : Nat), ∃ (cs : List Value), keeps ee [0, 7, 66, 67, 68] = some [(0, .pointer (some ⟨zb, 0, none⟩)), (7, .slice (some ⟨b, o, none⟩) (j) (c)), (66, .slice (some ⟨zb, 10, none⟩) ((l.take i).length) (512)), (67, .int .i64 ((i : Nat) : Int)), (68, .int .i64 ((j : Nat) : Int))] ∧ ll = [⟨b, o, cs⟩, f1, f2, f3, ⟨zb, 0, [c0, c1, c2, c3, c4, c5, .iface src.t src.v, c7, .int .u32 ((crcOn IEEE d (l.take (i + 1)) : Nat) : Int), c9]⟩, ⟨zb, 10, bytesV (l.take (i + 1)) ++ bs.drop (i + 1)⟩] ∧ (j ≤ i) ∧ (cs.take j = runesV (l.take j)) ∧ (cs.length = c) ∧ (j ≤ c) ∧ (c ≤ 9223372036854775807) ∧ mm = i - j) (_) ⟨0, _, _, _, _, rfl, rfl, by omega, by simp [runesV], List.length_replicate, by omega, by omega, rfl⟩ ?_
            rintro m1 _ _ ⟨j, b, o, c, cs, hk1, rfl, hj, hcs, hcl, hjc, hcm, hm1⟩
            refine C.weaken _ hk1 ?_
            refine C.seq ?_
            refine C.region ?_
            refine E.pure (S.lt rfl rfl) rfl ?_
            refine E.keep [0, 7, 66, 67, 68, 69] (env1 := [(0, _), (7, _), (66, _), (67, _), (68, _), (69, _)]) rfl ?_
            refine C.seq ?_
            first | refine C.ifp rfl (fun h69 => ?_) (fun h69 => ?_) | refine C.ifNone rfl (fun h69 => ?_) (fun h69 => ?_) | refine C.ifSome rfl (fun h69 => ?_) (fun h69 => ?_) | refine C.ifSe rfl (fun h69 => ?_) (fun h69 => ?_) | refine C.ifNotSe rfl (fun h69 => ?_) (fun h69 => ?_) | refine C.cond rfl (fun h69 => ?_) (fun h69 => ?_)
            ·
              have hj3 : j < l.length := by omega
              have hj4 : (l.take i)[j]? = some l[j] := by rw [List.getElem?_take, if_pos (by omega), List.getElem?_eq_getElem hj3]
              have hgj : (bytesV (l.take (i + 1)) ++ bs.drop (i + 1))[j]? = some (u8 l[j]) := by
                rw [List.getElem?_append_left (by rw [bytesV_length, hlt1]; omega), bytesV_get (by rw [hlt1]; omega)]
                simp
              have hc9 := l[j].toNat_lt
              refine C.skip ?_
              refine C.seq ?_
              refine C.block ?_
              refine C.seq ?_
              refine C.region ?_
              refine E.pure (S.ixSl rfl rfl (by omega) Tryd.underlying22 Tryd.sizeOf5) rfl ?_
              refine E.reslot (v := .pointer (some ⟨zb, 10 + j, none⟩)) (ptr_to (by omega)) ?_
              refine E.still (S.load 5 (k := j) rfl rfl hgj Tryd.isAgg5) rfl ?_
              refine E.pure (S.assign rfl) rfl ?_
              refine E.keep [0, 7, 9, 66, 67, 68, 69] (env1 := [(0, _), (7, _), (9, _), (66, _), (67, _), (68, _), (69, _)]) rfl ?_
              refine C.region ?_
              refine E.pure (S.move rfl) rfl ?_
              refine E.pure (S.move rfl) rfl ?_
              refine E.pure (S.conv (r := ((l[j].toNat : Nat) : Int)) rfl Tryd.underlying5 Tryd.underlying21 (IntWalk.i32_in _ (by omega))) rfl ?_
              refine E.loud1 (X.buildSlice (vs := [.int .i32 ((l[j].toNat : Nat) : Int)]) (e := 21) (i := Tryd.t21) (z := .int .i32 0) (fun w => by simp [Instr.buildSlice, Instr.fill, Value.cells, newRow, ev?, get?, Tryd.runUnderlying140, Tryd.typeInfo21]; rw [arr1]) rfl) rfl ?_; rintro _ _ ⟨yb, rfl, rfl⟩; refine E.relist (L2 := [_, _, _, _, _, _, _]) rfl ?_
              refine E.perml [1, 0, 0, 0, 0, 0, 0] (A := [_, _, _, _, _, _, _]) (F := []) rfl ?_
              refine E.loud1 (X.appendRune rfl rfl hcs hcl hjc hcm (by omega)) rfl ?_; rintro _ _ ⟨b2, o2, k2, cs2, rfl, hcs2, hcl2, hjc2, hcm2, rfl⟩; refine E.relist (L2 := [_, _, _, _, _, _, _]) rfl ?_
              rw [← runesV_snoc hj3] at hcs2
              refine E.pure (S.assign rfl) rfl ?_
              refine E.forget [0, 1, 1, 1, 1, 1] (A := [_, _, _, _, _, _]) rfl ?_
              refine E.keep [0, 7, 9, 66, 67, 68, 69] (env1 := [(0, _), (7, _), (9, _), (66, _), (67, _), (68, _), (69, _)]) rfl ?_
              refine C.region ?_
              first | refine E.pure (S.add (b := ((1 : Nat) : Int)) rfl rfl (N.add64 (by omega))) rfl ?_ | refine E.pure (S.add (b := ((1 : Nat) : Int)) rfl rfl (N.addZ (by omega))) rfl ?_
              refine E.pure (S.move rfl) rfl ?_
              refine E.keep [0, 7, 9, 66, 67, 68, 69] (env1 := [(0, _), (7, _), (9, _), (66, _), (67, _), (68, _), (69, _)]) rfl ?_
              refine ⟨_, ?_, j + 1, _, _, _, _, rfl, rfl, by omega, hcs2, hcl2, by omega, hcm2, rfl⟩; omega
            ·
              have hji : j = i := by omega
              subst hji
              refine C.exit rfl ?_
              refine C.seq ?_
              refine C.region ?_
              refine E.pure (S.move rfl) rfl ?_
              refine E.still (S.runesStr (zs := (l.take j).map fun c => ((c.toNat : Nat) : Int)) Tryd.underlying140 Tryd.underlying21 Tryd.underlying9 rfl (by simp; omega) (by rw [List.map_map]; exact Reads.frag (i := 0) (k := 0) rfl (by rw [List.length_map, List.length_take, Nat.min_eq_left (by omega), List.drop_zero, hcs]; rfl))) rfl ?_
              refine E.reslot (v := .string (latin (l.take j))) (by unfold latin; rfl) ?_
              refine E.forget [1, 1, 1, 1, 1] (A := [_, _, _, _, _]) rfl ?_
              refine E.pure (S.assign rfl) rfl ?_
              refine E.pure (S.assign (v := Er.val ea .none) rfl) rfl ?_
              refine E.keep [0, 2, 3, 7, 66, 67, 68, 69] (env1 := [(0, _), (2, _), (3, _), (7, _), (66, _), (67, _), (68, _), (69, _)]) rfl ?_
              refine C.ret ?_
              exact ⟨_, _, rfl, rfl, f1, f2, f3, (bytesV (l.take (j + 1)) ++ bs.drop (j + 1)), hF, by rw [List.length_append, bytesV_length, List.length_take, List.length_drop]; omega, by first | (rw [q3, q1]; rfl) | rw [q3, q1], by first | (rw [q4]; rfl) | rw [q4]⟩
          ·
            have hasc : ∀ c ∈ l.take i, c.toNat ≤ 127 := by
              rw [any_snoc hi3] at hnc2
              rw [hnc2] at h59
              exact none_big (Bool.or_eq_false_iff.1 h59).1
            refine C.skip ?_
            refine C.seq ?_
            refine C.region ?_
            refine E.pure (S.move rfl) rfl ?_
            refine E.pure (S.nilPtr rfl) rfl ?_
            refine E.pure (S.field rfl fa76_5) rfl ?_
            refine E.pure (S.move rfl) rfl ?_
            refine E.pure (S.slArr (l := 0) (k := .i64) rfl rfl rfl (by omega) (by omega) Tryd.underlying74 Tryd.sizeOf5) rfl ?_
            refine E.reslot (v := .slice (some ⟨zb, 10, none⟩) ((l.take i).length) (512)) (slice_to (by simp [part]) (by rw [hlt0]; rfl) rfl) ?_
            refine E.still (S.bytesStr (l := l.take i) Tryd.underlying22 Tryd.underlying5 Tryd.underlying9 rfl (.inr ⟨_, _, rfl, Reads.frag (i := 4) (k := 0) rfl (buf_part1 hi3)⟩)) rfl ?_
            refine E.reslot (v := .string (latin (l.take i))) (by rw [latin_ascii hasc]) ?_
            refine E.pure (S.assign rfl) rfl ?_
            refine E.pure (S.assign (v := Er.val ea .none) rfl) rfl ?_
            refine E.keep [0, 2, 3, 5, 6, 44, 59] (env1 := [(0, _), (2, _), (3, _), (5, _), (6, _), (44, _), (59, _)]) rfl ?_
            refine C.ret ?_
            exact ⟨_, _, rfl, rfl, f1, f2, f3, (bytesV (l.take (i + 1)) ++ bs.drop (i + 1)), hF, by rw [List.length_append, bytesV_length, List.length_take, List.length_drop]; omega, by first | (rw [q3, q1]; rfl) | rw [q3, q1], by first | (rw [q4]; rfl) | rw [q4]⟩
        ·
          have hnz2 : ∀ c ∈ l.take (i + 1), c ≠ 0 := by
            rw [take_snoc hi3]
            intro c hc
            rcases List.mem_append.1 hc with h | h
            · exact hnz c h
            · rw [List.mem_singleton.1 h]; intro hz; rw [hz] at h44; exact h44 rfl
          refine C.skip ?_
          refine C.region ?_
          refine E.pure (S.move rfl) rfl ?_
          first | refine E.pure (S.add (b := ((1 : Nat) : Int)) rfl rfl (N.add64 (by omega))) rfl ?_ | refine E.pure (S.add (b := ((1 : Nat) : Int)) rfl rfl (N.addZ (by omega))) rfl ?_
          refine E.pure (S.assign rfl) rfl ?_
          refine E.keep [0, 5, 6, 44] (env1 := [(0, _), (5, _), (6, _), (44, _)]) rfl ?_
          refine ⟨_, ?_, i + 1, nc2, f1, f2, f3, rfl, rfl, by omega, by omega, hnz2, hnc2, hF, rfl⟩; omega
end Go.Eng
