/-
  Walk of the law FnMadeHeaderIsRead.
-/
import Derived.Test.YtbjbmpcgiokdaaaDoorWMk2
import Derived.Test.YtbjbmpcgiokdaaaDoorWLaw2
set_option linter.unusedVariables false
set_option linter.unusedSimpArgs false
namespace Go.Eng
open Go Go.Proofs
set_option maxRecDepth 100000

theorem first_spec {K : Known} (m : Md) (nb cb : List UInt8) (ea va : Option Addr) (ec vn vc : Nat) (hE : m.extra = [] ∨ ∃ b o, ea = some ⟨b, o, none⟩ ∧ KB K b o m.extra) (hm0 : 0 ≤ m.mod) (hm1 : m.mod < 4294967296) (h1 : m.name.size ≤ 140737488355327) (h2 : m.comment.size ≤ 140737488355327)
    (hnb : textB m.name.data.toList = some nb) (hcb : textB m.comment.data.toList = some cb) (hnl : nb.length < 512) (hcl : cb.length < 512) (hel : m.extra.length ≤ 65535) :
    Fn Tryd.prog K 14 #[.agg #[.string m.name, .string m.comment, .slice ea m.extra.length ec, .int .i64 m.mod, u8 m.os, .bool m.text, .bool m.checked, .bool m.ex, .bool m.nm, .bool m.cm, u8 m.flags, .slice va vn vc]] [] (fun r L => ∃ g, Sl 1 r (firstL m nb cb).length (bytesV (firstL m nb cb)) [g] ∧ L = [g]) := by
  have e : ((m.mod.toNat : Nat) : Int) = m.mod := by omega
  have h := first_walk (K := K) m m.mod.toNat nb cb ea va ec vn vc hE rfl (by omega) h1 h2 hnb hcb hnl hcl hel
  rw [e] at h
  refine Fn.lose h ?_
  rintro r L ⟨g, F, h, rfl⟩
  exact ⟨[g], F, Same.refl _, g, h, rfl⟩

theorem open_own {K : Known} {ea : Fin 5 → Addr} (hs : Sents K ea) {v : Value} {xs : List UInt8} {g : Frag} (h : Sl 1 v xs.length (bytesV xs) [g]) (h0 : 0 < xs.length) (hl : xs.length ≤ 140737488355328) (hg : (readHead xs).1 = .none) (F : Frags) :
    Fn Tryd.prog K 10 #[v] (g :: F) (fun r L => ∃ a c g2, (∀ (K : Known) (L : Frags), g2 ∈ L → RB K L a ((readHead xs).2.2.extra.getD [])) ∧ L = g2 :: g :: F ∧ r = .tuple #[.agg #[.string (readHead xs).2.2.name, .string (readHead xs).2.2.comment, .slice a ((readHead xs).2.2.extra.getD []).length c, .int .i64 (((readHead xs).2.2.mod : Nat) : Int), .int .u8 (((readHead xs).2.2.os : Nat) : Int)], .int .i64 (((readHead xs).2.1.length : Nat) : Int), .int .i64 0]) := by
  obtain ⟨b, o, c, cs, rfl, h2, h3, h4, h5, h6⟩ := h.one h0
  simp only [List.cons.injEq, and_true] at h2
  subst h2
  rw [Nat.mul_one] at h6
  refine Fn.mono (Fn.still (R := fun r L => ∃ v g, ExOut (readHead xs).2.2.extra v g ∧ L = [g] ∧ r = .tuple #[.agg #[.string (readHead xs).2.2.name, .string (readHead xs).2.2.comment, v, .int .i64 (((readHead xs).2.2.mod : Nat) : Int), .int .u8 (((readHead xs).2.2.os : Nat) : Int)], .int .i64 (((readHead xs).2.1.length : Nat) : Int), .int .i64 0]) fun w hw => ?_) ?_
  · have hr : Reads K (⟨b, o, cs⟩ :: F) b o (bytesV xs) := Reads.mem (k := 0) (.head _) (by rw [List.drop_zero, bytesV_length]; exact h6)
    exact open_good (open_some (Known.ext_fn hs hw) b o c xs (hr.kb hw) hl) hg
  · rintro r L' ⟨L1, ⟨v, g2, h1, rfl, rfl⟩, rfl⟩
    obtain ⟨a, n, c2, rfl, rfl, _⟩ := exOut_rb (K := K) h1
    refine ⟨a, c2, g2, fun K' L'' hm => ?_, rfl, rfl⟩
    obtain ⟨a', n', c', e1, _, h7⟩ := exOut_rb (K := K') h1
    simp only [Value.slice.injEq] at e1
    rw [e1.1]; exact h7 _ hm

theorem latin_text {s : ByteArray} {t : List UInt8} (h : textB s.data.toList = some t) : latin t = s := by
  rw [latin_eq, (textB_latin h).1]

theorem BytesA.sl {K : Known} {v : Value} {l : List UInt8} (h : BytesA K v l) : ∃ a c, v = .slice a l.length c ∧ (l = [] ∨ ∃ b o, a = some ⟨b, o, none⟩ ∧ KB K b o l) := by
  rcases h with ⟨rfl, rfl⟩ | ⟨a, c, rfl, rfl⟩ | ⟨pb, po, cap, rfl, _, h⟩
  · exact ⟨none, 0, rfl, .inl rfl⟩
  · exact ⟨some a, c, rfl, .inl rfl⟩
  · exact ⟨_, cap, rfl, .inr ⟨pb, po, rfl, h⟩⟩
theorem arg_bytesA {H : Type} {enc : TypeId × Value → H} {W : World} {base : Nat} {v1 : Value} {d1 : DataW H} {p1 : List MemPlace} (hval : Value.okWide Tryd.prog W .any base 22 v1)
    (h1 : DataW.Trod enc Tryd.prog W 0 (fun _ => true) true 22 v1 d1 p1) : ∃ a c l, v1 = .slice a (List.length l) c ∧ (l = [] ∨ ∃ b o, a = some ⟨b, o, none⟩ ∧ KB (fun b => W.heap[b]?) b o l) := by
  rcases arg_bytes hval h1 with rfl | ⟨a, c, rfl⟩ | ⟨pb, po, cap, l, rfl, _, h⟩
  · exact ⟨none, 0, [], rfl, .inl rfl⟩
  · exact ⟨some a, c, [], rfl, .inl rfl⟩
  · exact ⟨_, cap, l, rfl, .inr ⟨pb, po, rfl, h⟩⟩

theorem law3 {K : Known} {ea0 : Fin 5 → Addr} (hs : Sents K ea0) (m : Md) (ea va ba : Option Addr) (ec vn vc bc : Nat) (behind : List UInt8) (hB : BlocksA K (.slice va vn vc)) (hE : m.extra = [] ∨ ∃ b o, ea = some ⟨b, o, none⟩ ∧ KB K b o m.extra) (hBh : behind = [] ∨ ∃ b o, ba = some ⟨b, o, none⟩ ∧ KB K b o behind) : Fn Tryd.prog K 5 #[.agg #[.string m.name, .string m.comment, .slice ea m.extra.length ec, .int .i64 m.mod, u8 m.os, .bool m.text, .bool m.checked, .bool m.ex, .bool m.nm, .bool m.cm, u8 m.flags, .slice va vn vc], .slice ba behind.length bc] [] (fun r L => r = .bool true) := by
  refine Fn.intro (args := [.agg #[.string m.name, .string m.comment, .slice ea m.extra.length ec, .int .i64 m.mod, u8 m.os, .bool m.text, .bool m.checked, .bool m.ex, .bool m.nm, .bool m.cm, u8 m.flags, .slice va vn vc], .slice ba behind.length bc]) (RR := Ret1 4 _) Tryd.func5 rfl rfl Tryd.ntmps5 (res1 Tryd.results5) ?_
  refine C.reenv (env2 := [(0, .agg #[.string m.name, .string m.comment, .slice ea m.extra.length ec, .int .i64 m.mod, u8 m.os, .bool m.text, .bool m.checked, .bool m.ex, .bool m.nm, .bool m.cm, u8 m.flags, .slice va vn vc]), (1, .slice ba behind.length bc)]) rfl ?_
  refine C.seq ?_
  refine C.region ?_
  refine E.loud1 (X.box rfl) rfl ?_; rintro _ _ ⟨b2, rfl, rfl⟩; refine E.relist (L2 := [_]) rfl ?_
  refine E.pure (S.assign rfl) rfl ?_
  refine E.keep [1, 2, 4] (env1 := [(1, _), (2, _), (4, _)]) rfl ?_
  refine C.seq ?_
  refine C.seq ?_
  refine C.region ?_
  refine E.still (S.loadA 0 (k := 0) rfl rfl rfl rfl Tryd.isAgg34 Tryd.sizeOf34) rfl ?_
  refine E.loud1 (OpX.pick [] (F := [_]) rfl (X.call rfl Tryd.call12 (zz1_spec m ea va ec vn vc hB))) rfl ?_; rintro _ _ ⟨_, ⟨q1, rfl, hq1, rfl⟩, rfl⟩; refine E.relist (L2 := [_]) rfl ?_
  refine E.pure (S.notB rfl) rfl ?_
  refine E.pure (S.move rfl) rfl ?_
  first | refine E.fork (fun g11 => ?_) (fun g11 => ?_) | refine E.forkB (fun g11 => ?_) (fun g11 => ?_)
  ·
    refine E.guardNo 11 true rfl rfl rfl rfl ?_
    refine E.guardNo 11 true rfl rfl rfl rfl ?_
    refine E.guardNo 11 true rfl rfl rfl rfl ?_
    refine E.pure (S.pickT rfl rfl) rfl ?_
    refine E.keep [1, 2, 4, 15] (env1 := [(1, _), (2, _), (4, _), (15, _)]) rfl ?_
    refine C.yes rfl (rfl) ?_
    refine C.seq ?_
    refine C.region ?_
    refine E.pure (S.assign rfl) rfl ?_
    refine E.keep [1, 2, 4, 15] (env1 := [(1, _), (2, _), (4, _), (15, _)]) rfl ?_
    refine C.ret ?_
    exact ⟨_, rfl, rfl⟩
  ·
    refine E.wanted 11 rfl rfl ?_
    refine E.pure (S.move rfl) rfl ?_
    refine E.wanted 11 rfl rfl ?_
    refine E.pure (S.lenSl rfl Tryd.underlying22) rfl ?_
    refine E.wanted 11 rfl rfl ?_
    refine E.pure (S.gt (b := ((2147483647 : Nat) : Int)) rfl rfl) rfl ?_
    refine E.pure (S.pickF rfl rfl) rfl ?_
    refine E.keep [1, 2, 4, 15] (env1 := [(1, _), (2, _), (4, _), (15, _)]) rfl ?_
    first | refine C.ifp rfl (fun h15 => ?_) (fun h15 => ?_) | refine C.cond rfl (fun h15 => ?_) (fun h15 => ?_)
    ·
      refine C.seq ?_
      refine C.region ?_
      refine E.pure (S.assign rfl) rfl ?_
      refine E.keep [1, 2, 4, 15] (env1 := [(1, _), (2, _), (4, _), (15, _)]) rfl ?_
      refine C.ret ?_
      exact ⟨_, rfl, rfl⟩
    ·
      have hz := hq1 (by simpa using g11)
      have h1 : m.name.size ≤ 140737488355327 := by omega
      have h2 : m.comment.size ≤ 140737488355327 := by omega
      refine C.skip ?_
      refine C.seq ?_
      refine C.seq ?_
      refine C.region ?_
      refine E.pure (S.field rfl fa34_0) rfl ?_
      refine E.still (S.loadA 0 (k := 0) rfl rfl rfl rfl Tryd.isAgg24 Tryd.sizeOf24) rfl ?_
      refine E.loud1 (OpX.pick [] (F := [_]) rfl (X.call rfl Tryd.call13 (fits_spec m.name m.comment ea m.extra.length ec m.mod (m.os.toNat : Int) h1 h2))) rfl ?_; rintro _ _ ⟨_, ⟨q2, rfl, hq2, rfl⟩, rfl⟩; refine E.relist (L2 := [_]) rfl ?_
      refine E.pure (S.notB rfl) rfl ?_
      refine E.pure (S.move rfl) rfl ?_
      first | refine E.fork (fun g20 => ?_) (fun g20 => ?_) | refine E.forkB (fun g20 => ?_) (fun g20 => ?_)
      ·
        refine E.guardNo 20 true rfl rfl rfl rfl ?_
        refine E.guardNo 20 true rfl rfl rfl rfl ?_
        refine E.guardNo 20 true rfl rfl rfl rfl ?_
        refine E.pure (S.pickT rfl rfl) rfl ?_
        refine E.keep [1, 2, 4, 15, 24] (env1 := [(1, _), (2, _), (4, _), (15, _), (24, _)]) rfl ?_
        refine C.yes rfl (rfl) ?_
        refine C.seq ?_
        refine C.region ?_
        refine E.pure (S.assign rfl) rfl ?_
        refine E.keep [1, 2, 4, 15, 24] (env1 := [(1, _), (2, _), (4, _), (15, _), (24, _)]) rfl ?_
        refine C.ret ?_
        exact ⟨_, rfl, rfl⟩
      ·
        refine E.wanted 20 rfl rfl ?_
        refine E.pure (S.move rfl) rfl ?_
        refine E.wanted 20 rfl rfl ?_
        refine E.pure (S.lenSl rfl Tryd.underlying22) rfl ?_
        refine E.wanted 20 rfl rfl ?_
        refine E.pure (S.gt (b := ((65536 : Nat) : Int)) rfl rfl) rfl ?_
        refine E.pure (S.pickF rfl rfl) rfl ?_
        refine E.keep [1, 2, 4, 15, 24] (env1 := [(1, _), (2, _), (4, _), (15, _), (24, _)]) rfl ?_
        first | refine C.ifp rfl (fun h24 => ?_) (fun h24 => ?_) | refine C.cond rfl (fun h24 => ?_) (fun h24 => ?_)
        ·
          refine C.seq ?_
          refine C.region ?_
          refine E.pure (S.assign rfl) rfl ?_
          refine E.keep [1, 2, 4, 15, 24] (env1 := [(1, _), (2, _), (4, _), (15, _), (24, _)]) rfl ?_
          refine C.ret ?_
          exact ⟨_, rfl, rfl⟩
        ·
          have hq2t : q2 = true := by simpa using g20
          obtain ⟨nb, cb, hnb, hcb, hnl, hcl, hel, hm0, hm1⟩ := hq2 hq2t
          have hfl := firstL_len (m := m) (nb := nb) (cb := cb) hel hnl hcl
          have hmr := made_read (m := m) (nb := nb) (cb := cb) (behind := behind) (textB_latin hcb).2.1 hcl (textB_latin hnb).2.1 hnl (by omega) hm0 hm1
          have hRB : ∀ {L : Frags}, RB K L ea m.extra := fun {L} => hE.imp id (fun ⟨b, o, h1, h2⟩ => ⟨b, o, h1, h2.reads⟩)
          refine C.skip ?_
          refine C.seq ?_
          refine C.region ?_
          refine E.still (S.loadA 0 (k := 0) rfl rfl rfl rfl Tryd.isAgg34 Tryd.sizeOf34) rfl ?_
          refine E.loud1 (OpX.pick [] (F := [_]) rfl (X.call rfl Tryd.call14 (first_spec m nb cb ea va ec vn vc hE hm0 hm1 h1 h2 hnb hcb hnl hcl hel))) rfl ?_; rintro _ _ ⟨_, ⟨gf, hSf, rfl⟩, rfl⟩; refine E.relist (L2 := [_, _]) rfl ?_
          refine E.pure (S.move rfl) rfl ?_
          refine E.loud1 (OpX.pick [0] (F := [_]) rfl (X.appendO (xs := firstL m nb cb) (ys := behind) rfl rfl hSf rfl (hBh.imp id (fun ⟨b, o, h1, h2⟩ => ⟨b, o, h1, h2.reads⟩)) (by omega) (by omega))) rfl ?_; rintro _ _ ⟨_, ⟨gd, hSd, rfl⟩, rfl⟩; refine E.relist (L2 := [_, _]) rfl ?_
          refine E.loud1 (X.call rfl Tryd.call10 (open_own hs hSd (by rw [List.length_append]; omega) (by rw [List.length_append]; omega) hmr.1 _)) rfl ?_; rintro _ _ ⟨a7, c7, g7, hr7, rfl, rfl⟩; refine E.relist (L2 := [_, _, _]) rfl ?_
          refine E.pure (S.move rfl) rfl ?_
          refine E.pure (S.extract rfl rfl) rfl ?_
          refine E.pure (S.extract rfl rfl) rfl ?_
          refine E.pure (S.extract rfl rfl) rfl ?_
          refine E.loud1 (X.alloc Tryd.zeroValue27) rfl ?_; rintro _ _ ⟨b5, rfl, rfl⟩; refine E.relist (L2 := [_, _, _, _]) rfl ?_
          refine E.loud0 (X.storeA 0 (k := 0) rfl rfl rfl rfl rfl rfl Tryd.sizeOf27 rfl) ?_; rintro _ _ ⟨rfl, rfl⟩; refine E.relist (L2 := [_, _, _, _]) rfl ?_
          refine E.pure (S.assign rfl) rfl ?_
          refine E.pure (S.assign rfl) rfl ?_
          refine E.keep [1, 2, 4, 5, 6, 7, 15, 24] (env1 := [(1, _), (2, _), (4, _), (5, _), (6, _), (7, _), (15, _), (24, _)]) rfl ?_
          refine C.seq ?_
          refine C.region ?_
          refine E.pure (S.move rfl) rfl ?_
          refine E.pure (S.eq (b := ((0 : Nat) : Int)) rfl rfl) rfl ?_
          refine E.reslot (v := .bool true) (congrArg Value.bool (by decide)) ?_
          refine E.pure (S.move rfl) rfl ?_
          refine E.wanted 36 rfl rfl ?_
          refine E.still (S.loadA 0 (k := 0) rfl rfl rfl rfl Tryd.isAgg27 Tryd.sizeOf27) rfl ?_
          refine E.wanted 36 rfl rfl ?_
          refine E.pure (S.field rfl fa34_0) rfl ?_
          refine E.wanted 36 rfl rfl ?_
          refine E.still (S.loadA 3 (k := 0) rfl rfl rfl rfl Tryd.isAgg24 Tryd.sizeOf24) rfl ?_
          refine E.reslot (v := .agg #[.string m.name, .string m.comment, .slice ea m.extra.length ec, .int .i64 ((m.mod.toNat : Nat) : Int), .int .u8 ((m.os.toNat : Nat) : Int)]) (by rw [show ((m.mod.toNat : Nat) : Int) = m.mod by omega]; rfl) ?_
          refine E.wanted 36 rfl rfl ?_
          refine E.loud1 (X.call rfl Tryd.call11 (same_spec _ _ _ _ _ _ _ _ _ _ _ _ _ _ (hr7 _ _ (by simp)) hRB)) rfl ?_; rintro _ _ ⟨rfl, rfl⟩; refine E.relist (L2 := [_, _, _, _]) rfl ?_
          refine E.reslot (v := .bool true) (congrArg Value.bool (decide_eq_true ⟨hmr.2.2.1.trans (latin_text hnb), hmr.2.2.2.1.trans (latin_text hcb), hmr.2.2.2.2.1, by have := hmr.2.2.2.2.2.1; omega, hmr.2.2.2.2.2.2⟩)) ?_
          refine E.pure (S.pickT rfl rfl) rfl ?_
          refine E.pure (S.move rfl) rfl ?_
          refine E.wanted 42 rfl rfl ?_
          refine E.pure (S.move rfl) rfl ?_
          refine E.wanted 42 rfl rfl ?_
          refine E.pure (S.move rfl) rfl ?_
          refine E.wanted 42 rfl rfl ?_
          refine E.pure (S.lenSl rfl Tryd.underlying22) rfl ?_
          refine E.wanted 42 rfl rfl ?_
          refine E.pure (S.eq rfl rfl) rfl ?_
          refine E.reslot (v := .bool true) (congrArg Value.bool (decide_eq_true (by rw [hmr.2.1]))) ?_
          refine E.pure (S.pickT rfl rfl) rfl ?_
          refine E.pure (S.assign rfl) rfl ?_
          refine E.keep [1, 2, 4, 5, 6, 7, 15, 24] (env1 := [(1, _), (2, _), (4, _), (5, _), (6, _), (7, _), (15, _), (24, _)]) rfl ?_
          refine C.ret ?_
          exact ⟨_, rfl, rfl⟩
end Go.Eng
