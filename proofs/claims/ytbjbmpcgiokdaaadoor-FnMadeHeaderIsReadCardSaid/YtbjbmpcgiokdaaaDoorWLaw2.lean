/-
  Walk of the law FnHeaderAsTold.
-/
import Derived.Test.YtbjbmpcgiokdaaaDoorWLaw1
set_option linter.unusedVariables false
set_option linter.unusedSimpArgs false
namespace Go.Eng
open Go Go.Proofs
set_option maxRecDepth 100000


theorem exOut_rb {K : Known} {ex : Option (List UInt8)} {v : Value} {g : Frag} (h : ExOut ex v g) : ∃ a n c, v = .slice a n c ∧ n = (ex.getD []).length ∧ ∀ L : Frags, g ∈ L → RB K L a (ex.getD []) := by
  cases ex with
  | none => have h' : v = _ := h; subst h'; exact ⟨_, _, _, rfl, rfl, fun _ _ => .inl rfl⟩
  | some d =>
    obtain ⟨b, o, c, cs, rfl, rfl, _⟩ := h
    exact ⟨_, _, _, rfl, rfl, fun L hL => .inr ⟨b, o, rfl, Reads.mem (k := 0) hL (by rw [List.drop_zero]; exact List.take_left' rfl)⟩⟩

theorem exSp_rb {K : Known} {ex : Option (List UInt8)} {a : Option Addr} {n c : Nat} {g : Frag} (h : ExSp ex (.slice a n c) g) : n = (ex.getD []).length ∧ ∀ L : Frags, g ∈ L → RB K L a (ex.getD []) := by
  cases ex with
  | none =>
    have h' : Value.slice a n c = .slice none 0 0 := h
    simp only [Value.slice.injEq] at h'
    exact ⟨h'.2.1, fun _ _ => .inl rfl⟩
  | some d =>
    rcases h with ⟨rfl, h'⟩ | ⟨b, o, c', cs, h', rfl, _⟩
    · simp only [Value.slice.injEq] at h'
      exact ⟨h'.2.1, fun _ _ => .inl rfl⟩
    · simp only [Value.slice.injEq] at h'
      obtain ⟨rfl, rfl, rfl⟩ := h'
      exact ⟨rfl, fun L hL => .inr ⟨b, o, rfl, Reads.mem (k := 0) hL (by rw [List.drop_zero]; exact List.take_left' rfl)⟩⟩

theorem kindOf_pos {e : Er} (h : e ≠ .none) : kindOf e ≠ 0 := by
  cases e with
  | none => exact absurd rfl h
  | se k => unfold kindOf; simp only; split; · simp
            split; · simp
            split <;> simp
  | corrupt off => simp [kindOf]
  | internal s => simp [kindOf]
theorem kindOf_header : kindOf .header = 2 := rfl

theorem bad_of (b : List UInt8) (h0 : (spStart b).2.2.1 ≠ 0) (h2 : (spStart b).2.2.1 ≠ 2) : (readHead b).1 ≠ .none ∧ ((spStart b).2.2.2 = 2 → kindOf (readHead b).1 = 2) := by
  rcases agrees b with h1 | ⟨h1, _⟩ | ⟨_, h3, h4⟩
  · exact absurd h1 h2
  · exact absurd h1 h0
  · exact ⟨h3, fun h => by rw [h4 h]; rfl⟩

theorem same_spec {K : Known} {L : Frags} (n1 n2 c1 c2 : ByteArray) (a1 a2 : Option Addr) (k1 k2 : Nat) (l1 l2 : List UInt8) (m1 m2 o1 o2 : Nat) (h1 : RB K L a1 l1) (h2 : RB K L a2 l2) :
    Fn Tryd.prog K 11 #[.agg #[.string n1, .string c1, .slice a1 l1.length k1, .int .i64 ((m1 : Nat) : Int), .int .u8 ((o1 : Nat) : Int)], .agg #[.string n2, .string c2, .slice a2 l2.length k2, .int .i64 ((m2 : Nat) : Int), .int .u8 ((o2 : Nat) : Int)]] L (fun v L' => v = .bool (decide (n1 = n2 ∧ c1 = c2 ∧ l1 = l2 ∧ m1 = m2 ∧ o1 = o2)) ∧ L' = L) :=
  Fn.stillR fun w hw => same_known n1 n2 c1 c2 a1 a2 k1 k2 l1 l2 m1 m2 o1 o2 (h1.still hw) (h2.still hw)


theorem law2_some {K : Known} {ea : Fin 5 → Addr} (hs : Sents K ea) (db o cap : Nat) (b : List UInt8) (hp : KB K db o b) (hcap : b.length ≤ cap) : Fn Tryd.prog K 4 #[.slice (some ⟨db, o, none⟩) (b.length) (cap)] [] (fun r L => r = .bool true) := by
  refine Fn.intro (args := [.slice (some ⟨db, o, none⟩) (b.length) (cap)]) (RR := Ret1 2 _) Tryd.func4 rfl rfl Tryd.ntmps4 (res1 Tryd.results4) ?_
  refine C.reenv (env2 := [(0, .slice (some ⟨db, o, none⟩) (b.length) (cap))]) rfl ?_
  refine C.seq ?_
  refine C.region ?_
  refine E.pure (S.assign rfl) rfl ?_
  refine E.keep [0, 2] (env1 := [(0, _), (2, _)]) rfl ?_
  refine C.seq ?_
  refine C.seq ?_
  refine C.region ?_
  refine E.pure (S.move rfl) rfl ?_
  refine E.pure (S.lenSl rfl Tryd.underlying22) rfl ?_
  refine E.pure (S.gt (b := ((2147483647 : Nat) : Int)) rfl rfl) rfl ?_
  refine E.keep [0, 2, 12] (env1 := [(0, _), (2, _), (12, _)]) rfl ?_
  first | refine C.ifp rfl (fun h12 => ?_) (fun h12 => ?_) | refine C.cond rfl (fun h12 => ?_) (fun h12 => ?_)
  ·
    refine C.seq ?_
    refine C.region ?_
    refine E.pure (S.assign rfl) rfl ?_
    refine E.keep [0, 2, 12] (env1 := [(0, _), (2, _), (12, _)]) rfl ?_
    refine C.ret ?_
    exact ⟨_, rfl, rfl⟩
  ·
    refine C.skip ?_
    refine C.seq ?_
    refine C.seq ?_
    refine C.region ?_
    refine E.pure (S.move rfl) rfl ?_
    refine E.pure (S.lenSl rfl Tryd.underlying22) rfl ?_
    refine E.pure (S.gt (b := ((262144 : Nat) : Int)) rfl rfl) rfl ?_
    refine E.keep [0, 2, 12, 15] (env1 := [(0, _), (2, _), (12, _), (15, _)]) rfl ?_
    first | refine C.ifp rfl (fun h15 => ?_) (fun h15 => ?_) | refine C.cond rfl (fun h15 => ?_) (fun h15 => ?_)
    ·
      refine C.seq ?_
      refine C.region ?_
      refine E.pure (S.assign rfl) rfl ?_
      refine E.keep [0, 2, 12, 15] (env1 := [(0, _), (2, _), (12, _), (15, _)]) rfl ?_
      refine C.ret ?_
      exact ⟨_, rfl, rfl⟩
    ·
      refine C.skip ?_
      refine C.seq ?_
      refine C.region ?_
      refine E.pure (S.move rfl) rfl ?_
      refine E.loud1 (OpX.pick [] (F := []) rfl (X.call rfl Tryd.call10 (openRes2 (open_some hs db o cap b hp (by omega))))) rfl ?_
      rintro _ _ ⟨_, (⟨hne, rfl, rfl⟩ | ⟨hno, v, g2, hO, rfl, rfl⟩), rfl⟩
      ·
        refine E.relist (L2 := []) rfl ?_
        refine E.pure (S.move rfl) rfl ?_
        refine E.pure (S.extract rfl rfl) rfl ?_
        refine E.pure (S.extract rfl rfl) rfl ?_
        refine E.pure (S.extract rfl rfl) rfl ?_
        refine E.loud1 (X.alloc Tryd.zeroValue27) rfl ?_; rintro _ _ ⟨b3, rfl, rfl⟩; refine E.relist (L2 := [_]) rfl ?_
        refine E.loud0 (X.storeA 0 (k := 0) rfl rfl rfl rfl rfl rfl Tryd.sizeOf27 rfl) ?_; rintro _ _ ⟨rfl, rfl⟩; refine E.relist (L2 := [_]) rfl ?_
        refine E.pure (S.assign rfl) rfl ?_
        refine E.pure (S.assign rfl) rfl ?_
        refine E.keep [0, 2, 3, 5, 12, 15] (env1 := [(0, _), (2, _), (3, _), (5, _), (12, _), (15, _)]) rfl ?_
        refine C.seq ?_
        refine C.seq ?_
        refine C.region ?_
        refine E.pure (S.move rfl) rfl ?_
        refine E.pure (S.lenSl rfl Tryd.underlying22) rfl ?_
        refine E.pure (S.eq (b := ((0 : Nat) : Int)) rfl rfl) rfl ?_
        refine E.keep [0, 2, 3, 5, 12, 15, 24] (env1 := [(0, _), (2, _), (3, _), (5, _), (12, _), (15, _), (24, _)]) rfl ?_
        first | refine C.ifp rfl (fun h24 => ?_) (fun h24 => ?_) | refine C.cond rfl (fun h24 => ?_) (fun h24 => ?_)
        ·
          have hb0 : b = [] := List.eq_nil_of_length_eq_zero (by omega)
          refine C.seq ?_
          refine C.region ?_
          refine E.pure (S.move rfl) rfl ?_
          refine E.pure (S.eq (b := ((1 : Nat) : Int)) rfl rfl) rfl ?_
          refine E.reslot (v := .bool true) (congrArg Value.bool (by rw [hb0]; decide)) ?_
          refine E.pure (S.assign rfl) rfl ?_
          refine E.keep [0, 2, 3, 5, 12, 15, 24] (env1 := [(0, _), (2, _), (3, _), (5, _), (12, _), (15, _), (24, _)]) rfl ?_
          refine C.ret ?_
          exact ⟨_, rfl, rfl⟩
        ·
          refine C.skip ?_
          refine C.seq ?_
          refine C.region ?_
          refine E.pure (S.move rfl) rfl ?_
          refine E.loud1 (OpX.pick [] (F := [_]) rfl (X.call rfl Tryd.call9 (start_spec2 db o cap b hp (by omega) hcap))) rfl ?_; rintro _ _ ⟨_, ⟨xa, xn, xc, g, hX, rfl, rfl⟩, rfl⟩; refine E.relist (L2 := [_, _]) rfl ?_
          obtain ⟨hn2, hr2⟩ := exSp_rb (K := K) hX
          subst hn2
          refine E.pure (S.move rfl) rfl ?_
          refine E.pure (S.extract rfl rfl) rfl ?_
          refine E.pure (S.extract rfl rfl) rfl ?_
          refine E.pure (S.extract rfl rfl) rfl ?_
          refine E.pure (S.extract rfl rfl) rfl ?_
          refine E.loud1 (X.alloc Tryd.zeroValue24) rfl ?_; rintro _ _ ⟨b6, rfl, rfl⟩; refine E.relist (L2 := [_, _, _]) rfl ?_
          refine E.loud0 (X.storeA 0 (k := 0) rfl rfl rfl rfl rfl rfl Tryd.sizeOf24 rfl) ?_; rintro _ _ ⟨rfl, rfl⟩; refine E.relist (L2 := [_, _, _]) rfl ?_
          refine E.pure (S.assign rfl) rfl ?_
          refine E.pure (S.assign rfl) rfl ?_
          refine E.pure (S.assign rfl) rfl ?_
          refine E.keep [0, 2, 3, 5, 6, 8, 9, 12, 15, 24] (env1 := [(0, _), (2, _), (3, _), (5, _), (6, _), (8, _), (9, _), (12, _), (15, _), (24, _)]) rfl ?_
          refine C.seq ?_
          refine C.seq ?_
          refine C.region ?_
          refine E.pure (S.move rfl) rfl ?_
          refine E.keep [0, 2, 3, 5, 6, 8, 9, 12, 15, 24, 34] (env1 := [(0, _), (2, _), (3, _), (5, _), (6, _), (8, _), (9, _), (12, _), (15, _), (24, _), (34, _)]) rfl ?_
          refine C.block ?_
          refine C.seq ?_
          refine C.region ?_
          refine E.pure (S.eq (b := ((2 : Nat) : Int)) rfl rfl) rfl ?_
          refine E.pure (S.assign rfl) rfl ?_
          refine E.keep [0, 2, 3, 5, 6, 8, 9, 12, 15, 24, 34, 35] (env1 := [(0, _), (2, _), (3, _), (5, _), (6, _), (8, _), (9, _), (12, _), (15, _), (24, _), (34, _), (35, _)]) rfl ?_
          first | refine C.ifp rfl (fun h35 => ?_) (fun h35 => ?_) | refine C.cond rfl (fun h35 => ?_) (fun h35 => ?_)
          ·
            refine C.seq ?_
            refine C.region ?_
            refine E.pure (S.assign rfl) rfl ?_
            refine E.keep [0, 2, 3, 5, 6, 8, 9, 12, 15, 24, 34, 35] (env1 := [(0, _), (2, _), (3, _), (5, _), (6, _), (8, _), (9, _), (12, _), (15, _), (24, _), (34, _), (35, _)]) rfl ?_
            refine C.ret ?_
            exact ⟨_, rfl, rfl⟩
          ·
            refine C.seq ?_
            refine C.region ?_
            refine E.pure (S.eq (b := ((0 : Nat) : Int)) rfl rfl) rfl ?_
            refine E.pure (S.assign rfl) rfl ?_
            refine E.keep [0, 2, 3, 5, 6, 8, 9, 12, 15, 24, 34, 35, 37] (env1 := [(0, _), (2, _), (3, _), (5, _), (6, _), (8, _), (9, _), (12, _), (15, _), (24, _), (34, _), (35, _), (37, _)]) rfl ?_
            first | refine C.ifp rfl (fun h37 => ?_) (fun h37 => ?_) | refine C.cond rfl (fun h37 => ?_) (fun h37 => ?_)
            ·
              have hgd := good_of b (by omega)
              exact absurd hgd.1 hne
            ·
              have hbd := bad_of b (by omega) (by omega)
              refine C.skip ?_
              refine C.seq ?_
              refine C.region ?_
              refine E.pure (S.move rfl) rfl ?_
              refine E.pure (S.ne (b := ((0 : Nat) : Int)) rfl rfl) rfl ?_
              have hk0 := kindOf_pos hbd.1
              refine E.reslot (v := .bool true) (congrArg Value.bool (decide_eq_true (by omega))) ?_
              refine E.pure (S.move rfl) rfl ?_
              refine E.wanted 48 rfl rfl ?_
              refine E.pure (S.move rfl) rfl ?_
              refine E.wanted 48 rfl rfl ?_
              refine E.pure (S.ne (b := ((2 : Nat) : Int)) rfl rfl) rfl ?_
              refine E.wanted 48 rfl rfl ?_
              refine E.pure (S.move rfl) rfl ?_
              first | refine E.fork (fun g51 => ?_) (fun g51 => ?_) | refine E.forkB (fun g51 => ?_) (fun g51 => ?_)
              ·
                refine E.guardNo 51 true rfl rfl rfl rfl ?_
                refine E.guardNo 51 true rfl rfl rfl rfl ?_
                refine E.wanted 48 rfl rfl ?_
                refine E.pure (S.pickT rfl rfl) rfl ?_
                refine E.pure (S.pickT rfl rfl) rfl ?_
                refine E.pure (S.assign rfl) rfl ?_
                refine E.keep [0, 2, 3, 5, 6, 8, 9, 12, 15, 24, 34, 35, 37] (env1 := [(0, _), (2, _), (3, _), (5, _), (6, _), (8, _), (9, _), (12, _), (15, _), (24, _), (34, _), (35, _), (37, _)]) rfl ?_
                refine C.ret ?_
                exact ⟨_, rfl, rfl⟩
              ·
                refine E.wanted 51 rfl rfl ?_
                refine E.pure (S.move rfl) rfl ?_
                refine E.wanted 51 rfl rfl ?_
                refine E.pure (S.eq (b := ((2 : Nat) : Int)) rfl rfl) rfl ?_
                refine E.reslot (v := .bool true) (congrArg Value.bool (decide_eq_true (by have := hbd.2 (by omega); omega))) ?_
                refine E.wanted 48 rfl rfl ?_
                refine E.pure (S.pickF rfl rfl) rfl ?_
                refine E.pure (S.pickT rfl rfl) rfl ?_
                refine E.pure (S.assign rfl) rfl ?_
                refine E.keep [0, 2, 3, 5, 6, 8, 9, 12, 15, 24, 34, 35, 37] (env1 := [(0, _), (2, _), (3, _), (5, _), (6, _), (8, _), (9, _), (12, _), (15, _), (24, _), (34, _), (35, _), (37, _)]) rfl ?_
                refine C.ret ?_
                exact ⟨_, rfl, rfl⟩
      ·
        refine E.relist (L2 := [_]) rfl ?_
        obtain ⟨ea1, en1, ec1, rfl, hn1, hr1⟩ := exOut_rb (K := K) hO
        subst hn1
        refine E.pure (S.move rfl) rfl ?_
        refine E.pure (S.extract rfl rfl) rfl ?_
        refine E.pure (S.extract rfl rfl) rfl ?_
        refine E.pure (S.extract rfl rfl) rfl ?_
        refine E.loud1 (X.alloc Tryd.zeroValue27) rfl ?_; rintro _ _ ⟨b3, rfl, rfl⟩; refine E.relist (L2 := [_, _]) rfl ?_
        refine E.loud0 (X.storeA 0 (k := 0) rfl rfl rfl rfl rfl rfl Tryd.sizeOf27 rfl) ?_; rintro _ _ ⟨rfl, rfl⟩; refine E.relist (L2 := [_, _]) rfl ?_
        refine E.pure (S.assign rfl) rfl ?_
        refine E.pure (S.assign rfl) rfl ?_
        refine E.keep [0, 2, 3, 5, 12, 15] (env1 := [(0, _), (2, _), (3, _), (5, _), (12, _), (15, _)]) rfl ?_
        refine C.seq ?_
        refine C.seq ?_
        refine C.region ?_
        refine E.pure (S.move rfl) rfl ?_
        refine E.pure (S.lenSl rfl Tryd.underlying22) rfl ?_
        refine E.pure (S.eq (b := ((0 : Nat) : Int)) rfl rfl) rfl ?_
        refine E.keep [0, 2, 3, 5, 12, 15, 24] (env1 := [(0, _), (2, _), (3, _), (5, _), (12, _), (15, _), (24, _)]) rfl ?_
        first | refine C.ifp rfl (fun h24 => ?_) (fun h24 => ?_) | refine C.cond rfl (fun h24 => ?_) (fun h24 => ?_)
        ·
          have hb0 : b = [] := List.eq_nil_of_length_eq_zero (by omega)
          rw [hb0] at hno
          exact absurd hno (by decide)
        ·
          refine C.skip ?_
          refine C.seq ?_
          refine C.region ?_
          refine E.pure (S.move rfl) rfl ?_
          refine E.loud1 (OpX.pick [] (F := [_, _]) rfl (X.call rfl Tryd.call9 (start_spec2 db o cap b hp (by omega) hcap))) rfl ?_; rintro _ _ ⟨_, ⟨xa, xn, xc, g, hX, rfl, rfl⟩, rfl⟩; refine E.relist (L2 := [_, _, _]) rfl ?_
          obtain ⟨hn2, hr2⟩ := exSp_rb (K := K) hX
          subst hn2
          refine E.pure (S.move rfl) rfl ?_
          refine E.pure (S.extract rfl rfl) rfl ?_
          refine E.pure (S.extract rfl rfl) rfl ?_
          refine E.pure (S.extract rfl rfl) rfl ?_
          refine E.pure (S.extract rfl rfl) rfl ?_
          refine E.loud1 (X.alloc Tryd.zeroValue24) rfl ?_; rintro _ _ ⟨b6, rfl, rfl⟩; refine E.relist (L2 := [_, _, _, _]) rfl ?_
          refine E.loud0 (X.storeA 0 (k := 0) rfl rfl rfl rfl rfl rfl Tryd.sizeOf24 rfl) ?_; rintro _ _ ⟨rfl, rfl⟩; refine E.relist (L2 := [_, _, _, _]) rfl ?_
          refine E.pure (S.assign rfl) rfl ?_
          refine E.pure (S.assign rfl) rfl ?_
          refine E.pure (S.assign rfl) rfl ?_
          refine E.keep [0, 2, 3, 5, 6, 8, 9, 12, 15, 24] (env1 := [(0, _), (2, _), (3, _), (5, _), (6, _), (8, _), (9, _), (12, _), (15, _), (24, _)]) rfl ?_
          refine C.seq ?_
          refine C.seq ?_
          refine C.region ?_
          refine E.pure (S.move rfl) rfl ?_
          refine E.keep [0, 2, 3, 5, 6, 8, 9, 12, 15, 24, 34] (env1 := [(0, _), (2, _), (3, _), (5, _), (6, _), (8, _), (9, _), (12, _), (15, _), (24, _), (34, _)]) rfl ?_
          refine C.block ?_
          refine C.seq ?_
          refine C.region ?_
          refine E.pure (S.eq (b := ((2 : Nat) : Int)) rfl rfl) rfl ?_
          refine E.pure (S.assign rfl) rfl ?_
          refine E.keep [0, 2, 3, 5, 6, 8, 9, 12, 15, 24, 34, 35] (env1 := [(0, _), (2, _), (3, _), (5, _), (6, _), (8, _), (9, _), (12, _), (15, _), (24, _), (34, _), (35, _)]) rfl ?_
          first | refine C.ifp rfl (fun h35 => ?_) (fun h35 => ?_) | refine C.cond rfl (fun h35 => ?_) (fun h35 => ?_)
          ·
            refine C.seq ?_
            refine C.region ?_
            refine E.pure (S.assign rfl) rfl ?_
            refine E.keep [0, 2, 3, 5, 6, 8, 9, 12, 15, 24, 34, 35] (env1 := [(0, _), (2, _), (3, _), (5, _), (6, _), (8, _), (9, _), (12, _), (15, _), (24, _), (34, _), (35, _)]) rfl ?_
            refine C.ret ?_
            exact ⟨_, rfl, rfl⟩
          ·
            refine C.seq ?_
            refine C.region ?_
            refine E.pure (S.eq (b := ((0 : Nat) : Int)) rfl rfl) rfl ?_
            refine E.pure (S.assign rfl) rfl ?_
            refine E.keep [0, 2, 3, 5, 6, 8, 9, 12, 15, 24, 34, 35, 37] (env1 := [(0, _), (2, _), (3, _), (5, _), (6, _), (8, _), (9, _), (12, _), (15, _), (24, _), (34, _), (35, _), (37, _)]) rfl ?_
            first | refine C.ifp rfl (fun h37 => ?_) (fun h37 => ?_) | refine C.cond rfl (fun h37 => ?_) (fun h37 => ?_)
            ·
              have hgd := good_of b (by omega)
              refine C.seq ?_
              refine C.region ?_
              refine E.pure (S.move rfl) rfl ?_
              refine E.pure (S.eq (b := ((0 : Nat) : Int)) rfl rfl) rfl ?_
              refine E.reslot (v := .bool true) (congrArg Value.bool (by decide)) ?_
              refine E.pure (S.move rfl) rfl ?_
              refine E.wanted 41 rfl rfl ?_
              refine E.still (S.loadA 2 (k := 0) rfl rfl rfl rfl Tryd.isAgg27 Tryd.sizeOf27) rfl ?_
              refine E.wanted 41 rfl rfl ?_
              refine E.still (S.loadA 0 (k := 0) rfl rfl rfl rfl Tryd.isAgg24 Tryd.sizeOf24) rfl ?_
              refine E.wanted 41 rfl rfl ?_
              refine E.loud1 (X.call rfl Tryd.call11 (same_spec _ _ _ _ _ _ _ _ _ _ _ _ _ _ (hr1 _ (by simp)) (hr2 _ (by simp)))) rfl ?_; rintro _ _ ⟨rfl, rfl⟩; refine E.relist (L2 := [_, _, _, _]) rfl ?_
              refine E.reslot (v := .bool true) (congrArg Value.bool (decide_eq_true (by rw [hgd.2.2.2]; exact ⟨rfl, rfl, rfl, rfl, rfl⟩))) ?_
              refine E.pure (S.pickT rfl rfl) rfl ?_
              refine E.pure (S.assign rfl) rfl ?_
              refine E.keep [0, 2, 3, 5, 6, 8, 9, 12, 15, 24, 34, 35, 37] (env1 := [(0, _), (2, _), (3, _), (5, _), (6, _), (8, _), (9, _), (12, _), (15, _), (24, _), (34, _), (35, _), (37, _)]) rfl ?_
              refine C.ret ?_
              exact ⟨_, rfl, rfl⟩
            ·
              have hbd := bad_of b (by omega) (by omega)
              exact absurd hno hbd.1
theorem open_noByte {K : Known} {ea : Fin 5 → Addr} {f : FuncId} {args : Array Value} {P : Program} (h : Fn P K f args [] (OpenRes ea [])) :
    Fn P K f args [] (fun r L => r = .tuple #[.agg #[.string ⟨#[]⟩, .string ⟨#[]⟩, .slice none 0 0, .int .i64 0, .int .u8 0], .int .i64 (((readHead []).2.1.length : Nat) : Int), .int .i64 1] ∧ L = []) := by
  refine Fn.mono (openRes2 h) ?_
  rintro r L (⟨_, rfl, rfl⟩ | ⟨h1, _⟩)
  · exact ⟨rfl, rfl⟩
  · exact absurd h1 (by decide)

theorem law2_none {K : Known} {ea : Fin 5 → Addr} (hs : Sents K ea) : Fn Tryd.prog K 4 #[.slice none 0 0] [] (fun r L => r = .bool true) := by
  refine Fn.intro (args := [.slice none 0 0]) (RR := Ret1 2 _) Tryd.func4 rfl rfl Tryd.ntmps4 (res1 Tryd.results4) ?_
  refine C.reenv (env2 := [(0, .slice none 0 0)]) rfl ?_
  refine C.seq ?_
  refine C.region ?_
  refine E.pure (S.assign rfl) rfl ?_
  refine E.keep [0, 2] (env1 := [(0, _), (2, _)]) rfl ?_
  refine C.seq ?_
  refine C.seq ?_
  refine C.region ?_
  refine E.pure (S.move rfl) rfl ?_
  refine E.pure (S.lenSl rfl Tryd.underlying22) rfl ?_
  refine E.pure (S.gt (b := ((2147483647 : Nat) : Int)) rfl rfl) rfl ?_
  refine E.reslot (v := .bool false) (congrArg Value.bool (by decide)) ?_
  refine E.keep [0, 2, 12] (env1 := [(0, _), (2, _), (12, _)]) rfl ?_
  refine C.no rfl (rfl) ?_
  refine C.skip ?_
  refine C.seq ?_
  refine C.seq ?_
  refine C.region ?_
  refine E.pure (S.move rfl) rfl ?_
  refine E.pure (S.lenSl rfl Tryd.underlying22) rfl ?_
  refine E.pure (S.gt (b := ((262144 : Nat) : Int)) rfl rfl) rfl ?_
  refine E.reslot (v := .bool false) (congrArg Value.bool (by decide)) ?_
  refine E.keep [0, 2, 12, 15] (env1 := [(0, _), (2, _), (12, _), (15, _)]) rfl ?_
  refine C.no rfl (rfl) ?_
  refine C.skip ?_
  refine C.seq ?_
  refine C.region ?_
  refine E.pure (S.move rfl) rfl ?_
  refine E.loud1 (OpX.pick [] (F := []) rfl (X.call rfl Tryd.call10 (open_noByte (open_nil hs [] rfl)))) rfl ?_; rintro _ _ ⟨_, ⟨rfl, rfl⟩, rfl⟩; refine E.relist (L2 := []) rfl ?_
  refine E.pure (S.move rfl) rfl ?_
  refine E.pure (S.extract rfl rfl) rfl ?_
  refine E.pure (S.extract rfl rfl) rfl ?_
  refine E.pure (S.extract rfl rfl) rfl ?_
  refine E.loud1 (X.alloc Tryd.zeroValue27) rfl ?_; rintro _ _ ⟨b3, rfl, rfl⟩; refine E.relist (L2 := [_]) rfl ?_
  refine E.loud0 (X.storeA 0 (k := 0) rfl rfl rfl rfl rfl rfl Tryd.sizeOf27 rfl) ?_; rintro _ _ ⟨rfl, rfl⟩; refine E.relist (L2 := [_]) rfl ?_
  refine E.pure (S.assign rfl) rfl ?_
  refine E.pure (S.assign rfl) rfl ?_
  refine E.keep [0, 2, 3, 5, 12, 15] (env1 := [(0, _), (2, _), (3, _), (5, _), (12, _), (15, _)]) rfl ?_
  refine C.seq ?_
  refine C.seq ?_
  refine C.region ?_
  refine E.pure (S.move rfl) rfl ?_
  refine E.pure (S.lenSl rfl Tryd.underlying22) rfl ?_
  refine E.pure (S.eq (b := ((0 : Nat) : Int)) rfl rfl) rfl ?_
  refine E.reslot (v := .bool true) (congrArg Value.bool (by decide)) ?_
  refine E.keep [0, 2, 3, 5, 12, 15, 24] (env1 := [(0, _), (2, _), (3, _), (5, _), (12, _), (15, _), (24, _)]) rfl ?_
  refine C.yes rfl (rfl) ?_
  refine C.seq ?_
  refine C.region ?_
  refine E.pure (S.move rfl) rfl ?_
  refine E.pure (S.eq (b := ((1 : Nat) : Int)) rfl rfl) rfl ?_
  refine E.reslot (v := .bool true) (congrArg Value.bool (by decide)) ?_
  refine E.pure (S.assign rfl) rfl ?_
  refine E.keep [0, 2, 3, 5, 12, 15, 24] (env1 := [(0, _), (2, _), (3, _), (5, _), (12, _), (15, _), (24, _)]) rfl ?_
  refine C.ret ?_
  exact ⟨_, rfl, rfl⟩
theorem law2_empty {K : Known} {ea : Fin 5 → Addr} (hs : Sents K ea) (a : Addr) (c : Nat) : Fn Tryd.prog K 4 #[.slice (some a) 0 c] [] (fun r L => r = .bool true) := by
  refine Fn.intro (args := [.slice (some a) 0 c]) (RR := Ret1 2 _) Tryd.func4 rfl rfl Tryd.ntmps4 (res1 Tryd.results4) ?_
  refine C.reenv (env2 := [(0, .slice (some a) 0 c)]) rfl ?_
  refine C.seq ?_
  refine C.region ?_
  refine E.pure (S.assign rfl) rfl ?_
  refine E.keep [0, 2] (env1 := [(0, _), (2, _)]) rfl ?_
  refine C.seq ?_
  refine C.seq ?_
  refine C.region ?_
  refine E.pure (S.move rfl) rfl ?_
  refine E.pure (S.lenSl rfl Tryd.underlying22) rfl ?_
  refine E.pure (S.gt (b := ((2147483647 : Nat) : Int)) rfl rfl) rfl ?_
  refine E.reslot (v := .bool false) (congrArg Value.bool (by decide)) ?_
  refine E.keep [0, 2, 12] (env1 := [(0, _), (2, _), (12, _)]) rfl ?_
  refine C.no rfl (rfl) ?_
  refine C.skip ?_
  refine C.seq ?_
  refine C.seq ?_
  refine C.region ?_
  refine E.pure (S.move rfl) rfl ?_
  refine E.pure (S.lenSl rfl Tryd.underlying22) rfl ?_
  refine E.pure (S.gt (b := ((262144 : Nat) : Int)) rfl rfl) rfl ?_
  refine E.reslot (v := .bool false) (congrArg Value.bool (by decide)) ?_
  refine E.keep [0, 2, 12, 15] (env1 := [(0, _), (2, _), (12, _), (15, _)]) rfl ?_
  refine C.no rfl (rfl) ?_
  refine C.skip ?_
  refine C.seq ?_
  refine C.region ?_
  refine E.pure (S.move rfl) rfl ?_
  refine E.loud1 (OpX.pick [] (F := []) rfl (X.call rfl Tryd.call10 (open_noByte (open_empty hs a c)))) rfl ?_; rintro _ _ ⟨_, ⟨rfl, rfl⟩, rfl⟩; refine E.relist (L2 := []) rfl ?_
  refine E.pure (S.move rfl) rfl ?_
  refine E.pure (S.extract rfl rfl) rfl ?_
  refine E.pure (S.extract rfl rfl) rfl ?_
  refine E.pure (S.extract rfl rfl) rfl ?_
  refine E.loud1 (X.alloc Tryd.zeroValue27) rfl ?_; rintro _ _ ⟨b3, rfl, rfl⟩; refine E.relist (L2 := [_]) rfl ?_
  refine E.loud0 (X.storeA 0 (k := 0) rfl rfl rfl rfl rfl rfl Tryd.sizeOf27 rfl) ?_; rintro _ _ ⟨rfl, rfl⟩; refine E.relist (L2 := [_]) rfl ?_
  refine E.pure (S.assign rfl) rfl ?_
  refine E.pure (S.assign rfl) rfl ?_
  refine E.keep [0, 2, 3, 5, 12, 15] (env1 := [(0, _), (2, _), (3, _), (5, _), (12, _), (15, _)]) rfl ?_
  refine C.seq ?_
  refine C.seq ?_
  refine C.region ?_
  refine E.pure (S.move rfl) rfl ?_
  refine E.pure (S.lenSl rfl Tryd.underlying22) rfl ?_
  refine E.pure (S.eq (b := ((0 : Nat) : Int)) rfl rfl) rfl ?_
  refine E.reslot (v := .bool true) (congrArg Value.bool (by decide)) ?_
  refine E.keep [0, 2, 3, 5, 12, 15, 24] (env1 := [(0, _), (2, _), (3, _), (5, _), (12, _), (15, _), (24, _)]) rfl ?_
  refine C.yes rfl (rfl) ?_
  refine C.seq ?_
  refine C.region ?_
  refine E.pure (S.move rfl) rfl ?_
  refine E.pure (S.eq (b := ((1 : Nat) : Int)) rfl rfl) rfl ?_
  refine E.reslot (v := .bool true) (congrArg Value.bool (by decide)) ?_
  refine E.pure (S.assign rfl) rfl ?_
  refine E.keep [0, 2, 3, 5, 12, 15, 24] (env1 := [(0, _), (2, _), (3, _), (5, _), (12, _), (15, _), (24, _)]) rfl ?_
  refine C.ret ?_
  exact ⟨_, rfl, rfl⟩
end Go.Eng
