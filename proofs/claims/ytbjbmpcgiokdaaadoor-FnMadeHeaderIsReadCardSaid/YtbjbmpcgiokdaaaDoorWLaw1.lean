/-
  Walk of the law FnHeaderTakesItsBytes.
-/
import Derived.Test.YtbjbmpcgiokdaaaDoorWLaw0
set_option linter.unusedVariables false
set_option linter.unusedSimpArgs false
namespace Go.Eng
open Go Go.Proofs
set_option maxRecDepth 100000

theorem start_spec2 {K : Known} (pb po cap : Nat) (b : List UInt8) (hp : KB K pb po b) (hl : b.length ≤ 4294967296) (hcap : b.length ≤ cap) : Fn Tryd.prog K 9 #[.slice (some ⟨pb, po, none⟩) (b.length) (cap)] []
    (fun r L => ∃ xa xn xc g, ExSp (spStart b).1.extra (.slice xa xn xc) g ∧ L = [g] ∧ r = .tuple #[.agg #[.string (spStart b).1.name, .string (spStart b).1.comment, .slice xa xn xc, .int .i64 (((spStart b).1.mod : Nat) : Int), .int .u8 (((spStart b).1.os : Nat) : Int)], .int .i64 (((spStart b).2.1 : Nat) : Int), .int .i64 (((spStart b).2.2.1 : Nat) : Int), .int .i64 (((spStart b).2.2.2 : Nat) : Int)]) := by
  refine Fn.lose (start_spec pb po cap b hp hl hcap) ?_
  rintro r L ⟨xa, xn, xc, g, h1, h2, rfl⟩
  obtain ⟨A', B', rfl⟩ := List.append_of_mem h2
  exact ⟨[g], A' ++ B', Same.perm List.perm_middle, xa, xn, xc, g, h1, rfl, rfl⟩

/-- What Open tells, with the fragment of the extra field alone. -/
def OpenRes2 (data : List UInt8) (r : Value) (L : Frags) : Prop :=
  ((readHead data).1 ≠ .none ∧ r = .tuple #[.agg #[.string ⟨#[]⟩, .string ⟨#[]⟩, .slice none 0 0, .int .i64 0, .int .u8 0], .int .i64 (((readHead data).2.1.length : Nat) : Int), .int .i64 ((kindOf (readHead data).1 : Nat) : Int)] ∧ L = []) ∨
  ((readHead data).1 = .none ∧ ∃ v g, ExOut (readHead data).2.2.extra v g ∧ L = [g] ∧ r = .tuple #[.agg #[.string (readHead data).2.2.name, .string (readHead data).2.2.comment, v, .int .i64 (((readHead data).2.2.mod : Nat) : Int), .int .u8 (((readHead data).2.2.os : Nat) : Int)], .int .i64 (((readHead data).2.1.length : Nat) : Int), .int .i64 0])

theorem openRes2 {P : Program} {K : Known} {ea : Fin 5 → Addr} {f : FuncId} {args : Array Value} {data : List UInt8} (h : Fn P K f args [] (OpenRes ea data)) : Fn P K f args [] (OpenRes2 data) := by
  refine Fn.lose h ?_
  rintro r L (⟨h1, rfl⟩ | ⟨h1, v, g, h2, h3, rfl⟩)
  · exact ⟨[], L, Same.refl _, .inl ⟨h1, rfl, rfl⟩⟩
  · obtain ⟨A', B', rfl⟩ := List.append_of_mem h3
    exact ⟨[g], A' ++ B', Same.perm List.perm_middle, .inr ⟨h1, v, g, h2, rfl, rfl⟩⟩

theorem exSp_one {ex : Option (List UInt8)} {a : Option Addr} {n c : Nat} {g : Frag} (h : ExSp ex (.slice a n c) g) : one (.slice a n c) = true := rfl
theorem good_of (b : List UInt8) (h : (spStart b).2.2.1 = 0) : (readHead b).1 = .none ∧ (readHead b).2.1 = b.drop (spStart b).2.1 ∧ (spStart b).2.1 ≤ b.length ∧ (readHead b).2.2 = (spStart b).1 := by
  rcases agrees b with h1 | ⟨_, h2, h3, h4, h5⟩ | ⟨h1, _⟩
  · omega
  · exact ⟨h2, h3, h4, h5⟩
  · omega

theorem open_good {K : Known} {ea : Fin 5 → Addr} {f : FuncId} {args : Array Value} {P : Program} {b : List UInt8} (h : Fn P K f args [] (OpenRes ea b)) (hg : (readHead b).1 = .none) :
    Fn P K f args [] (fun r L => ∃ v g, ExOut (readHead b).2.2.extra v g ∧ L = [g] ∧ r = .tuple #[.agg #[.string (readHead b).2.2.name, .string (readHead b).2.2.comment, v, .int .i64 (((readHead b).2.2.mod : Nat) : Int), .int .u8 (((readHead b).2.2.os : Nat) : Int)], .int .i64 (((readHead b).2.1.length : Nat) : Int), .int .i64 0]) :=
  Fn.mono (openRes2 h) fun r L h => (h.resolve_left fun x => x.1 hg).2

theorem law1_some {K : Known} {ea : Fin 5 → Addr} (hs : Sents K ea) (db o cap : Nat) (b : List UInt8) (hp : KB K db o b) (hcap : b.length ≤ cap) : Fn Tryd.prog K 3 #[.slice (some ⟨db, o, none⟩) (b.length) (cap)] [] (fun r L => r = .bool true) := by
  refine Fn.intro (args := [.slice (some ⟨db, o, none⟩) (b.length) (cap)]) (RR := Ret1 2 _) Tryd.func3 rfl rfl Tryd.ntmps3 (res1 Tryd.results3) ?_
  refine C.reenv (env2 := [(0, .slice (some ⟨db, o, none⟩) (b.length) (cap))]) rfl ?_
  refine C.seq ?_
  refine C.region ?_
  refine E.pure (S.assign rfl) rfl ?_
  refine E.keep [0, 2] (env1 := [(0, _), (2, _)]) rfl ?_
  refine C.seq ?_
  refine C.seq ?_
  refine C.region ?_
  refine E.pure (S.move rfl) rfl ?_
  refine E.pure (S.lenSl rfl Tryd.underlying22) rfl ?_
  refine E.pure (S.gt (b := ((2147483647 : Nat) : Int)) rfl rfl) rfl ?_
  refine E.keep [0, 2, 12] (env1 := [(0, _), (2, _), (12, _)]) rfl ?_
  first | refine C.ifp rfl (fun h12 => ?_) (fun h12 => ?_) | refine C.cond rfl (fun h12 => ?_) (fun h12 => ?_)
  ·
    refine C.seq ?_
    refine C.region ?_
    refine E.pure (S.assign rfl) rfl ?_
    refine E.keep [0, 2, 12] (env1 := [(0, _), (2, _), (12, _)]) rfl ?_
    refine C.ret ?_
    exact ⟨_, rfl, rfl⟩
  ·
    refine C.skip ?_
    refine C.seq ?_
    refine C.seq ?_
    refine C.region ?_
    refine E.pure (S.move rfl) rfl ?_
    refine E.pure (S.lenSl rfl Tryd.underlying22) rfl ?_
    refine E.pure (S.gt (b := ((262144 : Nat) : Int)) rfl rfl) rfl ?_
    refine E.keep [0, 2, 12, 15] (env1 := [(0, _), (2, _), (12, _), (15, _)]) rfl ?_
    first | refine C.ifp rfl (fun h15 => ?_) (fun h15 => ?_) | refine C.cond rfl (fun h15 => ?_) (fun h15 => ?_)
    ·
      refine C.seq ?_
      refine C.region ?_
      refine E.pure (S.assign rfl) rfl ?_
      refine E.keep [0, 2, 12, 15] (env1 := [(0, _), (2, _), (12, _), (15, _)]) rfl ?_
      refine C.ret ?_
      exact ⟨_, rfl, rfl⟩
    ·
      refine C.skip ?_
      refine C.seq ?_
      refine C.region ?_
      refine E.pure (S.move rfl) rfl ?_
      refine E.loud1 (OpX.pick [] (F := []) rfl (X.call rfl Tryd.call9 (start_spec2 db o cap b hp (by omega) hcap))) rfl ?_; rintro _ _ ⟨_, ⟨xa, xn, xc, g, hX, rfl, rfl⟩, rfl⟩; refine E.relist (L2 := [_]) rfl ?_
      refine E.pure (S.move rfl) rfl ?_
      refine E.pure (S.extract rfl rfl) rfl ?_
      refine E.pure (S.extract rfl rfl) rfl ?_
      refine E.pure (S.extract rfl rfl) rfl ?_
      refine E.pure (S.extract rfl rfl) rfl ?_
      refine E.loud1 (X.alloc Tryd.zeroValue24) rfl ?_; rintro _ _ ⟨b3, rfl, rfl⟩; refine E.relist (L2 := [_, _]) rfl ?_
      refine E.loud0 (X.storeA 0 (k := 0) rfl rfl rfl rfl rfl rfl Tryd.sizeOf24 rfl) ?_; rintro _ _ ⟨rfl, rfl⟩; refine E.relist (L2 := [_, _]) rfl ?_
      refine E.pure (S.assign rfl) rfl ?_
      refine E.pure (S.assign rfl) rfl ?_
      refine E.pure (S.assign rfl) rfl ?_
      refine E.keep [0, 2, 4, 5, 12, 15] (env1 := [(0, _), (2, _), (4, _), (5, _), (12, _), (15, _)]) rfl ?_
      refine C.seq ?_
      refine C.seq ?_
      refine C.region ?_
      refine E.pure (S.move rfl) rfl ?_
      refine E.pure (S.ne (b := ((0 : Nat) : Int)) rfl rfl) rfl ?_
      refine E.keep [0, 2, 4, 5, 12, 15, 24] (env1 := [(0, _), (2, _), (4, _), (5, _), (12, _), (15, _), (24, _)]) rfl ?_
      first | refine C.ifp rfl (fun h24 => ?_) (fun h24 => ?_) | refine C.cond rfl (fun h24 => ?_) (fun h24 => ?_)
      ·
        refine C.seq ?_
        refine C.region ?_
        refine E.pure (S.assign rfl) rfl ?_
        refine E.keep [0, 2, 4, 5, 12, 15, 24] (env1 := [(0, _), (2, _), (4, _), (5, _), (12, _), (15, _), (24, _)]) rfl ?_
        refine C.ret ?_
        exact ⟨_, rfl, rfl⟩
      ·
        have hgd := good_of b (by omega)
        have hlen : (readHead b).2.1.length = b.length - (spStart b).2.1 := by rw [hgd.2.1, List.length_drop]
        have hle := hgd.2.2.1
        refine C.skip ?_
        refine C.seq ?_
        refine C.region ?_
        refine E.pure (S.move rfl) rfl ?_
        refine E.loud1 (OpX.pick [] (F := [_, _]) rfl (X.call rfl Tryd.call10 (open_good (open_some hs db o cap b hp (by omega)) hgd.1))) rfl ?_; rintro _ _ ⟨_, ⟨v, g2, hO, rfl, rfl⟩, rfl⟩; refine E.relist (L2 := [_, _, _]) rfl ?_
        refine E.pure (S.move rfl) rfl ?_
        refine E.pure (S.extract rfl rfl) rfl ?_
        refine E.pure (S.extract rfl rfl) rfl ?_
        refine E.pure (S.extract rfl rfl) rfl ?_
        refine E.loud1 (X.alloc Tryd.zeroValue27) rfl ?_; rintro _ _ ⟨b7, rfl, rfl⟩; refine E.relist (L2 := [_, _, _, _]) rfl ?_
        refine E.loud0 (X.storeA 0 (k := 0) rfl rfl rfl (by simp only [List.all_cons, List.all_nil, exOut_one hO]; rfl) rfl rfl Tryd.sizeOf27 rfl) ?_; rintro _ _ ⟨rfl, rfl⟩; refine E.relist (L2 := [_, _, _, _]) rfl ?_
        refine E.pure (S.assign rfl) rfl ?_
        refine E.pure (S.assign rfl) rfl ?_
        refine E.keep [0, 2, 4, 5, 8, 9, 12, 15, 24] (env1 := [(0, _), (2, _), (4, _), (5, _), (8, _), (9, _), (12, _), (15, _), (24, _)]) rfl ?_
        refine C.seq ?_
        refine C.region ?_
        refine E.pure (S.move rfl) rfl ?_
        refine E.pure (S.eq (b := ((0 : Nat) : Int)) rfl rfl) rfl ?_
        refine E.reslot (v := .bool true) (congrArg Value.bool (by decide)) ?_
        refine E.pure (S.move rfl) rfl ?_
        refine E.wanted 33 rfl rfl ?_
        refine E.pure (S.move rfl) rfl ?_
        refine E.wanted 33 rfl rfl ?_
        refine E.pure (S.move rfl) rfl ?_
        refine E.wanted 33 rfl rfl ?_
        refine E.pure (S.lenSl rfl Tryd.underlying22) rfl ?_
        refine E.wanted 33 rfl rfl ?_
        refine E.pure (S.move rfl) rfl ?_
        refine E.wanted 33 rfl rfl ?_
        first | refine E.pure (S.sub rfl rfl (N.sub64 (by omega) (by omega))) rfl ?_ | refine E.pure (S.sub rfl rfl (N.subZ (by omega))) rfl ?_
        refine E.wanted 33 rfl rfl ?_
        refine E.pure (S.eq rfl rfl) rfl ?_
        refine E.reslot (v := .bool true) (congrArg Value.bool (decide_eq_true (by rw [hlen]))) ?_
        refine E.pure (S.pickT rfl rfl) rfl ?_
        refine E.pure (S.assign rfl) rfl ?_
        refine E.keep [0, 2, 4, 5, 8, 9, 12, 15, 24] (env1 := [(0, _), (2, _), (4, _), (5, _), (8, _), (9, _), (12, _), (15, _), (24, _)]) rfl ?_
        refine C.ret ?_
        exact ⟨_, rfl, rfl⟩
theorem start_nil {K : Known} (a : Option Addr) (c : Nat) : Fn Tryd.prog K 9 #[.slice a 0 c] [] (fun r L => ∃ g, L = [g] ∧ r = .tuple #[.agg #[.string ⟨#[]⟩, .string ⟨#[]⟩, .slice none 0 0, .int .i64 0, .int .u8 0], .int .i64 0, .int .i64 1, .int .i64 0]) := by
  refine Fn.intro (args := [.slice a 0 c]) (RR := RetC3 2 5 3 4 5 _) Tryd.func9 rfl rfl Tryd.ntmps9 (resC3 Tryd.results9 Tryd.isAgg24 Tryd.sizeOf24) ?_
  refine C.reenv (env2 := [(0, .slice a 0 c)]) rfl ?_
  refine C.seq ?_
  refine C.region ?_
  refine E.loud1 (X.alloc Tryd.zeroValue24) rfl ?_; rintro _ _ ⟨b2, rfl, rfl⟩; refine E.relist (L2 := [_]) rfl ?_
  refine E.pure (S.assign rfl) rfl ?_
  refine E.pure (S.assign rfl) rfl ?_
  refine E.pure (S.assign rfl) rfl ?_
  refine E.keep [0, 2, 3, 4, 5] (env1 := [(0, _), (2, _), (3, _), (4, _), (5, _)]) rfl ?_
  refine C.seq ?_
  refine C.seq ?_
  refine C.region ?_
  refine E.pure (S.move rfl) rfl ?_
  refine E.pure (S.lenSl rfl Tryd.underlying22) rfl ?_
  refine E.pure (S.lt (b := ((10 : Nat) : Int)) rfl rfl) rfl ?_
  refine E.reslot (v := .bool true) (congrArg Value.bool (by decide)) ?_
  refine E.keep [0, 2, 3, 4, 5, 13] (env1 := [(0, _), (2, _), (3, _), (4, _), (5, _), (13, _)]) rfl ?_
  refine C.yes rfl (rfl) ?_
  refine C.seq ?_
  refine C.region ?_
  refine E.still (S.loadA 0 (k := 0) rfl rfl rfl rfl Tryd.isAgg24 Tryd.sizeOf24) rfl ?_
  refine E.loud0 (X.storeA 0 (k := 0) rfl rfl rfl rfl rfl rfl Tryd.sizeOf24 rfl) ?_; rintro _ _ ⟨rfl, rfl⟩; refine E.relist (L2 := [_]) rfl ?_
  refine E.pure (S.assign rfl) rfl ?_
  refine E.pure (S.assign rfl) rfl ?_
  refine E.pure (S.assign rfl) rfl ?_
  refine E.keep [0, 2, 3, 4, 5, 13] (env1 := [(0, _), (2, _), (3, _), (4, _), (5, _), (13, _)]) rfl ?_
  refine C.ret ?_
  exact ⟨_, _, _, _, ⟨_, _, 0, rfl, rfl, rfl⟩, rfl, rfl, rfl, _, rfl, rfl⟩
theorem law1_nil {K : Known} (a : Option Addr) (c : Nat) : Fn Tryd.prog K 3 #[.slice a 0 c] [] (fun r L => r = .bool true) := by
  refine Fn.intro (args := [.slice a 0 c]) (RR := Ret1 2 _) Tryd.func3 rfl rfl Tryd.ntmps3 (res1 Tryd.results3) ?_
  refine C.reenv (env2 := [(0, .slice a 0 c)]) rfl ?_
  refine C.seq ?_
  refine C.region ?_
  refine E.pure (S.assign rfl) rfl ?_
  refine E.keep [0, 2] (env1 := [(0, _), (2, _)]) rfl ?_
  refine C.seq ?_
  refine C.seq ?_
  refine C.region ?_
  refine E.pure (S.move rfl) rfl ?_
  refine E.pure (S.lenSl rfl Tryd.underlying22) rfl ?_
  refine E.pure (S.gt (b := ((2147483647 : Nat) : Int)) rfl rfl) rfl ?_
  refine E.reslot (v := .bool false) (congrArg Value.bool (by decide)) ?_
  refine E.keep [0, 2, 12] (env1 := [(0, _), (2, _), (12, _)]) rfl ?_
  refine C.no rfl (rfl) ?_
  refine C.skip ?_
  refine C.seq ?_
  refine C.seq ?_
  refine C.region ?_
  refine E.pure (S.move rfl) rfl ?_
  refine E.pure (S.lenSl rfl Tryd.underlying22) rfl ?_
  refine E.pure (S.gt (b := ((262144 : Nat) : Int)) rfl rfl) rfl ?_
  refine E.reslot (v := .bool false) (congrArg Value.bool (by decide)) ?_
  refine E.keep [0, 2, 12, 15] (env1 := [(0, _), (2, _), (12, _), (15, _)]) rfl ?_
  refine C.no rfl (rfl) ?_
  refine C.skip ?_
  refine C.seq ?_
  refine C.region ?_
  refine E.pure (S.move rfl) rfl ?_
  refine E.loud1 (OpX.pick [] (F := []) rfl (X.call rfl Tryd.call9 (start_nil a c))) rfl ?_; rintro _ _ ⟨_, ⟨g, rfl, rfl⟩, rfl⟩; refine E.relist (L2 := [_]) rfl ?_
  refine E.pure (S.move rfl) rfl ?_
  refine E.pure (S.extract rfl rfl) rfl ?_
  refine E.pure (S.extract rfl rfl) rfl ?_
  refine E.pure (S.extract rfl rfl) rfl ?_
  refine E.pure (S.extract rfl rfl) rfl ?_
  refine E.loud1 (X.alloc Tryd.zeroValue24) rfl ?_; rintro _ _ ⟨b3, rfl, rfl⟩; refine E.relist (L2 := [_, _]) rfl ?_
  refine E.loud0 (X.storeA 0 (k := 0) rfl rfl rfl rfl rfl rfl Tryd.sizeOf24 rfl) ?_; rintro _ _ ⟨rfl, rfl⟩; refine E.relist (L2 := [_, _]) rfl ?_
  refine E.pure (S.assign rfl) rfl ?_
  refine E.pure (S.assign rfl) rfl ?_
  refine E.pure (S.assign rfl) rfl ?_
  refine E.keep [0, 2, 4, 5, 12, 15] (env1 := [(0, _), (2, _), (4, _), (5, _), (12, _), (15, _)]) rfl ?_
  refine C.seq ?_
  refine C.seq ?_
  refine C.region ?_
  refine E.pure (S.move rfl) rfl ?_
  refine E.pure (S.ne (b := ((0 : Nat) : Int)) rfl rfl) rfl ?_
  refine E.reslot (v := .bool true) (congrArg Value.bool (by decide)) ?_
  refine E.keep [0, 2, 4, 5, 12, 15, 24] (env1 := [(0, _), (2, _), (4, _), (5, _), (12, _), (15, _), (24, _)]) rfl ?_
  refine C.yes rfl (rfl) ?_
  refine C.seq ?_
  refine C.region ?_
  refine E.pure (S.assign rfl) rfl ?_
  refine E.keep [0, 2, 4, 5, 12, 15, 24] (env1 := [(0, _), (2, _), (4, _), (5, _), (12, _), (15, _), (24, _)]) rfl ?_
  refine C.ret ?_
  exact ⟨_, rfl, rfl⟩
end Go.Eng
