/-
  Walks of the reference: Text, number; of the size conditions zzFits1 to zzFits4.
-/
import Derived.Test.YtbjbmpcgiokdaaaDoorMade
set_option linter.unusedVariables false
set_option linter.unusedSimpArgs false
namespace Go.Eng
open Go Go.Proofs
set_option maxRecDepth 100000

theorem and_le_r (a b : Nat) : a &&& b ≤ b := Nat.and_le_right
theorem byteY {y : Nat} (h : y < 256) : bytesV [UInt8.ofNat y] = [.int .u8 ((y : Nat) : Int)] := by
  show [Value.int .u8 (((UInt8.ofNat y).toNat : Nat) : Int)] = _
  rw [UInt8.toNat_ofNat', Nat.mod_eq_of_lt h]
theorem map_snoc {l acc : List UInt8} {x : UInt8} {o : Option (List UInt8)} (h : textB l = (o.map (x :: ·)).map (acc ++ ·)) : textB l = o.map ((acc ++ [x]) ++ ·) := by
  rw [h]; cases o <;> simp
theorem or_256 {a b : Nat} (ha : a < 256) (hb : b < 256) : a ||| b < 256 := Nat.or_lt_two_pow (n := 8) ha hb

theorem text_walk {K : Known} (s : ByteArray) (l : List UInt8) (hg : ∀ i (h : i < l.length), s[i]? = some l[i]) (hs : s.size = l.length) (hl : l.length ≤ 140737488355327) : Fn Tryd.prog K 32 #[.string s] [] (fun r L => ∃ v Lf F, r = .tuple #[v, .bool (textB l).isSome] ∧ Sl 1 v ((textB l).getD []).length (bytesV ((textB l).getD [])) Lf ∧ L = Lf ++ F) := by
  refine Fn.intro (args := [.string s]) (RR := Ret2 2 3 _) Tryd.func32 rfl rfl Tryd.ntmps32 (res2 Tryd.results32) ?_
  refine C.reenv (env2 := [(0, .string s)]) rfl ?_
  refine C.seq ?_
  refine C.region ?_
  refine E.pure (S.assign rfl) rfl ?_
  refine E.pure (S.assign rfl) rfl ?_
  refine E.keep [0, 2, 3] (env1 := [(0, _), (2, _), (3, _)]) rfl ?_
  refine C.seq ?_
  refine C.region ?_
  refine E.pure (S.assign rfl) rfl ?_
  refine E.keep [0, 2, 3, 4] (env1 := [(0, _), (2, _), (3, _), (4, _)]) rfl ?_
  refine C.seq ?_
  refine C.seq ?_
  refine C.region ?_
  refine E.pure (S.assign rfl) rfl ?_
  refine E.keep [0, 2, 3, 4, 5] (env1 := [(0, _), (2, _), (3, _), (4, _), (5, _)]) rfl ?_
  refine C.block ?_
  refine C.loop (fun mm ee ll => ∃ (i : Nat), ∃ (acc : List UInt8), ∃ (v : Value), ∃ (Lf : Frags), keeps ee [0, 4, 5] = some [(0, .string s), (4, v), (5, .int .i64 ((i : Nat) : Int))] ∧ ll = Lf ∧ (i ≤ l.length) ∧ (textB l = (textB (l.drop i)).map (acc ++ ·)) ∧ (Sl 1 v acc.length (bytesV acc) Lf) ∧ (acc.length ≤ i) ∧ mm = l.length - i) (_) ⟨0, [], _, [], rfl, rfl, by omega, by simp, Sl.nil 1, by simp, rfl⟩ ?_
  rintro m0 _ Lf ⟨i, acc, v, _, hk0, rfl, hi, ha, hsl, hal, hm0⟩
  refine C.weaken _ hk0 ?_
  refine C.seq ?_
  refine C.seq ?_
  refine C.region ?_
  refine E.pure (S.move rfl) rfl ?_
  refine E.pure (S.move rfl) rfl ?_
  refine E.pure (S.lenStr rfl Tryd.underlying9) rfl ?_
  refine E.reslot (v := .int .i64 ((l.length : Nat) : Int)) (by rw [hs]) ?_
  refine E.pure (S.lt rfl rfl) rfl ?_
  refine E.keep [0, 4, 5, 10] (env1 := [(0, _), (4, _), (5, _), (10, _)]) rfl ?_
  first | refine C.ifp rfl (fun h10 => ?_) (fun h10 => ?_) | refine C.cond rfl (fun h10 => ?_) (fun h10 => ?_)
  ·
    have hi3 : i < l.length := by omega
    have hc8 := l[i].toNat_lt
    have hget := hg i hi3
    refine C.skip ?_
    refine C.seq ?_
    refine C.block ?_
    refine C.seq ?_
    refine C.region ?_
    refine E.pure (S.move rfl) rfl ?_
    refine E.pure (S.move rfl) rfl ?_
    refine E.pure (S.ixStr rfl rfl hget Tryd.underlying9) rfl ?_
    refine E.pure (S.assign rfl) rfl ?_
    refine E.keep [0, 4, 5, 6, 10] (env1 := [(0, _), (4, _), (5, _), (6, _), (10, _)]) rfl ?_
    refine C.cut (M := fun ee ll => ∃ (i2 : Nat), ∃ (y : Nat), ∃ (Lf : Frags), keeps ee [0, 4, 5, 6] = some [(0, .string s), (4, v), (5, .int .i64 ((i2 : Nat) : Int)), (6, .int .u8 ((y : Nat) : Int))] ∧ ll = Lf ∧ (y < 256) ∧ (i ≤ i2) ∧ (i2 < l.length) ∧ (textB (l.drop i) = if y = 0 then none else (textB (l.drop (i2 + 1))).map (UInt8.ofNat y :: ·)) ∧ (Sl 1 v acc.length (bytesV acc) Lf)) ?_ ?_
    ·
      refine C.seq ?_
      refine C.region ?_
      refine E.pure (S.move rfl) rfl ?_
      refine E.pure (S.ge (b := ((128 : Nat) : Int)) rfl rfl) rfl ?_
      refine E.keep [0, 4, 5, 6, 10, 17] (env1 := [(0, _), (4, _), (5, _), (6, _), (10, _), (17, _)]) rfl ?_
      first | refine C.ifp rfl (fun h17 => ?_) (fun h17 => ?_) | refine C.cond rfl (fun h17 => ?_) (fun h17 => ?_)
      ·
        have ha254 := and_le_r l[i].toNat 254
        refine C.seq ?_
        refine C.seq ?_
        refine C.region ?_
        refine E.pure (S.move rfl) rfl ?_
        refine E.pure (S.and (b := ((254 : Nat) : Int)) rfl rfl (N.and_u8 (by omega) (by omega))) rfl ?_
        refine E.pure (S.ne (b := ((194 : Nat) : Int)) rfl rfl) rfl ?_
        refine E.pure (S.move rfl) rfl ?_
        first | refine E.fork (fun g21 => ?_) (fun g21 => ?_) | refine E.forkB (fun g21 => ?_) (fun g21 => ?_)
        ·
          have hn : textB l = none := by rw [ha, textB_bad hi3 (by omega) (.inl (by omega))]; rfl
          refine E.guardNo 21 true rfl rfl rfl rfl ?_
          refine E.guardNo 21 true rfl rfl rfl rfl ?_
          refine E.guardNo 21 true rfl rfl rfl rfl ?_
          refine E.guardNo 21 true rfl rfl rfl rfl ?_
          refine E.guardNo 21 true rfl rfl rfl rfl ?_
          refine E.pure (S.pickT rfl rfl) rfl ?_
          refine E.pure (S.move rfl) rfl ?_
          refine E.guardNo 28 true rfl rfl rfl rfl ?_
          refine E.guardNo 28 true rfl rfl rfl rfl ?_
          refine E.guardNo 28 true rfl rfl rfl rfl ?_
          refine E.guardNo 28 true rfl rfl rfl rfl ?_
          refine E.guardNo 28 true rfl rfl rfl rfl ?_
          refine E.guardNo 28 true rfl rfl rfl rfl ?_
          refine E.pure (S.pickT rfl rfl) rfl ?_
          refine E.keep [0, 4, 5, 6, 10, 17, 35] (env1 := [(0, _), (4, _), (5, _), (6, _), (10, _), (17, _), (35, _)]) rfl ?_
          refine C.yes rfl (rfl) ?_
          refine C.seq ?_
          refine C.region ?_
          refine E.pure (S.assign rfl) rfl ?_
          refine E.pure (S.assign rfl) rfl ?_
          refine E.keep [0, 2, 3, 4, 5, 6, 10, 17, 35] (env1 := [(0, _), (2, _), (3, _), (4, _), (5, _), (6, _), (10, _), (17, _), (35, _)]) rfl ?_
          refine C.ret ?_
          refine ⟨_, _, rfl, rfl, _, [], Lf, by rw [hn]; rfl, by rw [hn]; exact Sl.nil 1, rfl⟩
        ·
          refine E.wanted 21 rfl rfl ?_
          refine E.pure (S.move rfl) rfl ?_
          refine E.wanted 21 rfl rfl ?_
          first | refine E.pure (S.add (b := ((1 : Nat) : Int)) rfl rfl (N.add64 (by omega))) rfl ?_ | refine E.pure (S.add (b := ((1 : Nat) : Int)) rfl rfl (N.addZ (by omega))) rfl ?_
          refine E.wanted 21 rfl rfl ?_
          refine E.pure (S.move rfl) rfl ?_
          refine E.wanted 21 rfl rfl ?_
          refine E.pure (S.lenStr rfl Tryd.underlying9) rfl ?_
          refine E.reslot (v := .int .i64 ((l.length : Nat) : Int)) (by rw [hs]) ?_
          refine E.wanted 21 rfl rfl ?_
          refine E.pure (S.eq rfl rfl) rfl ?_
          refine E.pure (S.pickF rfl rfl) rfl ?_
          refine E.pure (S.move rfl) rfl ?_
          first | refine E.fork (fun g28 => ?_) (fun g28 => ?_) | refine E.forkB (fun g28 => ?_) (fun g28 => ?_)
          ·
            have hn : textB l = none := by rw [ha, textB_bad hi3 (by omega) (.inr (.inl (by omega)))]; rfl
            refine E.guardNo 28 true rfl rfl rfl rfl ?_
            refine E.guardNo 28 true rfl rfl rfl rfl ?_
            refine E.guardNo 28 true rfl rfl rfl rfl ?_
            refine E.guardNo 28 true rfl rfl rfl rfl ?_
            refine E.guardNo 28 true rfl rfl rfl rfl ?_
            refine E.guardNo 28 true rfl rfl rfl rfl ?_
            refine E.pure (S.pickT rfl rfl) rfl ?_
            refine E.keep [0, 4, 5, 6, 10, 17, 35] (env1 := [(0, _), (4, _), (5, _), (6, _), (10, _), (17, _), (35, _)]) rfl ?_
            refine C.yes rfl (rfl) ?_
            refine C.seq ?_
            refine C.region ?_
            refine E.pure (S.assign rfl) rfl ?_
            refine E.pure (S.assign rfl) rfl ?_
            refine E.keep [0, 2, 3, 4, 5, 6, 10, 17, 35] (env1 := [(0, _), (2, _), (3, _), (4, _), (5, _), (6, _), (10, _), (17, _), (35, _)]) rfl ?_
            refine C.ret ?_
            refine ⟨_, _, rfl, rfl, _, [], Lf, by rw [hn]; rfl, by rw [hn]; exact Sl.nil 1, rfl⟩
          ·
            have hi4 : i + 1 < l.length := by omega
            have hd8 := l[i + 1].toNat_lt
            have hget2 := hg (i + 1) hi4
            have hd192 := and_le_r l[i + 1].toNat 192
            have hd63 := and_le_r l[i + 1].toNat 63
            refine E.wanted 28 rfl rfl ?_
            refine E.pure (S.move rfl) rfl ?_
            refine E.wanted 28 rfl rfl ?_
            refine E.pure (S.move rfl) rfl ?_
            refine E.wanted 28 rfl rfl ?_
            first | refine E.pure (S.add (b := ((1 : Nat) : Int)) rfl rfl (N.add64 (by omega))) rfl ?_ | refine E.pure (S.add (b := ((1 : Nat) : Int)) rfl rfl (N.addZ (by omega))) rfl ?_
            refine E.wanted 28 rfl rfl ?_
            refine E.pure (S.ixStr rfl rfl hget2 Tryd.underlying9) rfl ?_
            refine E.wanted 28 rfl rfl ?_
            refine E.pure (S.and (b := ((192 : Nat) : Int)) rfl rfl (N.and_u8 (by omega) (by omega))) rfl ?_
            refine E.wanted 28 rfl rfl ?_
            refine E.pure (S.ne (b := ((128 : Nat) : Int)) rfl rfl) rfl ?_
            refine E.pure (S.pickF rfl rfl) rfl ?_
            refine E.keep [0, 4, 5, 6, 10, 17, 35] (env1 := [(0, _), (4, _), (5, _), (6, _), (10, _), (17, _), (35, _)]) rfl ?_
            first | refine C.ifp rfl (fun h35 => ?_) (fun h35 => ?_) | refine C.cond rfl (fun h35 => ?_) (fun h35 => ?_)
            ·
              have hn : textB l = none := by rw [ha, textB_bad hi3 (by omega) (.inr (.inr ⟨hi4, by omega⟩))]; rfl
              refine C.seq ?_
              refine C.region ?_
              refine E.pure (S.assign rfl) rfl ?_
              refine E.pure (S.assign rfl) rfl ?_
              refine E.keep [0, 2, 3, 4, 5, 6, 10, 17, 35] (env1 := [(0, _), (2, _), (3, _), (4, _), (5, _), (6, _), (10, _), (17, _), (35, _)]) rfl ?_
              refine C.ret ?_
              refine ⟨_, _, rfl, rfl, _, [], Lf, by rw [hn]; rfl, by rw [hn]; exact Sl.nil 1, rfl⟩
            ·
              refine C.skip ?_
              refine C.seq ?_
              refine C.region ?_
              refine E.pure (S.move rfl) rfl ?_
              first | refine E.pure (S.add (b := ((1 : Nat) : Int)) rfl rfl (N.add64 (by omega))) rfl ?_ | refine E.pure (S.add (b := ((1 : Nat) : Int)) rfl rfl (N.addZ (by omega))) rfl ?_
              refine E.pure (S.assign rfl) rfl ?_
              refine E.keep [0, 4, 5, 6, 10, 17, 35] (env1 := [(0, _), (4, _), (5, _), (6, _), (10, _), (17, _), (35, _)]) rfl ?_
              refine C.region ?_
              refine E.pure (S.move rfl) rfl ?_
              refine E.pure (S.shl (b := ((6 : Nat) : Int)) rfl rfl (by omega) (N.shl_u8 _ _)) rfl ?_
              refine E.pure (S.move rfl) rfl ?_
              refine E.pure (S.move rfl) rfl ?_
              refine E.pure (S.ixStr rfl rfl hget2 Tryd.underlying9) rfl ?_
              refine E.pure (S.and (b := ((63 : Nat) : Int)) rfl rfl (N.and_u8 (by omega) (by omega))) rfl ?_
              refine E.pure (S.or rfl rfl (N.or_u8 (by omega) (by omega))) rfl ?_
              refine E.pure (S.assign rfl) rfl ?_
              refine E.keep [0, 4, 5, 6, 10, 17, 35] (env1 := [(0, _), (4, _), (5, _), (6, _), (10, _), (17, _), (35, _)]) rfl ?_
              first | exact ⟨i + 1, ((l[i].toNat <<< 6) % 256 ||| (l[i + 1].toNat &&& 63)), Lf, rfl, rfl, or_256 (by omega) (by omega), by omega, by omega, textB_big hi4 (by omega) (by omega) (by omega), hsl⟩ | exact ⟨i, l[i].toNat, Lf, rfl, rfl, by omega, by omega, by omega, by rw [textB_small hi3 (by omega)]; simp, hsl⟩
      ·
        refine C.skip ?_
        first | exact ⟨i + 1, ((l[i].toNat <<< 6) % 256 ||| (l[i + 1].toNat &&& 63)), Lf, rfl, rfl, or_256 (by omega) (by omega), by omega, by omega, textB_big hi4 (by omega) (by omega) (by omega), hsl⟩ | exact ⟨i, l[i].toNat, Lf, rfl, rfl, by omega, by omega, by omega, by rw [textB_small hi3 (by omega)]; simp, hsl⟩
    ·
      rintro _ Lf ⟨i2, y, _, hq11, rfl, hy, hii, hi2, hst, hsl⟩
      refine C.weaken _ hq11 ?_
      refine C.seq ?_
      refine C.seq ?_
      refine C.region ?_
      refine E.pure (S.move rfl) rfl ?_
      refine E.pure (S.eq (b := ((0 : Nat) : Int)) rfl rfl) rfl ?_
      refine E.keep [0, 4, 5, 6, 46] (env1 := [(0, _), (4, _), (5, _), (6, _), (46, _)]) rfl ?_
      first | refine C.ifp rfl (fun h46 => ?_) (fun h46 => ?_) | refine C.cond rfl (fun h46 => ?_) (fun h46 => ?_)
      ·
        have hn : textB l = none := by rw [ha, hst, if_pos (by omega)]; rfl
        refine C.seq ?_
        refine C.region ?_
        refine E.pure (S.assign rfl) rfl ?_
        refine E.pure (S.assign rfl) rfl ?_
        refine E.keep [0, 2, 3, 4, 5, 6, 46] (env1 := [(0, _), (2, _), (3, _), (4, _), (5, _), (6, _), (46, _)]) rfl ?_
        refine C.ret ?_
        refine ⟨_, _, rfl, rfl, _, [], Lf, by rw [hn]; rfl, by rw [hn]; exact Sl.nil 1, rfl⟩
      ·
        refine C.skip ?_
        refine C.region ?_
        refine E.pure (S.move rfl) rfl ?_
        refine E.pure (S.move rfl) rfl ?_
        refine E.loud1 (X.buildSliceV (vs := [.int .u8 ((y : Nat) : Int)]) (e := 5) [(0, .int .u8 ((y : Nat) : Int))] rfl (fun w => by simp [Instr.buildSlice, Instr.fill, Value.cells, newRow, Tryd.runUnderlying22, Tryd.typeInfo5]; rw [arr1])) rfl ?_
        rintro _ _ ⟨yb, rfl, rfl⟩
        refine E.same (Same.perm (List.perm_append_singleton _ Lf).symm) ?_
        refine E.loud1 (X.appendB (L := [⟨yb, 0, _⟩]) (xs := acc) (ys := [UInt8.ofNat y]) (Lf := Lf) rfl rfl hsl rfl (.inr ⟨yb, 0, rfl, Reads.mem (k := 0) (List.mem_append_right _ (.head _)) (by rw [byteY hy]; rfl)⟩) (by simp only [List.length_cons, List.length_nil]; omega)) rfl ?_
        rintro v2 _ ⟨Lf2, hsl2, rfl⟩
        refine E.lose (Same.refl _) ?_
        refine E.pure (S.assign rfl) rfl ?_
        refine E.keep [0, 4, 5, 6, 46] (env1 := [(0, _), (4, _), (5, _), (6, _), (46, _)]) rfl ?_
        refine C.region ?_
        refine E.pure (S.move rfl) rfl ?_
        first | refine E.pure (S.add (b := ((1 : Nat) : Int)) rfl rfl (N.add64 (by omega))) rfl ?_ | refine E.pure (S.add (b := ((1 : Nat) : Int)) rfl rfl (N.addZ (by omega))) rfl ?_
        refine E.pure (S.assign rfl) rfl ?_
        refine E.keep [0, 4, 5, 6, 46] (env1 := [(0, _), (4, _), (5, _), (6, _), (46, _)]) rfl ?_
        refine ⟨_, ?_, i2 + 1, _, v2, Lf2, rfl, rfl, by omega, map_snoc (by rw [ha, hst, if_neg (by omega)]), hsl2, by simp only [List.length_append, List.length_cons, List.length_nil]; omega, rfl⟩; omega
  ·
    have hi3 : i = l.length := by omega
    have hend : textB l = some acc := by rw [ha, hi3, List.drop_length]; simp [textB]
    refine C.exit rfl ?_
    refine C.seq ?_
    refine C.region ?_
    refine E.pure (S.move rfl) rfl ?_
    refine E.pure (S.assign rfl) rfl ?_
    refine E.pure (S.assign rfl) rfl ?_
    refine E.keep [0, 2, 3, 4, 5, 10] (env1 := [(0, _), (2, _), (3, _), (4, _), (5, _), (10, _)]) rfl ?_
    refine C.ret ?_
    exact ⟨_, _, rfl, rfl, _, Lf, [], by rw [hend]; rfl, by rw [hend]; exact hsl, (List.append_nil _).symm⟩
theorem str_get (s : ByteArray) (i : Nat) (h : i < s.data.toList.length) : s[i]? = some s.data.toList[i] := by
  have h2 : i < s.size := by simpa using h
  rw [getElem?_pos s i h2]
  simp
  rfl
theorem text_spec {K : Known} (s : ByteArray) (hl : s.size ≤ 140737488355327) : Fn Tryd.prog K 32 #[.string s] [] (fun r L => ∃ v, r = .tuple #[v, .bool (textB s.data.toList).isSome] ∧ Sl 1 v ((textB s.data.toList).getD []).length (bytesV ((textB s.data.toList).getD [])) L) := by
  have hsz : s.size = s.data.toList.length := by simp
  refine Fn.lose (text_walk s s.data.toList (str_get s) hsz (by omega)) ?_
  rintro r L ⟨v, Lf, F, rfl, h, rfl⟩
  exact ⟨Lf, F, Same.refl _, v, rfl, h⟩

/-- A slice with one fragment (an empty one beside another where there is none). -/
def Bs (v : Value) (xs : List UInt8) (g : Frag) : Prop := (xs = [] ∧ v = .slice none 0 0 ∧ g.cs = []) ∨ Sl 1 v xs.length (bytesV xs) [g]

theorem Sl.bs {v : Value} {xs : List UInt8} {Lf : Frags} (h : Sl 1 v xs.length (bytesV xs) Lf) (x : Frag) (F : Frags) : ∃ g, Bs v xs g ∧ Same (Lf ++ x :: F) (g :: x :: F) := by
  rcases h.2 with ⟨h1, h2, rfl⟩ | ⟨b, o, c, cs, h1, rfl, h3, h4, h5, h6⟩
  · exact ⟨⟨x.b, 0, []⟩, .inl ⟨List.eq_nil_of_length_eq_zero h2, h1, rfl⟩, Same.addEmpty (List.mem_cons_self ..) 0⟩
  · exact ⟨_, .inr ⟨h.1, .inr ⟨b, o, c, cs, h1, rfl, h3, h4, h5, h6⟩⟩, Same.refl _⟩

theorem Bs.val {K : Known} {v : Value} {xs : List UInt8} {g : Frag} (h : Bs v xs g) : ∃ a c, v = .slice a xs.length c ∧ ∀ L : Frags, g ∈ L → (xs = [] ∨ ∃ b o, a = some ⟨b, o, none⟩ ∧ Reads K L b o (bytesV xs)) := by
  rcases h with ⟨h1, h2, _⟩ | h
  · subst h1; exact ⟨none, 0, h2, fun _ _ => .inl rfl⟩
  · rcases h.2 with ⟨h1, h2, _⟩ | ⟨b, o, c, cs, h1, h2, h3, h4, h5, h6⟩
    · have hx := List.eq_nil_of_length_eq_zero h2
      exact ⟨none, 0, by rw [h1, h2], fun _ _ => .inl hx⟩
    · simp only [List.cons.injEq, and_true] at h2
      subst h2
      rw [Nat.mul_one] at h6
      exact ⟨_, c, h1, fun L hL => .inr ⟨b, o, rfl, Reads.mem (k := 0) hL (by rw [List.drop_zero, bytesV_length]; exact h6)⟩⟩

theorem text_bs {K : Known} (s : ByteArray) (hl : s.size ≤ 140737488355327) (x : Frag) (F : Frags) : Fn Tryd.prog K 32 #[.string s] (x :: F) (fun r L => ∃ v g, Bs v ((textB s.data.toList).getD []) g ∧ r = .tuple #[v, .bool (textB s.data.toList).isSome] ∧ L = g :: x :: F) := by
  refine Fn.sameR (Fn.frame (F := x :: F) (text_spec s hl)) ?_
  rintro r _ ⟨L1, ⟨v, rfl, h⟩, rfl⟩
  obtain ⟨g, h1, h2⟩ := h.bs x F
  exact ⟨_, h2, v, g, h1, rfl, rfl⟩

theorem text_any {K : Known} (s : ByteArray) (hl : s.size ≤ 140737488355327) : Fn Tryd.prog K 32 #[.string s] [] (fun r L => ∃ a c, r = .tuple #[.slice a ((textB s.data.toList).getD []).length c, .bool (textB s.data.toList).isSome] ∧ L = []) := by
  refine Fn.lose (text_spec s hl) ?_
  rintro r L ⟨v, rfl, h⟩
  refine ⟨[], L, Same.refl _, ?_⟩
  rcases h.2 with ⟨h1, h2, _⟩ | ⟨b, o, c, cs, h1, _⟩
  · exact ⟨none, 0, by rw [h1, h2], rfl⟩
  · exact ⟨_, c, by rw [h1], rfl⟩

theorem numL_snoc (x j : Nat) : numL x (j + 1) = numL x j ++ [UInt8.ofNat (x / 2 ^ (8 * j))] := by
  unfold numL; rw [List.range_succ, List.map_append]; rfl
theorem numL_length (x n : Nat) : (numL x n).length = n := by simp [numL]
theorem num_set {x n j : Nat} (h : j < n) : (bytesV (numL x j) ++ List.replicate (n - j) (Value.int .u8 0)).set j (.int .u8 (((x >>> (8 * j)) % 256 : Nat) : Int)) = bytesV (numL x (j + 1)) ++ List.replicate (n - (j + 1)) (Value.int .u8 0) := by
  have hl : (bytesV (numL x j)).length = j := by rw [bytesV_length, numL_length]
  rw [List.set_append_right _ _ (by omega), hl, Nat.sub_self, show n - j = (n - (j + 1)) + 1 by omega, List.replicate_succ, List.set_cons_zero, numL_snoc, bytesV_append, List.append_assoc]
  have : bytesV [UInt8.ofNat (x / 2 ^ (8 * j))] = [.int .u8 (((x >>> (8 * j)) % 256 : Nat) : Int)] := by
    show [Value.int .u8 (((UInt8.ofNat (x / 2 ^ (8 * j))).toNat : Nat) : Int)] = _
    rw [UInt8.toNat_ofNat', Nat.shiftRight_eq_div_pow]
  rw [this]; rfl

theorem number_spec {K : Known} (x n : Nat) (hx : x < 9223372036854775808) (hn : n ≤ 8) : Fn Tryd.prog K 33 #[.int .i64 ((x : Nat) : Int), .int .i64 ((n : Nat) : Int)] [] (fun r L => ∃ g, Sl 1 r (numL x n).length (bytesV (numL x n)) [g] ∧ L = [g]) := by
  refine Fn.intro (args := [.int .i64 ((x : Nat) : Int), .int .i64 ((n : Nat) : Int)]) (RR := Ret1 4 _) Tryd.func33 rfl rfl Tryd.ntmps33 (res1 Tryd.results33) ?_
  refine C.reenv (env2 := [(0, .int .i64 ((x : Nat) : Int)), (1, .int .i64 ((n : Nat) : Int))]) rfl ?_
  refine C.seq ?_
  refine C.region ?_
  refine E.pure (S.assign rfl) rfl ?_
  refine E.keep [0, 1, 4] (env1 := [(0, _), (1, _), (4, _)]) rfl ?_
  refine C.seq ?_
  refine C.region ?_
  refine E.pure (S.move rfl) rfl ?_
  refine E.loud1 (X.make (l := n) (c := n) (bytes := 1) Tryd.underlying22 infoB (z := .int .u8 0) rfl rfl rfl rfl rfl rfl (Nat.le_refl _) (by omega) (by omega)) rfl ?_; rintro _ _ ⟨b, rfl, rfl⟩; refine E.relist (L2 := [_]) rfl ?_
  refine E.pure (S.assign rfl) rfl ?_
  refine E.keep [0, 4, 5] (env1 := [(0, _), (4, _), (5, _)]) rfl ?_
  refine C.seq ?_
  refine C.seq ?_
  refine C.region ?_
  refine E.pure (S.move rfl) rfl ?_
  refine E.pure (S.lenSl rfl Tryd.underlying22) rfl ?_
  refine E.pure (S.move rfl) rfl ?_
  refine E.keep [0, 4, 5, 10, 11] (env1 := [(0, _), (4, _), (5, _), (10, _), (11, _)]) rfl ?_
  refine C.block ?_
  refine C.loop (fun mm ee ll => ∃ (j : Nat), keeps ee [0, 5, 10, 11] = some [(0, .int .i64 ((x : Nat) : Int)), (5, .slice (some ⟨b, 0, none⟩) (n) (n)), (10, .int .i64 ((n : Nat) : Int)), (11, .int .i64 ((j : Nat) : Int))] ∧ ll = [⟨b, 0, bytesV (numL x j) ++ List.replicate (n - j) (.int .u8 0)⟩] ∧ (j ≤ n) ∧ mm = n - j) (_) ⟨0, rfl, rfl, by omega, rfl⟩ ?_
  rintro m0 _ _ ⟨j, hk0, rfl, hj, hm0⟩
  refine C.weaken _ hk0 ?_
  refine C.seq ?_
  refine C.region ?_
  refine E.pure (S.lt rfl rfl) rfl ?_
  refine E.keep [0, 5, 10, 11, 12] (env1 := [(0, _), (5, _), (10, _), (11, _), (12, _)]) rfl ?_
  refine C.seq ?_
  first | refine C.ifp rfl (fun h12 => ?_) (fun h12 => ?_) | refine C.cond rfl (fun h12 => ?_) (fun h12 => ?_)
  ·
    have hj2 : j < n := by omega
    refine C.skip ?_
    refine C.seq ?_
    refine C.block ?_
    refine C.seq ?_
    refine C.region ?_
    refine E.pure (S.move rfl) rfl ?_
    refine E.pure (S.assign rfl) rfl ?_
    refine E.keep [0, 5, 6, 10, 11, 12] (env1 := [(0, _), (5, _), (6, _), (10, _), (11, _), (12, _)]) rfl ?_
    refine C.region ?_
    refine E.pure (S.move rfl) rfl ?_
    refine E.pure (S.move rfl) rfl ?_
    refine E.pure (S.move rfl) rfl ?_
    refine E.pure (S.move rfl) rfl ?_
    refine E.pure (S.mul (a := ((8 : Nat) : Int)) rfl rfl (N.mul64 (by omega))) rfl ?_
    refine E.pure (S.shr rfl rfl (by omega) (N.shr64 (by omega) _)) rfl ?_
    refine E.pure (S.conv rfl Tryd.underlying2 Tryd.underlying5 (N.mod_u8 _)) rfl ?_
    refine E.pure (S.ixSl rfl rfl (by omega) Tryd.underlying22 Tryd.sizeOf5) rfl ?_
    refine E.loud0 (X.store 0 (k := j * 1) rfl rfl rfl rfl (by rw [Nat.blt_eq, List.length_append, bytesV_length, numL_length, List.length_replicate]; omega) Tryd.sizeOf5) ?_
    rintro _ _ ⟨rfl, rfl⟩
    refine E.relist (L2 := [⟨b, 0, bytesV (numL x (j + 1)) ++ List.replicate (n - (j + 1)) (.int .u8 0)⟩]) (by rw [Nat.mul_one]; exact congrArg (fun q => [(⟨b, 0, q⟩ : Frag)]) (num_set hj2)) ?_
    refine E.keep [0, 5, 6, 10, 11, 12] (env1 := [(0, _), (5, _), (6, _), (10, _), (11, _), (12, _)]) rfl ?_
    refine C.region ?_
    first | refine E.pure (S.add (b := ((1 : Nat) : Int)) rfl rfl (N.add64 (by omega))) rfl ?_ | refine E.pure (S.add (b := ((1 : Nat) : Int)) rfl rfl (N.addZ (by omega))) rfl ?_
    refine E.pure (S.move rfl) rfl ?_
    refine E.keep [0, 5, 6, 10, 11, 12] (env1 := [(0, _), (5, _), (6, _), (10, _), (11, _), (12, _)]) rfl ?_
    refine ⟨_, ?_, j + 1, rfl, rfl, by omega, rfl⟩; omega
  ·
    have hj2 : j = n := by omega
    subst hj2
    rw [Nat.sub_self]
    refine C.exit rfl ?_
    refine C.seq ?_
    refine C.region ?_
    refine E.pure (S.move rfl) rfl ?_
    refine E.pure (S.assign rfl) rfl ?_
    refine E.keep [0, 4, 5, 10, 11, 12] (env1 := [(0, _), (4, _), (5, _), (10, _), (11, _), (12, _)]) rfl ?_
    refine C.ret ?_
    exact ⟨_, rfl, _, ⟨by rw [bytesV_length, Nat.mul_one], .inr ⟨b, 0, j, _, by rw [numL_length], rfl, by rw [List.length_append, bytesV_length, numL_length, List.length_replicate]; omega, by rw [numL_length]; exact Nat.le_refl _, by omega, by rw [numL_length, Nat.mul_one]; exact List.take_left' (by rw [bytesV_length, numL_length])⟩⟩, rfl⟩
theorem zz2_spec {K : Known} (n1 n2 : ByteArray) (ea : Option Addr) (en ec : Nat) (mo os : Int) : Fn Tryd.prog K 30 #[.agg #[.string n1, .string n2, .slice ea en ec, .int .i64 mo, .int .u8 os]] [] (fun r L => ∃ q, r = .bool q ∧ (q = true → n1.size ≤ 2147483647 ∧ n2.size ≤ 2147483647 ∧ en ≤ 2147483647)) := by
  refine Fn.intro (args := [.agg #[.string n1, .string n2, .slice ea en ec, .int .i64 mo, .int .u8 os]]) (RR := Ret1 2 _) Tryd.func30 rfl rfl Tryd.ntmps30 (res1 Tryd.results30) ?_
  refine C.reenv (env2 := [(0, .agg #[.string n1, .string n2, .slice ea en ec, .int .i64 mo, .int .u8 os])]) rfl ?_
  refine C.seq ?_
  refine C.region ?_
  refine E.loud1 (X.box rfl) rfl ?_; rintro _ _ ⟨b1, rfl, rfl⟩; refine E.relist (L2 := [_]) rfl ?_
  refine E.pure (S.assign rfl) rfl ?_
  refine E.keep [1, 2] (env1 := [(1, _), (2, _)]) rfl ?_
  refine C.seq ?_
  refine C.seq ?_
  refine C.region ?_
  refine E.pure (S.field rfl fa24_0) rfl ?_
  refine E.still (S.load 0 (k := 0) rfl rfl rfl Tryd.isAgg9) rfl ?_
  refine E.pure (S.lenStr rfl Tryd.underlying9) rfl ?_
  refine E.pure (S.gt (b := ((2147483647 : Nat) : Int)) rfl rfl) rfl ?_
  refine E.keep [1, 2, 6] (env1 := [(1, _), (2, _), (6, _)]) rfl ?_
  first | refine C.ifp rfl (fun h6 => ?_) (fun h6 => ?_) | refine C.cond rfl (fun h6 => ?_) (fun h6 => ?_)
  ·
    refine C.seq ?_
    refine C.region ?_
    refine E.pure (S.assign rfl) rfl ?_
    refine E.keep [1, 2, 6] (env1 := [(1, _), (2, _), (6, _)]) rfl ?_
    refine C.ret ?_
    exact ⟨_, rfl, _, rfl, fun h => by first | (refine ⟨?_, ?_, ?_⟩ <;> omega) | cases h⟩
  ·
    refine C.skip ?_
    refine C.seq ?_
    refine C.seq ?_
    refine C.region ?_
    refine E.pure (S.field rfl fa24_1) rfl ?_
    refine E.still (S.load 0 (k := 1) rfl rfl rfl Tryd.isAgg9) rfl ?_
    refine E.pure (S.lenStr rfl Tryd.underlying9) rfl ?_
    refine E.pure (S.gt (b := ((2147483647 : Nat) : Int)) rfl rfl) rfl ?_
    refine E.keep [1, 2, 6, 10] (env1 := [(1, _), (2, _), (6, _), (10, _)]) rfl ?_
    first | refine C.ifp rfl (fun h10 => ?_) (fun h10 => ?_) | refine C.cond rfl (fun h10 => ?_) (fun h10 => ?_)
    ·
      refine C.seq ?_
      refine C.region ?_
      refine E.pure (S.assign rfl) rfl ?_
      refine E.keep [1, 2, 6, 10] (env1 := [(1, _), (2, _), (6, _), (10, _)]) rfl ?_
      refine C.ret ?_
      exact ⟨_, rfl, _, rfl, fun h => by first | (refine ⟨?_, ?_, ?_⟩ <;> omega) | cases h⟩
    ·
      refine C.skip ?_
      refine C.seq ?_
      refine C.seq ?_
      refine C.region ?_
      refine E.pure (S.field rfl fa24_2) rfl ?_
      refine E.still (S.load 0 (k := 2) rfl rfl rfl Tryd.isAgg22) rfl ?_
      refine E.pure (S.lenSl rfl Tryd.underlying22) rfl ?_
      refine E.pure (S.gt (b := ((2147483647 : Nat) : Int)) rfl rfl) rfl ?_
      refine E.keep [1, 2, 6, 10, 14] (env1 := [(1, _), (2, _), (6, _), (10, _), (14, _)]) rfl ?_
      first | refine C.ifp rfl (fun h14 => ?_) (fun h14 => ?_) | refine C.cond rfl (fun h14 => ?_) (fun h14 => ?_)
      ·
        refine C.seq ?_
        refine C.region ?_
        refine E.pure (S.assign rfl) rfl ?_
        refine E.keep [1, 2, 6, 10, 14] (env1 := [(1, _), (2, _), (6, _), (10, _), (14, _)]) rfl ?_
        refine C.ret ?_
        exact ⟨_, rfl, _, rfl, fun h => by first | (refine ⟨?_, ?_, ?_⟩ <;> omega) | cases h⟩
      ·
        refine C.skip ?_
        refine C.seq ?_
        refine C.region ?_
        refine E.pure (S.assign rfl) rfl ?_
        refine E.keep [1, 2, 6, 10, 14] (env1 := [(1, _), (2, _), (6, _), (10, _), (14, _)]) rfl ?_
        refine C.ret ?_
        exact ⟨_, rfl, _, rfl, fun h => by first | (refine ⟨?_, ?_, ?_⟩ <;> omega) | cases h⟩
theorem zz4_spec {K : Known} (wh : Int) (a1 a2 a3 : Option Addr) (m1 k1 m2 k2 m3 k3 : Nat) : Fn Tryd.prog K 42 #[.agg #[.int .i64 wh, .slice a1 m1 k1, .slice a2 m2 k2, .slice a3 m3 k3]] [] (fun r L => ∃ q, r = .bool q) := by
  refine Fn.intro (args := [.agg #[.int .i64 wh, .slice a1 m1 k1, .slice a2 m2 k2, .slice a3 m3 k3]]) (RR := Ret1 2 _) Tryd.func42 rfl rfl Tryd.ntmps42 (res1 Tryd.results42) ?_
  refine C.reenv (env2 := [(0, .agg #[.int .i64 wh, .slice a1 m1 k1, .slice a2 m2 k2, .slice a3 m3 k3])]) rfl ?_
  refine C.seq ?_
  refine C.region ?_
  refine E.loud1 (X.box rfl) rfl ?_; rintro _ _ ⟨b1, rfl, rfl⟩; refine E.relist (L2 := [_]) rfl ?_
  refine E.pure (S.assign rfl) rfl ?_
  refine E.keep [1, 2] (env1 := [(1, _), (2, _)]) rfl ?_
  refine C.seq ?_
  refine C.seq ?_
  refine C.region ?_
  refine E.pure (S.field rfl fa103_1) rfl ?_
  refine E.still (S.load 0 (k := 1) rfl rfl rfl Tryd.isAgg22) rfl ?_
  refine E.pure (S.lenSl rfl Tryd.underlying22) rfl ?_
  refine E.pure (S.gt (b := ((2147483647 : Nat) : Int)) rfl rfl) rfl ?_
  refine E.keep [1, 2, 6] (env1 := [(1, _), (2, _), (6, _)]) rfl ?_
  first | refine C.ifp rfl (fun h6 => ?_) (fun h6 => ?_) | refine C.cond rfl (fun h6 => ?_) (fun h6 => ?_)
  ·
    refine C.seq ?_
    refine C.region ?_
    refine E.pure (S.assign rfl) rfl ?_
    refine E.keep [1, 2, 6] (env1 := [(1, _), (2, _), (6, _)]) rfl ?_
    refine C.ret ?_
    exact ⟨_, rfl, _, rfl⟩
  ·
    refine C.skip ?_
    refine C.seq ?_
    refine C.seq ?_
    refine C.region ?_
    refine E.pure (S.field rfl fa103_2) rfl ?_
    refine E.still (S.load 0 (k := 2) rfl rfl rfl Tryd.isAgg101) rfl ?_
    refine E.pure (S.lenSl rfl Tryd.underlying101) rfl ?_
    refine E.pure (S.gt (b := ((2147483647 : Nat) : Int)) rfl rfl) rfl ?_
    refine E.keep [1, 2, 6, 10] (env1 := [(1, _), (2, _), (6, _), (10, _)]) rfl ?_
    first | refine C.ifp rfl (fun h10 => ?_) (fun h10 => ?_) | refine C.cond rfl (fun h10 => ?_) (fun h10 => ?_)
    ·
      refine C.seq ?_
      refine C.region ?_
      refine E.pure (S.assign rfl) rfl ?_
      refine E.keep [1, 2, 6, 10] (env1 := [(1, _), (2, _), (6, _), (10, _)]) rfl ?_
      refine C.ret ?_
      exact ⟨_, rfl, _, rfl⟩
    ·
      refine C.skip ?_
      refine C.seq ?_
      refine C.seq ?_
      refine C.region ?_
      refine E.pure (S.field rfl fa103_3) rfl ?_
      refine E.still (S.load 0 (k := 3) rfl rfl rfl Tryd.isAgg39) rfl ?_
      refine E.pure (S.lenSl rfl Tryd.underlying39) rfl ?_
      refine E.pure (S.gt (b := ((2147483647 : Nat) : Int)) rfl rfl) rfl ?_
      refine E.keep [1, 2, 6, 10, 14] (env1 := [(1, _), (2, _), (6, _), (10, _), (14, _)]) rfl ?_
      first | refine C.ifp rfl (fun h14 => ?_) (fun h14 => ?_) | refine C.cond rfl (fun h14 => ?_) (fun h14 => ?_)
      ·
        refine C.seq ?_
        refine C.region ?_
        refine E.pure (S.assign rfl) rfl ?_
        refine E.keep [1, 2, 6, 10, 14] (env1 := [(1, _), (2, _), (6, _), (10, _), (14, _)]) rfl ?_
        refine C.ret ?_
        exact ⟨_, rfl, _, rfl⟩
      ·
        refine C.skip ?_
        refine C.seq ?_
        refine C.region ?_
        refine E.pure (S.assign rfl) rfl ?_
        refine E.keep [1, 2, 6, 10, 14] (env1 := [(1, _), (2, _), (6, _), (10, _), (14, _)]) rfl ?_
        refine C.ret ?_
        exact ⟨_, rfl, _, rfl⟩
theorem zz4_none {K : Known} (wh : Int) (a1 a2 a3 : Option Addr) (m1 k1 m2 k2 m3 k3 : Nat) : Fn Tryd.prog K 42 #[.agg #[.int .i64 wh, .slice a1 m1 k1, .slice a2 m2 k2, .slice a3 m3 k3]] [] (fun r L => ∃ q, r = .bool q ∧ L = []) := by
  refine Fn.lose (zz4_spec wh a1 a2 a3 m1 k1 m2 k2 m3 k3) ?_
  rintro r L ⟨q, rfl⟩
  exact ⟨[], L, Same.refl _, q, rfl, rfl⟩
theorem zz2_none {K : Known} (n1 n2 : ByteArray) (ea : Option Addr) (en ec : Nat) (mo os : Int) : Fn Tryd.prog K 30 #[.agg #[.string n1, .string n2, .slice ea en ec, .int .i64 mo, .int .u8 os]] [] (fun r L => ∃ q, r = .bool q ∧ (q = true → n1.size ≤ 2147483647 ∧ n2.size ≤ 2147483647 ∧ en ≤ 2147483647) ∧ L = []) := by
  refine Fn.lose (zz2_spec n1 n2 ea en ec mo os) ?_
  rintro r L ⟨q, rfl, h⟩
  exact ⟨[], L, Same.refl _, q, rfl, h, rfl⟩

theorem zz3_some {K : Known} (pb po n c : Nat) (hB : ∀ i, i < n → ∃ wh a1 m1 k1 a2 m2 k2 a3 m3 k3, ∀ j u, ([.int .i64 wh, .slice a1 m1 k1, .slice a2 m2 k2, .slice a3 m3 k3] : List Value)[j]? = some u → cellAt K pb (po + i * 4 + j) = some u) : Fn Tryd.prog K 31 #[.slice (some ⟨pb, po, none⟩) (n) (c)] [] (fun r L => ∃ q, r = .bool q ∧ L = []) := by
  refine Fn.intro (args := [.slice (some ⟨pb, po, none⟩) (n) (c)]) (RR := Ret1 2 _) Tryd.func31 rfl rfl Tryd.ntmps31 (res1 Tryd.results31) ?_
  refine C.reenv (env2 := [(0, .slice (some ⟨pb, po, none⟩) (n) (c))]) rfl ?_
  refine C.seq ?_
  refine C.region ?_
  refine E.pure (S.assign rfl) rfl ?_
  refine E.keep [0, 2] (env1 := [(0, _), (2, _)]) rfl ?_
  refine C.seq ?_
  refine C.seq ?_
  refine C.region ?_
  refine E.pure (S.move rfl) rfl ?_
  refine E.pure (S.lenSl rfl Tryd.underlying32) rfl ?_
  refine E.pure (S.gt (b := ((2147483647 : Nat) : Int)) rfl rfl) rfl ?_
  refine E.keep [0, 2, 7] (env1 := [(0, _), (2, _), (7, _)]) rfl ?_
  first | refine C.ifp rfl (fun h7 => ?_) (fun h7 => ?_) | refine C.cond rfl (fun h7 => ?_) (fun h7 => ?_)
  ·
    refine C.seq ?_
    refine C.region ?_
    refine E.pure (S.assign rfl) rfl ?_
    refine E.keep [0, 2, 7] (env1 := [(0, _), (2, _), (7, _)]) rfl ?_
    refine C.ret ?_
    exact ⟨_, rfl, _, rfl, rfl⟩
  ·
    refine C.skip ?_
    refine C.seq ?_
    refine C.seq ?_
    refine C.region ?_
    refine E.pure (S.move rfl) rfl ?_
    refine E.pure (S.lenSl rfl Tryd.underlying32) rfl ?_
    refine E.pure (S.move rfl) rfl ?_
    refine E.keep [0, 2, 7, 8, 9, 10] (env1 := [(0, _), (2, _), (7, _), (8, _), (9, _), (10, _)]) rfl ?_
    refine C.block ?_
    refine C.loop (fun mm ee ll => ∃ (i : Nat), keeps ee [8, 9, 10] = some [(8, .slice (some ⟨pb, po, none⟩) (n) (c)), (9, .int .i64 ((n : Nat) : Int)), (10, .int .i64 ((i : Nat) : Int))] ∧ ll = [] ∧ (i ≤ n) ∧ mm = n - i) (_) ⟨0, rfl, rfl, by omega, rfl⟩ ?_
    rintro m0 _ _ ⟨i, hk0, rfl, hi, hm0⟩
    refine C.weaken _ hk0 ?_
    refine C.seq ?_
    refine C.region ?_
    refine E.pure (S.lt rfl rfl) rfl ?_
    refine E.keep [8, 9, 10, 11] (env1 := [(8, _), (9, _), (10, _), (11, _)]) rfl ?_
    refine C.seq ?_
    first | refine C.ifp rfl (fun h11 => ?_) (fun h11 => ?_) | refine C.cond rfl (fun h11 => ?_) (fun h11 => ?_)
    ·
      have hi2 : i < n := by omega
      obtain ⟨wh, a1, m1, k1, a2, m2, k2, a3, m3, k3, hcell⟩ := hB i hi2
      refine C.skip ?_
      refine C.seq ?_
      refine C.block ?_
      refine C.seq ?_
      refine C.region ?_
      refine E.pure (S.ixSl rfl rfl hi2 Tryd.underlying32 Tryd.sizeOf103) rfl ?_
      refine E.still (S.loadABase (vs := [.int .i64 wh, .slice a1 m1 k1, .slice a2 m2 k2, .slice a3 m3 k3]) rfl hcell rfl Tryd.isAgg103 Tryd.sizeOf103) rfl ?_
      refine E.loud1 (X.alloc Tryd.zeroValue103) rfl ?_; rintro _ _ ⟨b4, rfl, rfl⟩; refine E.relist (L2 := [_]) rfl ?_
      refine E.loud0 (X.storeA 0 (k := 0) rfl rfl rfl rfl rfl rfl Tryd.sizeOf103 rfl) ?_; rintro _ _ ⟨rfl, rfl⟩; refine E.relist (L2 := [_]) rfl ?_
      refine E.keep [4, 8, 9, 10, 11] (env1 := [(4, _), (8, _), (9, _), (10, _), (11, _)]) rfl ?_
      refine C.seq ?_
      refine C.region ?_
      refine E.still (S.loadA 0 (k := 0) rfl rfl rfl rfl Tryd.isAgg103 Tryd.sizeOf103) rfl ?_
      refine E.forget [] (A := []) rfl ?_
      refine E.loud1 (OpX.pick [] (F := []) rfl (X.call rfl Tryd.call42 (zz4_none wh a1 a2 a3 m1 k1 m2 k2 m3 k3))) rfl ?_; rintro _ _ ⟨_, ⟨q4, rfl, rfl⟩, rfl⟩; refine E.relist (L2 := []) rfl ?_
      refine E.pure (S.notB rfl) rfl ?_
      refine E.keep [4, 8, 9, 10, 11, 16] (env1 := [(4, _), (8, _), (9, _), (10, _), (11, _), (16, _)]) rfl ?_
      first | refine C.ifp rfl (fun h16 => ?_) (fun h16 => ?_) | refine C.cond rfl (fun h16 => ?_) (fun h16 => ?_)
      ·
        refine C.seq ?_
        refine C.region ?_
        refine E.pure (S.assign rfl) rfl ?_
        refine E.keep [2, 4, 8, 9, 10, 11, 16] (env1 := [(2, _), (4, _), (8, _), (9, _), (10, _), (11, _), (16, _)]) rfl ?_
        refine C.ret ?_
        exact ⟨_, rfl, _, rfl, rfl⟩
      ·
        refine C.skip ?_
        refine C.region ?_
        first | refine E.pure (S.add (b := ((1 : Nat) : Int)) rfl rfl (N.add64 (by omega))) rfl ?_ | refine E.pure (S.add (b := ((1 : Nat) : Int)) rfl rfl (N.addZ (by omega))) rfl ?_
        refine E.pure (S.move rfl) rfl ?_
        refine E.keep [4, 8, 9, 10, 11, 16] (env1 := [(4, _), (8, _), (9, _), (10, _), (11, _), (16, _)]) rfl ?_
        refine ⟨_, ?_, i + 1, rfl, rfl, by omega, rfl⟩; omega
    ·
      refine C.exit rfl ?_
      refine C.seq ?_
      refine C.region ?_
      refine E.pure (S.assign rfl) rfl ?_
      refine E.keep [2, 8, 9, 10, 11] (env1 := [(2, _), (8, _), (9, _), (10, _), (11, _)]) rfl ?_
      refine C.ret ?_
      exact ⟨_, rfl, _, rfl, rfl⟩
theorem zz3_nil {K : Known} (a : Option Addr) (c : Nat) : Fn Tryd.prog K 31 #[.slice a 0 c] [] (fun r L => ∃ q, r = .bool q ∧ L = []) := by
  refine Fn.intro (args := [.slice a 0 c]) (RR := Ret1 2 _) Tryd.func31 rfl rfl Tryd.ntmps31 (res1 Tryd.results31) ?_
  refine C.reenv (env2 := [(0, .slice a 0 c)]) rfl ?_
  refine C.seq ?_
  refine C.region ?_
  refine E.pure (S.assign rfl) rfl ?_
  refine E.keep [0, 2] (env1 := [(0, _), (2, _)]) rfl ?_
  refine C.seq ?_
  refine C.seq ?_
  refine C.region ?_
  refine E.pure (S.move rfl) rfl ?_
  refine E.pure (S.lenSl rfl Tryd.underlying32) rfl ?_
  refine E.pure (S.gt (b := ((2147483647 : Nat) : Int)) rfl rfl) rfl ?_
  refine E.keep [0, 2, 7] (env1 := [(0, _), (2, _), (7, _)]) rfl ?_
  first | refine C.ifp rfl (fun h7 => ?_) (fun h7 => ?_) | refine C.cond rfl (fun h7 => ?_) (fun h7 => ?_)
  ·
    refine C.seq ?_
    refine C.region ?_
    refine E.pure (S.assign rfl) rfl ?_
    refine E.keep [0, 2, 7] (env1 := [(0, _), (2, _), (7, _)]) rfl ?_
    refine C.ret ?_
    exact ⟨_, rfl, _, rfl, rfl⟩
  ·
    refine C.skip ?_
    refine C.seq ?_
    refine C.seq ?_
    refine C.region ?_
    refine E.pure (S.move rfl) rfl ?_
    refine E.pure (S.lenSl rfl Tryd.underlying32) rfl ?_
    refine E.pure (S.move rfl) rfl ?_
    refine E.keep [0, 2, 7, 8, 9, 10] (env1 := [(0, _), (2, _), (7, _), (8, _), (9, _), (10, _)]) rfl ?_
    refine C.block ?_
    refine C.loop (fun mm ee ll => ∃ (i : Nat), keeps ee [8, 9, 10] = some [(8, .slice a 0 c), (9, .int .i64 ((0 : Nat) : Int)), (10, .int .i64 ((i : Nat) : Int))] ∧ ll = [] ∧ mm = 0) (_) ⟨0, rfl, rfl, rfl⟩ ?_
    rintro m0 _ _ ⟨i, hk0, rfl, hm0⟩
    refine C.weaken _ hk0 ?_
    refine C.seq ?_
    refine C.region ?_
    refine E.pure (S.lt rfl rfl) rfl ?_
    refine E.keep [8, 9, 10, 11] (env1 := [(8, _), (9, _), (10, _), (11, _)]) rfl ?_
    refine C.seq ?_
    first | refine C.ifp rfl (fun h11 => ?_) (fun h11 => ?_) | refine C.cond rfl (fun h11 => ?_) (fun h11 => ?_)
    ·
      exact absurd h11 (by omega)
    ·
      refine C.exit rfl ?_
      refine C.seq ?_
      refine C.region ?_
      refine E.pure (S.assign rfl) rfl ?_
      refine E.keep [2, 8, 9, 10, 11] (env1 := [(2, _), (8, _), (9, _), (10, _), (11, _)]) rfl ?_
      refine C.ret ?_
      exact ⟨_, rfl, _, rfl, rfl⟩
theorem zz3_spec {K : Known} {vb : Value} (h : BlocksA K vb) : Fn Tryd.prog K 31 #[vb] [] (fun r L => ∃ q, r = .bool q ∧ L = []) := by
  obtain ⟨a, n, c, rfl, h⟩ := h
  by_cases h0 : n = 0
  · subst h0; exact zz3_nil a c
  · obtain ⟨b, o, rfl, _⟩ := h 0 (by omega)
    refine zz3_some b o n c fun i hi => ?_
    obtain ⟨b', o', e, h1⟩ := h i hi
    simp only [Option.some.injEq, Addr.mk.injEq, and_true] at e
    obtain ⟨rfl, rfl⟩ := e
    exact h1
theorem BlocksA.sl {K : Known} {vb : Value} (h : BlocksA K vb) : ∃ a n c, vb = .slice a n c := by
  obtain ⟨a, n, c, h, _⟩ := h
  exact ⟨a, n, c, h⟩

end Go.Eng
