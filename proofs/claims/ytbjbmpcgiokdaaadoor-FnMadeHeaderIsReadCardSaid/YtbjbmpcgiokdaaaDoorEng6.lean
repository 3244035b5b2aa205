/-
  Engine, part 6: the same memory in other fragments (split, joined, empty ones), comparisons with nil, strings, type assertions, methods as values.
-/
import Derived.Test.YtbjbmpcgiokdaaaDoorEng5
import Derived.Stop.Asserts
set_option linter.unusedVariables false
set_option linter.unusedSimpArgs false
namespace Go.Eng
open Go

/-! ### The same memory in other fragments -/

structure Same (L L' : Frags) : Prop where
  agree : ∀ (K : Known) (H : Array Obj), Agree K L H ↔ Agree K L' H
  cov : ∀ b j, Covered L b j ↔ Covered L' b j
  blk : ∀ b, (∃ f ∈ L, f.b = b) ↔ (∃ f ∈ L', f.b = b)

theorem Same.refl (L : Frags) : Same L L := ⟨fun _ _ => Iff.rfl, fun _ _ => Iff.rfl, fun _ => Iff.rfl⟩
theorem Same.symm {L L' : Frags} (h : Same L L') : Same L' L := ⟨fun K H => (h.agree K H).symm, fun b j => (h.cov b j).symm, fun b => (h.blk b).symm⟩
theorem Same.trans {L1 L2 L3 : Frags} (h : Same L1 L2) (k : Same L2 L3) : Same L1 L3 :=
  ⟨fun K H => (h.agree K H).trans (k.agree K H), fun b j => (h.cov b j).trans (k.cov b j), fun b => (h.blk b).trans (k.blk b)⟩
theorem Same.perm {L L' : Frags} (p : L.Perm L') : Same L L' :=
  ⟨fun _ _ => ⟨fun h => h.perm p, fun h => h.perm p.symm⟩, fun _ _ => ⟨fun h => h.perm p, fun h => h.perm p.symm⟩, fun b =>
    ⟨fun ⟨f, hf, e⟩ => ⟨f, p.mem_iff.1 hf, e⟩, fun ⟨f, hf, e⟩ => ⟨f, p.mem_iff.2 hf, e⟩⟩⟩

theorem To.sameL {K : Known} {w w' : World} {L L2 L' : Frags} (s : Same L L2) (k : To K w L2 w' L') : To K w L w' L' := by
  refine ⟨k.st, k.size, fun b hb hn => k.old b hb fun f hf he => ?_, fun b c t fr hb => ?_, fun f hf => ?_, k.os, k.tape, k.output⟩
  · obtain ⟨g, hg, hgb⟩ := (s.blk b).2 ⟨f, hf, he⟩
    exact hn g hg hgb
  · obtain ⟨c', hc', hs, hj⟩ := k.cells b c t fr hb
    exact ⟨c', hc', hs, fun j hn => hj j fun hc => hn ((s.cov b j).2 hc)⟩
  · rcases k.foot f hf with h2 | ⟨h1, h3⟩
    · exact .inl h2
    · exact .inr ⟨(s.blk f.b).2 h1, fun j hj => (s.cov f.b j).2 (h3 j hj)⟩

theorem To.sameR {K : Known} {w w' : World} {L L2 L' : Frags} (s : Same L' L2) (k : To K w L w' L') : To K w L w' L2 := by
  refine ⟨(s.agree K _).1 k.st, k.size, k.old, k.cells, fun f hf => ?_, k.os, k.tape, k.output⟩
  by_cases hb : w.heap.size ≤ f.b
  · exact .inl hb
  · obtain ⟨g, hg, hgb⟩ := (s.blk f.b).2 ⟨f, hf, rfl⟩
    refine .inr ⟨?_, fun j hj => ?_⟩
    · rcases k.foot g hg with h2 | ⟨⟨x, hx, hxb⟩, _⟩
      · omega
      · exact ⟨x, hx, by omega⟩
    · obtain ⟨y, hy, hyh⟩ := (s.cov f.b j).2 ⟨f, hf, hj⟩
      have hyb := hyh.1
      rcases k.foot y hy with h2 | ⟨_, h3⟩
      · omega
      · have := h3 j ⟨rfl, hyh.2⟩
        rw [hyb] at this; exact this

/-- Two runs, one behind the other, are one. -/
theorem has_append {b o : Nat} {xs ys : List Value} {x j : Nat} : (⟨b, o, xs ++ ys⟩ : Frag).has x j ↔ (⟨b, o, xs⟩ : Frag).has x j ∨ (⟨b, o + xs.length, ys⟩ : Frag).has x j := by
  simp only [Frag.has, List.length_append]
  constructor
  · rintro ⟨h1, h2, h3⟩
    rcases Nat.lt_or_ge j (o + xs.length) with h | h
    · exact .inl ⟨h1, h2, h⟩
    · exact .inr ⟨h1, h, by omega⟩
  · rintro (⟨h1, h2, h3⟩ | ⟨h1, h2, h3⟩)
    · exact ⟨h1, h2, by omega⟩
    · exact ⟨h1, by omega, by omega⟩

theorem ok_append {b o : Nat} {xs ys : List Value} {H : Array Obj} : (⟨b, o, xs ++ ys⟩ : Frag).ok H ↔ (⟨b, o, xs⟩ : Frag).ok H ∧ (⟨b, o + xs.length, ys⟩ : Frag).ok H := by
  constructor
  · rintro ⟨c, t, fr, hb, hv, hz⟩
    simp only at hb hv hz
    refine ⟨⟨c, t, fr, hb, fun j hj => ?_, fun j hj => hz j (by rw [List.length_append]; simp only at hj; omega)⟩, ⟨c, t, fr, hb, fun j hj => ?_, fun j hj => ?_⟩⟩
    · simp only at hj ⊢
      have := hv j (by rw [List.length_append]; omega)
      rw [this, List.getElem_append_left hj]
    · simp only at hj ⊢
      have := hv (xs.length + j) (by rw [List.length_append]; omega)
      rw [Nat.add_assoc, this, List.getElem_append_right (by omega)]
      simp
    · simp only at hj ⊢
      have := hz (xs.length + j) (by rw [List.length_append]; omega)
      rw [Nat.add_assoc]; exact this
  · rintro ⟨⟨c, t, fr, hb, hv, hz⟩, ⟨c2, t2, fr2, hb2, hv2, hz2⟩⟩
    simp only at hb hv hz hb2 hv2 hz2
    rw [hb] at hb2
    simp only [Option.some.injEq, Obj.cells.injEq] at hb2
    obtain ⟨rfl, rfl, rfl⟩ := hb2
    refine ⟨c, t, fr, hb, fun j hj => ?_, fun j hj => ?_⟩
    · simp only at hj ⊢
      rw [List.length_append] at hj
      rcases Nat.lt_or_ge j xs.length with h | h
      · rw [hv j h, List.getElem_append_left h]
      · have := hv2 (j - xs.length) (by omega)
        rw [show o + xs.length + (j - xs.length) = o + j by omega] at this
        rw [this, List.getElem_append_right h]
    · simp only at hj ⊢
      rw [List.length_append] at hj
      rcases Nat.lt_or_ge j xs.length with h | h
      · exact hz j h
      · have := hz2 (j - xs.length) (by omega)
        rwa [show o + xs.length + (j - xs.length) = o + j by omega] at this

theorem Same.split (b o : Nat) (xs ys : List Value) (F : Frags) : Same (⟨b, o, xs ++ ys⟩ :: F) (⟨b, o, xs⟩ :: ⟨b, o + xs.length, ys⟩ :: F) := by
  have hd : ∀ g, Disj ⟨b, o, xs ++ ys⟩ g ↔ Disj ⟨b, o, xs⟩ g ∧ Disj ⟨b, o + xs.length, ys⟩ g := fun g =>
    ⟨fun h => ⟨fun x j h1 h2 => h x j (has_append.2 (.inl h1)) h2, fun x j h1 h2 => h x j (has_append.2 (.inr h1)) h2⟩, fun h x j h1 h2 => (has_append.1 h1).elim (fun h3 => h.1 x j h3 h2) fun h3 => h.2 x j h3 h2⟩
  have own : Disj ⟨b, o, xs⟩ ⟨b, o + xs.length, ys⟩ := fun x j h1 h2 => by
    have e1 := h1.2.2
    have e2 := h2.2.1
    simp only at e1 e2
    omega
  refine ⟨fun K H => ⟨fun h => ?_, fun h => ?_⟩, fun x j => ?_, fun x => ?_⟩
  · have p := List.pairwise_cons.1 h.dis
    have hok := ok_append.1 (h.ok _ (List.mem_cons_self ..))
    have hup := h.up _ (List.mem_cons_self ..)
    refine ⟨h.base, fun f hf => ?_, fun f hf => ?_, ?_⟩
    · rcases List.mem_cons.1 hf with rfl | hf
      · exact hup
      · rcases List.mem_cons.1 hf with rfl | hf
        · exact hup
        · exact h.up f (List.mem_cons_of_mem _ hf)
    · rcases List.mem_cons.1 hf with rfl | hf
      · exact hok.1
      · rcases List.mem_cons.1 hf with rfl | hf
        · exact hok.2
        · exact h.ok f (List.mem_cons_of_mem _ hf)
    · refine List.pairwise_cons.2 ⟨fun g hg => ?_, List.pairwise_cons.2 ⟨fun g hg => ((hd g).1 (p.1 g hg)).2, p.2⟩⟩
      rcases List.mem_cons.1 hg with rfl | hg
      · exact own
      · exact ((hd g).1 (p.1 g hg)).1
  · have p := List.pairwise_cons.1 h.dis
    have p2 := List.pairwise_cons.1 p.2
    refine ⟨h.base, fun f hf => ?_, fun f hf => ?_, List.pairwise_cons.2 ⟨fun g hg => (hd g).2 ⟨p.1 g (List.mem_cons_of_mem _ hg), p2.1 g hg⟩, p2.2⟩⟩
    · rcases List.mem_cons.1 hf with rfl | hf
      · exact h.up ⟨b, o, xs⟩ (List.mem_cons_self ..)
      · exact h.up f (List.mem_cons_of_mem _ (List.mem_cons_of_mem _ hf))
    · rcases List.mem_cons.1 hf with rfl | hf
      · exact ok_append.2 ⟨h.ok _ (List.mem_cons_self ..), h.ok _ (List.mem_cons_of_mem _ (List.mem_cons_self ..))⟩
      · exact h.ok f (List.mem_cons_of_mem _ (List.mem_cons_of_mem _ hf))
  · constructor
    · rintro ⟨f, hf, hh⟩
      rcases List.mem_cons.1 hf with rfl | hf
      · rcases has_append.1 hh with h | h
        · exact ⟨_, List.mem_cons_self .., h⟩
        · exact ⟨_, List.mem_cons_of_mem _ (List.mem_cons_self ..), h⟩
      · exact ⟨f, List.mem_cons_of_mem _ (List.mem_cons_of_mem _ hf), hh⟩
    · rintro ⟨f, hf, hh⟩
      rcases List.mem_cons.1 hf with rfl | hf
      · exact ⟨_, List.mem_cons_self .., has_append.2 (.inl hh)⟩
      · rcases List.mem_cons.1 hf with rfl | hf
        · exact ⟨_, List.mem_cons_self .., has_append.2 (.inr hh)⟩
        · exact ⟨f, List.mem_cons_of_mem _ hf, hh⟩
  · constructor
    · rintro ⟨f, hf, hh⟩
      rcases List.mem_cons.1 hf with rfl | hf
      · exact ⟨⟨b, o, xs⟩, List.mem_cons_self .., hh⟩
      · exact ⟨f, List.mem_cons_of_mem _ (List.mem_cons_of_mem _ hf), hh⟩
    · rintro ⟨f, hf, hh⟩
      rcases List.mem_cons.1 hf with rfl | hf
      · exact ⟨⟨b, o, xs ++ ys⟩, List.mem_cons_self .., hh⟩
      · rcases List.mem_cons.1 hf with rfl | hf
        · exact ⟨⟨b, o, xs ++ ys⟩, List.mem_cons_self .., hh⟩
        · exact ⟨f, List.mem_cons_of_mem _ hf, hh⟩

/-- An empty run beside one that there is. -/
theorem Same.empty (b o o' : Nat) (xs : List Value) (F : Frags) : Same (⟨b, o, xs⟩ :: F) (⟨b, o, xs⟩ :: ⟨b, o', []⟩ :: F) := by
  have none : ∀ x j, ¬ (⟨b, o', []⟩ : Frag).has x j := fun x j h => by
    have h1 := h.2.1; have h2 := h.2.2; simp at h1 h2; omega
  refine ⟨fun K H => ⟨fun h => ?_, fun h => ?_⟩, fun x j => ?_, fun x => ?_⟩
  · have p := List.pairwise_cons.1 h.dis
    refine ⟨h.base, fun f hf => ?_, fun f hf => ?_, List.pairwise_cons.2 ⟨fun g hg => ?_, List.pairwise_cons.2 ⟨fun g hg x j h1 _ => none x j h1, p.2⟩⟩⟩
    · rcases List.mem_cons.1 hf with rfl | hf
      · exact h.up _ (List.mem_cons_self ..)
      · rcases List.mem_cons.1 hf with rfl | hf
        · exact h.up ⟨b, o, xs⟩ (List.mem_cons_self ..)
        · exact h.up f (List.mem_cons_of_mem _ hf)
    · rcases List.mem_cons.1 hf with rfl | hf
      · exact h.ok _ (List.mem_cons_self ..)
      · rcases List.mem_cons.1 hf with rfl | hf
        · obtain ⟨c, t, fr, hb, _, _⟩ := h.ok _ (List.mem_cons_self ..)
          exact ⟨c, t, fr, hb, fun j hj => absurd hj (by simp), fun j hj => absurd hj (by simp)⟩
        · exact h.ok f (List.mem_cons_of_mem _ hf)
    · rcases List.mem_cons.1 hg with rfl | hg
      · exact fun x j _ h2 => none x j h2
      · exact p.1 g hg
  · have p := List.pairwise_cons.1 h.dis
    have p2 := List.pairwise_cons.1 p.2
    refine ⟨h.base, fun f hf => ?_, fun f hf => ?_, List.pairwise_cons.2 ⟨fun g hg => p.1 g (List.mem_cons_of_mem _ hg), p2.2⟩⟩
    · rcases List.mem_cons.1 hf with rfl | hf
      · exact h.up _ (List.mem_cons_self ..)
      · exact h.up f (List.mem_cons_of_mem _ (List.mem_cons_of_mem _ hf))
    · rcases List.mem_cons.1 hf with rfl | hf
      · exact h.ok _ (List.mem_cons_self ..)
      · exact h.ok f (List.mem_cons_of_mem _ (List.mem_cons_of_mem _ hf))
  · constructor
    · rintro ⟨f, hf, hh⟩
      rcases List.mem_cons.1 hf with rfl | hf
      · exact ⟨_, List.mem_cons_self .., hh⟩
      · exact ⟨f, List.mem_cons_of_mem _ (List.mem_cons_of_mem _ hf), hh⟩
    · rintro ⟨f, hf, hh⟩
      rcases List.mem_cons.1 hf with rfl | hf
      · exact ⟨_, List.mem_cons_self .., hh⟩
      · rcases List.mem_cons.1 hf with rfl | hf
        · exact absurd hh (none x j)
        · exact ⟨f, List.mem_cons_of_mem _ hf, hh⟩
  · constructor
    · rintro ⟨f, hf, hh⟩
      rcases List.mem_cons.1 hf with rfl | hf
      · exact ⟨⟨b, o, xs⟩, List.mem_cons_self .., hh⟩
      · exact ⟨f, List.mem_cons_of_mem _ (List.mem_cons_of_mem _ hf), hh⟩
    · rintro ⟨f, hf, hh⟩
      rcases List.mem_cons.1 hf with rfl | hf
      · exact ⟨⟨b, o, xs⟩, List.mem_cons_self .., hh⟩
      · rcases List.mem_cons.1 hf with rfl | hf
        · exact ⟨⟨b, o, xs⟩, List.mem_cons_self .., hh⟩
        · exact ⟨f, List.mem_cons_of_mem _ hf, hh⟩

theorem pairwise_app {L1 L2 : Frags} : (L1 ++ L2).Pairwise Disj ↔ L1.Pairwise Disj ∧ L2.Pairwise Disj ∧ ∀ b j, Covered L1 b j → Covered L2 b j → False := by
  rw [List.pairwise_append]
  constructor
  · rintro ⟨h1, h2, h3⟩
    refine ⟨h1, h2, ?_⟩
    rintro b j ⟨f, hf, hh⟩ ⟨g, hg, hgh⟩
    exact h3 f hf g hg b j hh hgh
  · rintro ⟨h1, h2, h3⟩
    exact ⟨h1, h2, fun f hf g hg b j hh hgh => h3 b j ⟨f, hf, hh⟩ ⟨g, hg, hgh⟩⟩

theorem agree_app {K : Known} {L1 L2 : Frags} {H : Array Obj} : Agree K (L1 ++ L2) H ↔ Agree K L1 H ∧ Agree K L2 H ∧ ∀ b j, Covered L1 b j → Covered L2 b j → False := by
  constructor
  · intro h
    obtain ⟨h1, h2, h3⟩ := pairwise_app.1 h.dis
    exact ⟨⟨h.base, fun f hf => h.up f (List.mem_append_left _ hf), fun f hf => h.ok f (List.mem_append_left _ hf), h1⟩, ⟨h.base, fun f hf => h.up f (List.mem_append_right _ hf), fun f hf => h.ok f (List.mem_append_right _ hf), h2⟩, h3⟩
  · rintro ⟨h1, h2, h3⟩
    exact ⟨h1.base, fun f hf => (List.mem_append.1 hf).elim (h1.up f) (h2.up f), fun f hf => (List.mem_append.1 hf).elim (h1.ok f) (h2.ok f), pairwise_app.2 ⟨h1.dis, h2.dis, h3⟩⟩

theorem covered_app {L1 L2 : Frags} {b j : Nat} : Covered (L1 ++ L2) b j ↔ Covered L1 b j ∨ Covered L2 b j := by
  constructor
  · rintro ⟨f, hf, hh⟩
    exact (List.mem_append.1 hf).imp (fun h => ⟨f, h, hh⟩) fun h => ⟨f, h, hh⟩
  · rintro (⟨f, hf, hh⟩ | ⟨f, hf, hh⟩)
    · exact ⟨f, List.mem_append_left _ hf, hh⟩
    · exact ⟨f, List.mem_append_right _ hf, hh⟩

theorem Same.appendL {L L' : Frags} (A : Frags) (s : Same L L') : Same (A ++ L) (A ++ L') := by
  refine ⟨fun K H => ?_, fun b j => ?_, fun b => ?_⟩
  · rw [agree_app, agree_app, s.agree K H]
    simp only [s.cov]
  · rw [covered_app, covered_app, s.cov]
  · constructor
    · rintro ⟨f, hf, e⟩
      rcases List.mem_append.1 hf with h | h
      · exact ⟨f, List.mem_append_left _ h, e⟩
      · obtain ⟨g, hg, e2⟩ := (s.blk b).1 ⟨f, h, e⟩
        exact ⟨g, List.mem_append_right _ hg, e2⟩
    · rintro ⟨f, hf, e⟩
      rcases List.mem_append.1 hf with h | h
      · exact ⟨f, List.mem_append_left _ h, e⟩
      · obtain ⟨g, hg, e2⟩ := (s.blk b).2 ⟨f, h, e⟩
        exact ⟨g, List.mem_append_right _ hg, e2⟩

theorem Same.of_eq {L L' : Frags} (e : L = L') : Same L L' := e ▸ Same.refl L

/-- Fragment i parted. -/
theorem Same.splitAt {L A F : Frags} {b o o' k : Nat} {cs xs ys : List Value} (i : Nat) (hp : picks [i] L = some (A, F)) (hA : A = [⟨b, o, cs⟩]) (hcs : cs = xs ++ ys) (hk : xs.length = k) (ho : o' = o + k) :
    Same L (⟨b, o, xs⟩ :: ⟨b, o', ys⟩ :: F) := by
  subst hA hcs hk ho
  exact (Same.perm (picks_perm hp)).trans (Same.split b o xs ys F)

/-- Fragments i and j joined. -/
theorem Same.joinAt {L A F : Frags} {b o o' : Nat} {xs ys : List Value} (i j : Nat) (hp : picks [i, j] L = some (A, F)) (hA : A = [⟨b, o, xs⟩, ⟨b, o', ys⟩]) (ho : o' = o + xs.length) :
    Same L (⟨b, o, xs ++ ys⟩ :: F) := by
  subst hA ho
  exact (Same.perm (picks_perm hp)).trans (Same.split b o xs ys F).symm

section
variable {P : Program} {K : Known} {n : Nat} {env : Env} {L : Frags} {ty : TypeId}

theorem C.same {c : Code} {L2 : Frags} {N X R} (s : Same L L2) (h : wpC P K n c env L2 N X R) : wpC P K n c env L N X R := by
  intro a w hf hw Q t
  exact h a w hf ((s.agree K _).1 hw) Q ⟨fun e l a w h f k => t.normal e l a w h f (k.sameL s), fun id M hk e l a w h f k => t.exit id M hk e l a w h f (k.sameL s),
    fun id M hk e l a w h f k => t.goto id M hk e l a w h f (k.sameL s), fun e l a w h f k => t.ret e l a w h f (k.sameL s)⟩
theorem E.same {ops : Array Oper} {l : List Oper} {L2 : Frags} {N : Post} (s : Same L L2) (h : wpE P K n ops l env L2 N) : wpE P K n ops l env L N :=
  fun a w hf hw Q k => h a w hf ((s.agree K _).1 hw) Q fun e l a w h f t => k e l a w h f (t.sameL s)
theorem Fn.sameL {f : FuncId} {args : Array Value} {L2 : Frags} {R : Value → Frags → Prop} (s : Same L L2) (h : Fn P K f args L2 R) : Fn P K f args L R :=
  fun w hw => Calls.mono (h w ((s.agree K _).1 hw)) fun _ _ ⟨v, L', e, r, t⟩ => ⟨v, L', e, r, t.sameL s⟩
theorem Fn.sameR {f : FuncId} {args : Array Value} {R R' : Value → Frags → Prop} (h : Fn P K f args L R) (s : ∀ v L', R v L' → ∃ L2, Same L' L2 ∧ R' v L2) : Fn P K f args L R' :=
  fun w hw => Calls.mono (h w hw) fun _ _ ⟨v, L', e, r, t⟩ => by
    obtain ⟨L2, h1, h2⟩ := s v L' r
    exact ⟨v, L2, e, h2, t.sameR h1⟩

theorem OpX.mono {op : Op} {R R' : Value → Frags → Prop} (h : OpX P K n op ty env L R) (hr : ∀ v L', R v L' → R' v L') : OpX P K n op ty env L R' := by
  intro a w hf hw
  have := h a w hf hw
  revert this
  generalize (exop a.eval op ty).run P w = r
  intro h
  cases r with
  | halt c w1 => exact h
  | ok x w1 =>
    cases x with
    | value v => obtain ⟨L', h1, h2⟩ := h; exact ⟨L', hr _ _ h1, h2⟩
    | skip => obtain ⟨L', h1, h2⟩ := h; exact ⟨L', hr _ _ h1, h2⟩
    | enter f args => exact Calls.mono h fun e w'' ⟨v, L', e1, h1, h2⟩ => ⟨v, L', e1, hr _ _ h1, h2⟩
    | _ => exact h

/-! ### Comparisons with nil -/

theorem run_equal {xT : TypeId} {u v : Value} {b : Bool} {w : World} (h : ∀ d, (Op.equalIn (d + 1) xT u v).run P w = .ok b w) : (Op.equal xT u v).run P w = .ok b w := by
  simp only [Op.equal, Op.maxDepth]; exact h 9999

theorem eq_of_equal {op : BinOp} {xT yT : TypeId} {x y : Operand} {u v : Value} {b : Bool} (hop : op = .eql ∨ op = .neq) (hx : ev? env x = some u) (hy : ev? env y = some v)
    (hg : ∀ w, (eqGuard op xT x y u v).run P w = .ok () w) (hb : ∀ w, (binOp op xT u v).run P w = ((Op.equal xT u v).run P w).andThen fun c w => .ok (.bool (if op = .eql then c else !c)) w)
    (h : ∀ w, (Op.equal xT u v).run P w = .ok b w) : OpP P n (.binOp op xT x y yT) ty env (.bool (if op = .eql then b else !b)) := by
  intro ac w hf
  simp only [exop, execOp, hf.eval hx, hf.eval hy]
  simp [hg, hb, h]

theorem guard_ptr {op : BinOp} {xT : TypeId} {x y : Operand} {a : Option Addr} {v : Value} (w : World) : (eqGuard op xT x y (.pointer a) v).run P w = .ok () w := by
  unfold eqGuard
  cases op <;> rfl
theorem guard_slice {op : BinOp} {xT : TypeId} {x y : Operand} {a : Option Addr} {l c : Nat} {v : Value} (w : World) : (eqGuard op xT x y (.slice a l c) v).run P w = .ok () w := by
  unfold eqGuard
  cases op <;> rfl
theorem guard_string {op : BinOp} {xT : TypeId} {x y : Operand} {s : ByteArray} {v : Value} (w : World) : (eqGuard op xT x y (.string s) v).run P w = .ok () w := by
  unfold eqGuard
  cases op <;> rfl
theorem guard_bool {op : BinOp} {xT : TypeId} {x y : Operand} {s : Bool} {v : Value} (w : World) : (eqGuard op xT x y (.bool s) v).run P w = .ok () w := by
  unfold eqGuard
  cases op <;> rfl

theorem S.eqPtrNil {xT e yT : TypeId} {x : Operand} {a : Option Addr} (hx : ev? env x = some (.pointer a)) (ht : P.underlying xT = some (.pointer e)) : OpP P n (.binOp .eql xT x (.const (.pointer none)) yT) ty env (.bool a.isNone) := by
  refine eq_of_equal (op := .eql) (.inl rfl) hx rfl guard_ptr (fun w => ?_) fun w => run_equal fun d => ?_
  · simp only [binOp, Sem.run_bind]; rfl
  · cases a <;> simp [Op.equalIn, run_underlying ht]
theorem S.nePtrNil {xT e yT : TypeId} {x : Operand} {a : Option Addr} (hx : ev? env x = some (.pointer a)) (ht : P.underlying xT = some (.pointer e)) : OpP P n (.binOp .neq xT x (.const (.pointer none)) yT) ty env (.bool (!a.isNone)) := by
  refine eq_of_equal (op := .neq) (b := a.isNone) (.inr rfl) hx rfl guard_ptr (fun w => ?_) fun w => run_equal fun d => ?_
  · simp only [binOp, Sem.run_bind]; rfl
  · cases a <;> simp [Op.equalIn, run_underlying ht]
theorem S.eqSlNil {xT e yT : TypeId} {x : Operand} {a : Option Addr} {l c : Nat} (hx : ev? env x = some (.slice a l c)) (ht : P.underlying xT = some (.slice e)) : OpP P n (.binOp .eql xT x (.const (.slice none 0 0)) yT) ty env (.bool a.isNone) := by
  refine eq_of_equal (op := .eql) (.inl rfl) hx rfl guard_slice (fun w => ?_) fun w => run_equal fun d => ?_
  · simp only [binOp, Sem.run_bind]; rfl
  · cases a <;> simp [Op.equalIn, run_underlying ht]

theorem S.eqStr {xT yT : TypeId} {x y : Operand} {s u : ByteArray} (hx : ev? env x = some (.string s)) (hy : ev? env y = some (.string u)) : OpP P n (.binOp .eql xT x y yT) ty env (.bool (s.toList == u.toList)) := by
  intro ac w hf
  simp only [exop, execOp, hf.eval hx, hf.eval hy]
  simp [guard_string, binOp, Op.stringOp]

/-! ### Type assertions, methods as values -/

theorem S.assertHas {xT asserted t : TypeId} {x : Operand} {v : Value} {want : Array (String × TypeId)} (hx : ev? env x = some (.iface t v)) (hu : P.underlying asserted = some (.interface want))
    (h : (P.info? t).map (fun i => (lacking want i.methods).isEmpty) = some true) : OpP P n (.typeAssert x xT asserted true) ty env (.tuple #[.iface t v, .bool true]) := by
  intro ac w hf
  simp only [exop, execOp, hf.eval hx]
  have := run_typeAssert_hasB (P := P) hu h v xT w
  simp [this]

theorem S.assertLacks {xT asserted t : TypeId} {x : Operand} {v z : Value} {want : Array (String × TypeId)} (hx : ev? env x = some (.iface t v)) (hu : P.underlying asserted = some (.interface want))
    (h : (P.info? t).map (fun i => (lacking want i.methods).isEmpty) = some false) (hz : (P.info? asserted).map (·.zero) = some (some z)) : OpP P n (.typeAssert x xT asserted true) ty env (.tuple #[z, .bool false]) := by
  intro ac w hf
  simp only [exop, execOp, hf.eval hx]
  have := run_typeAssert_lacksB (P := P) hu h hz v xT w
  simp [this]

theorem S.assertHas1 {xT asserted t : TypeId} {x : Operand} {v : Value} {want : Array (String × TypeId)} (hx : ev? env x = some (.iface t v)) (hu : P.underlying asserted = some (.interface want))
    (h : (P.info? t).map (fun i => (lacking want i.methods).isEmpty) = some true) : OpP P n (.typeAssert x xT asserted false) ty env (.iface t v) := by
  intro ac w hf
  simp only [exop, execOp, hf.eval hx]
  obtain ⟨i, hi, hl⟩ := Option.map_eq_some_iff.1 h
  have hl' := missingMethod_none (List.isEmpty_iff.1 hl)
  have : (Instr.typeAssert (.iface t v) xT asserted false).run P w = .ok (.iface t v) w := by
    simp [Instr.typeAssert, run_underlying hu, typeInfo, hi, hl']
  simp [this]

/-- Another named interface type is asserted of a value whose dynamic type is a type of its own: no. -/
theorem S.assertOther {xT asserted t : TypeId} {x : Operand} {v z : Value} {d : TypeDesc} (hx : ev? env x = some (.iface t v)) (hu : P.underlying asserted = some d) (hd : (match d with | .interface _ => false | _ => true) = true)
    (hne : Nat.beq t asserted = false) (hz : ∀ w, (zeroValue asserted).run P w = .ok z w) : OpP P n (.typeAssert x xT asserted true) ty env (.tuple #[z, .bool false]) := by
  intro ac w hf
  simp only [exop, execOp, hf.eval hx]
  have hne' := Nat.ne_of_beq_eq_false hne
  have : (Instr.typeAssert (.iface t v) xT asserted true).run P w = .ok (.tuple #[z, .bool false]) w := by
    unfold Instr.typeAssert
    cases d <;> simp [run_underlying hu, hne', hz] at hd ⊢
  simp [this]

theorem S.mkMethod {m : String} {x : Operand} {t : TypeId} {v : Value} (hx : ev? env x = some (.iface t v)) : OpP P n (.makeFunc (.method m) #[x] #[]) ty env (.func (.method m) #[.iface t v] #[]) := by
  intro ac w hf
  simp only [exop, execOp]
  simp [Instr.makeFunc, hf.eval hx]

theorem S.nilMethod {m : String} {x : Operand} {t : TypeId} {v : Value} (hx : ev? env x = some (.func (.method m) #[.iface t v] #[])) (hn : ∀ w, (nilAhead (P.types.size + Made.depth) t v m).run P w = .ok (some false) w) :
    OpP P n (.nilCheck x) ty env (.func (.method m) #[.iface t v] #[]) := by
  intro ac w hf
  simp only [exop, execOp, hf.eval hx]
  simp [hn]

/-! ### More conversions -/

theorem S.convSame {src dst e e2 : TypeId} {x : Operand} {a : Option Addr} {l c : Nat} (hx : ev? env x = some (.slice a l c)) (h : ∀ w, (convert src dst (.slice a l c)).run P w = .ok (.slice a l c) w) : OpP P n (.convert src dst x) ty env (.slice a l c) := by
  intro ac w hf
  simp only [exop, execOp, hf.eval hx]
  simp [h]

/-- string(runes). -/
theorem S.runesStr {src dst e : Nat} {x : Operand} {b o l c : Nat} {zs : List Int} (hs : P.underlying src = some (.slice e)) (he : P.underlying e = some (.int .i32)) (hd : P.underlying dst = some .string)
    (hx : ev? env x = some (.slice (some ⟨b, o, none⟩) l c)) (hl : l = zs.length) (hr : Reads K L b o (zs.map (Value.int .i32))) : OpS P K n (.convert src dst x) ty env L (.string (runesBytes zs)) := by
  intro ac w hf hw
  simp only [exop, execOp, hf.eval hx]
  have key := run_convert_runes (P := P) w src dst e ⟨b, o, none⟩ l c zs (by omega) hs he hd fun j hj => by
    rw [addr_add]
    have := hr w hw j (.int .i32 zs[j]) (by simp [hj])
    simpa [List.getD, hj] using this
  rw [hl, List.take_length] at key
  subst hl
  simp [key]
end
end Go.Eng
