/-
  Engine, part 1: a small program logic over the kit's 'Code.wp'. The frame is a list of slots with values, memory is a list of fragments (disjoint runs of cells) that the call may touch; all else stays as it was.
-/
import Derived.Calls
import Derived.Orders
import Derived.Tactics
import Derived.ScopeJumps
import Derived.RowKit3
import Derived.Below
import Derived.Deep.LoopGhost
set_option linter.unusedVariables false
set_option linter.unusedSimpArgs false
namespace Go.Eng
open Go

/-! ### Slots -/

abbrev Env := List (Nat × Value)

def get? : Env → Nat → Option Value
  | [], _ => none
  | p :: r, t => bif Nat.beq p.1 t then some p.2 else get? r t

def ev? (env : Env) : Operand → Option Value
  | .tmp t => get? env t
  | .const v => some v
  | .global g => some (.pointer (some ⟨g, 0, none⟩))
  | .func f => some (.func (.func f) #[] #[])

structure Fits (n : Nat) (env : Env) (a : Act) : Prop where
  defers : a.defers = []
  size : a.tmps.size = n
  val : ∀ t v, get? env t = some v → a.tmps.getD t undef = v

theorem Fits.eval {n : Nat} {env : Env} {a : Act} (h : Fits n env a) {x : Operand} {v : Value} (hx : ev? env x = some v) : a.eval x = v := by
  cases x with
  | tmp t => exact h.val t v hx
  | const u => simpa [ev?, Act.eval] using hx
  | global g => simpa [ev?, Act.eval] using hx
  | func f => simpa [ev?, Act.eval] using hx

theorem Fits.put {n : Nat} {env : Env} {a : Act} (h : Fits n env a) {d : Nat} (hd : d < n) (v : Value) : Fits n ((d, v) :: env) (a.put (some d) v) := by
  refine ⟨h.defers, by simp [Act.put, h.size], fun t u hu => ?_⟩
  have hd' : d < a.tmps.size := by rw [h.size]; exact hd
  simp only [get?] at hu
  cases hb : Nat.beq d t with
  | true =>
    have : d = t := Nat.eq_of_beq_eq_true hb
    subst this
    simp only [hb, cond_true, Option.some.injEq] at hu
    subst hu
    simp [Act.put, hd']
  | false =>
    have hne : d ≠ t := Nat.ne_of_beq_eq_false hb
    simp only [hb, cond_false] at hu
    have := h.val t u hu
    simpa [Act.put, Array.getElem?_setIfInBounds_ne hne] using this

def subEnv (env1 env : Env) : Bool := env1.all fun p => (get? env p.1).isSome

/-- Only what the list names is kept. -/
def keeps (env : Env) : List Nat → Option Env
  | [] => some []
  | t :: ts => match get? env t, keeps env ts with
    | some v, some r => some ((t, v) :: r)
    | _, _ => none

theorem keeps_sub {env : Env} : ∀ {ts : List Nat} {env1 : Env}, keeps env ts = some env1 → ∀ t v, get? env1 t = some v → get? env t = some v
  | [], env1, h, t, v, hv => by
    simp only [keeps, Option.some.injEq] at h
    subst h
    simp [get?] at hv
  | s :: ts, env1, h, t, v, hv => by
    simp only [keeps] at h
    split at h
    · rename_i u r hu hr
      simp only [Option.some.injEq] at h
      subst h
      simp only [get?] at hv
      cases hb : Nat.beq s t with
      | true =>
        have : s = t := Nat.eq_of_beq_eq_true hb
        subst this
        simp only [hb, cond_true, Option.some.injEq] at hv
        rw [← hv]; exact hu
      | false =>
        simp only [hb, cond_false] at hv
        exact keeps_sub hr t v hv
    · cases h

theorem Fits.keeps {n : Nat} {env env1 : Env} {a : Act} (h : Fits n env a) {ts : List Nat} (hk : keeps env ts = some env1) : Fits n env1 a :=
  ⟨h.defers, h.size, fun t v hv => h.val t v (keeps_sub hk t v hv)⟩

/-! ### Memory -/

structure Frag where
  b : Nat
  o : Nat
  cs : List Value

abbrev Frags := List Frag

def cellAt (K : Nat → Option Obj) (b o : Nat) : Option Value :=
  match K b with
  | some (.cells c _ _) => c[o]?
  | _ => none

/-- The fragment lies in the heap: its block is a row of cells, the cells hold the values, none of them is frozen. -/
structure Frag.ok (f : Frag) (H : Array Obj) : Prop where
  row : ∃ c t fr, H[f.b]? = some (.cells c t fr) ∧ (∀ j (h : j < f.cs.length), c[f.o + j]? = some f.cs[j]) ∧
    ∀ j, j < f.cs.length → (decide (fr.1 ≤ f.o + j) && decide (f.o + j < fr.2)) = false

def Frag.has (f : Frag) (b j : Nat) : Prop := f.b = b ∧ f.o ≤ j ∧ j < f.o + f.cs.length

def Covered (L : Frags) (b j : Nat) : Prop := ∃ f ∈ L, f.has b j

def Disj (f g : Frag) : Prop := ∀ b j, f.has b j → g.has b j → False

/-- Blocks that are known and stay. -/
abbrev Known := Nat → Option Obj

def Known.sits (K : Known) (H : Array Obj) : Prop := ∀ b o, K b = some o → H[b]? = some o

structure Agree (H0 : Known) (L : Frags) (H : Array Obj) : Prop where
  base : H0.sits H
  up : ∀ f ∈ L, H0 f.b = none
  ok : ∀ f ∈ L, f.ok H
  dis : L.Pairwise Disj

structure To (H0 : Known) (w : World) (L : Frags) (w' : World) (L' : Frags) : Prop where
  st : Agree H0 L' w'.heap
  size : w.heap.size ≤ w'.heap.size
  old : ∀ b, b < w.heap.size → (∀ f ∈ L, f.b ≠ b) → w'.heap[b]? = w.heap[b]?
  cells : ∀ b c t fr, w.heap[b]? = some (.cells c t fr) → ∃ c', w'.heap[b]? = some (.cells c' t fr) ∧ c'.size = c.size ∧ ∀ j, ¬ Covered L b j → c'[j]? = c[j]?
  foot : ∀ f ∈ L', w.heap.size ≤ f.b ∨ ((∃ g ∈ L, g.b = f.b) ∧ ∀ j, f.has f.b j → Covered L f.b j)
  os : w'.os = w.os
  tape : w'.tape = w.tape
  output : w'.output = w.output

theorem lt_of_some {α : Type} {H : Array α} {b : Nat} {x : α} (h : H[b]? = some x) : b < H.size := by
  rcases Nat.lt_or_ge b H.size with h' | h'
  · exact h'
  · rw [Array.getElem?_eq_none h'] at h; cases h

theorem Frag.ok.lt {f : Frag} {H : Array Obj} (h : f.ok H) : f.b < H.size := by
  obtain ⟨c, t, fr, hb, _⟩ := h.row
  exact lt_of_some hb

theorem To.refl {H0 : Known} {w : World} {L : Frags} (h : Agree H0 L w.heap) : To H0 w L w L :=
  ⟨h, Nat.le_refl _, fun _ _ _ => rfl, fun b c t fr hb => ⟨c, hb, rfl, fun _ _ => rfl⟩, fun f hf => .inr ⟨⟨f, hf, rfl⟩, fun j hj => ⟨f, hf, hj⟩⟩, rfl, rfl, rfl⟩

theorem To.trans {H0 : Known} {w1 w2 w3 : World} {L1 L2 L3 : Frags} (h : To H0 w1 L1 w2 L2) (k : To H0 w2 L2 w3 L3) : To H0 w1 L1 w3 L3 := by
  have notin : ∀ b, b < w1.heap.size → (∀ f ∈ L1, f.b ≠ b) → ∀ f ∈ L2, f.b ≠ b := by
    intro b hb hn f hf he
    rcases h.foot f hf with h1 | ⟨⟨g, hg, hgb⟩, _⟩
    · omega
    · exact hn g hg (by omega)
  have notcov : ∀ b j, b < w1.heap.size → ¬ Covered L1 b j → ¬ Covered L2 b j := by
    rintro b j hb hn ⟨f, hf, hfb, hlo, hhi⟩
    rcases h.foot f hf with h1 | ⟨_, h2⟩
    · omega
    · have := h2 j ⟨rfl, hlo, hhi⟩
      rw [hfb] at this
      exact hn this
  refine ⟨k.st, Nat.le_trans h.size k.size, fun b hb hn => ?_, fun b c t fr hb => ?_, fun f hf => ?_, k.os.trans h.os, k.tape.trans h.tape, k.output.trans h.output⟩
  · rw [k.old b (Nat.lt_of_lt_of_le hb h.size) (notin b hb hn)]
    exact h.old b hb hn
  · obtain ⟨c', hc', hs', hj'⟩ := h.cells b c t fr hb
    obtain ⟨c'', hc'', hs'', hj''⟩ := k.cells b c' t fr hc'
    exact ⟨c'', hc'', hs''.trans hs', fun j hj => (hj'' j (notcov b j (lt_of_some hb) hj)).trans (hj' j hj)⟩
  · by_cases hb : w1.heap.size ≤ f.b
    · exact .inl hb
    · rcases k.foot f hf with h1 | ⟨⟨g, hg, hgb⟩, hc⟩
      · exact .inl (Nat.le_trans h.size h1)
      · refine .inr ⟨?_, fun j hj => ?_⟩
        · rcases h.foot g hg with h1 | ⟨h2, _⟩
          · omega
          · obtain ⟨x, hx, hxb⟩ := h2
            exact ⟨x, hx, by omega⟩
        · rcases Classical.em (Covered L1 f.b j) with h3 | h3
          · exact h3
          · exact absurd (hc j hj) (notcov f.b j (by omega) h3)

/-- Fragments that the step does not name stay as they are. -/
theorem Agree.frame {H0 : Known} {w w' : World} {L L' F : Frags} (h : Agree H0 (L ++ F) w.heap) (k : To H0 w L w' L') : Agree H0 (L' ++ F) w'.heap := by
  have hd := List.pairwise_append.1 h.dis
  have okF : ∀ f ∈ F, f.ok w'.heap := by
    intro f hf
    obtain ⟨c, t, fr, hb, hv, hz⟩ := (h.ok f (List.mem_append_right _ hf)).row
    obtain ⟨c', hc', hs, hj⟩ := k.cells f.b c t fr hb
    refine ⟨c', t, fr, hc', fun j hjl => ?_, hz⟩
    rw [hj (f.o + j) ?_]
    · exact hv j hjl
    · rintro ⟨g, hg, hgh⟩
      exact hd.2.2 g hg f hf f.b (f.o + j) hgh ⟨rfl, by omega, by omega⟩
  refine ⟨k.st.base, fun f hf => ?_, fun f hf => ?_, ?_⟩
  · rcases List.mem_append.1 hf with h1 | h1
    · exact k.st.up f h1
    · exact h.up f (List.mem_append_right _ h1)
  · rcases List.mem_append.1 hf with h1 | h1
    · exact k.st.ok f h1
    · exact okF f h1
  · refine List.pairwise_append.2 ⟨k.st.dis, hd.2.1, fun f hf g hg b j hfh hgh => ?_⟩
    rcases k.foot f hf with h1 | ⟨_, h2⟩
    · have := (h.ok g (List.mem_append_right _ hg)).lt
      have e1 := hfh.1
      have e2 := hgh.1
      omega
    · have hb := hfh.1
      subst hb
      obtain ⟨x, hx, hxh⟩ := h2 j hfh
      exact hd.2.2 x hx g hg f.b j hxh hgh

theorem Covered.left {L F : Frags} {b j : Nat} (h : Covered L b j) : Covered (L ++ F) b j := by
  obtain ⟨f, hf, hh⟩ := h
  exact ⟨f, List.mem_append_left _ hf, hh⟩

theorem To.frame {H0 : Known} {w w' : World} {L L' F : Frags} (h : Agree H0 (L ++ F) w.heap) (k : To H0 w L w' L') : To H0 w (L ++ F) w' (L' ++ F) := by
  refine ⟨h.frame k, k.size, fun b hb hn => k.old b hb fun f hf => hn f (List.mem_append_left _ hf), fun b c t fr hb => ?_, fun f hf => ?_, k.os, k.tape, k.output⟩
  · obtain ⟨c', hc', hs, hj⟩ := k.cells b c t fr hb
    exact ⟨c', hc', hs, fun j hn => hj j fun hc => hn hc.left⟩
  · rcases List.mem_append.1 hf with h1 | h1
    · rcases k.foot f h1 with h2 | ⟨⟨g, hg, hgb⟩, h3⟩
      · exact .inl h2
      · exact .inr ⟨⟨g, List.mem_append_left _ hg, hgb⟩, fun j hj => (h3 j hj).left⟩
    · exact .inr ⟨⟨f, List.mem_append_right _ h1, rfl⟩, fun j hj => ⟨f, List.mem_append_right _ h1, hj⟩⟩

theorem Disj.symm {f g : Frag} (h : Disj f g) : Disj g f := fun b j hg hf => h b j hf hg

theorem Agree.perm {H0 : Known} {L L' : Frags} {H : Array Obj} (h : Agree H0 L H) (p : L.Perm L') : Agree H0 L' H :=
  ⟨h.base, fun f hf => h.up f (p.mem_iff.2 hf), fun f hf => h.ok f (p.mem_iff.2 hf), p.pairwise h.dis fun h => h.symm⟩

theorem Covered.perm {L L' : Frags} (p : L.Perm L') {b j : Nat} (h : Covered L b j) : Covered L' b j := by
  obtain ⟨f, hf, hh⟩ := h
  exact ⟨f, p.mem_iff.1 hf, hh⟩

theorem To.permL {H0 : Known} {w w' : World} {L L2 L' : Frags} (p : L.Perm L2) (k : To H0 w L2 w' L') : To H0 w L w' L' := by
  refine ⟨k.st, k.size, fun b hb hn => k.old b hb fun f hf => hn f (p.mem_iff.2 hf), fun b c t fr hb => ?_, fun f hf => ?_, k.os, k.tape, k.output⟩
  · obtain ⟨c', hc', hs, hj⟩ := k.cells b c t fr hb
    exact ⟨c', hc', hs, fun j hn => hj j fun hc => hn (hc.perm p.symm)⟩
  · rcases k.foot f hf with h2 | ⟨⟨g, hg, hgb⟩, h3⟩
    · exact .inl h2
    · exact .inr ⟨⟨g, p.mem_iff.2 hg, hgb⟩, fun j hj => (h3 j hj).perm p.symm⟩

theorem To.permR {H0 : Known} {w w' : World} {L L2 L' : Frags} (p : L'.Perm L2) (k : To H0 w L w' L') : To H0 w L w' L2 :=
  ⟨k.st.perm p, k.size, k.old, k.cells, fun f hf => k.foot f (p.mem_iff.2 hf), k.os, k.tape, k.output⟩

/-- Fragments may be forgotten. -/
theorem Agree.drop {H0 : Known} {L F : Frags} {H : Array Obj} (h : Agree H0 (L ++ F) H) : Agree H0 L H :=
  ⟨h.base, fun f hf => h.up f (List.mem_append_left _ hf), fun f hf => h.ok f (List.mem_append_left _ hf), (List.pairwise_append.1 h.dis).1⟩

theorem To.drop {H0 : Known} {w w' : World} {L L' F : Frags} (k : To H0 w L w' (L' ++ F)) : To H0 w L w' L' :=
  ⟨k.st.drop, k.size, k.old, k.cells, fun f hf => k.foot f (List.mem_append_left _ hf), k.os, k.tape, k.output⟩

/-- Picks: the fragments at these places, one behind the other out of what is left. -/
def pull : Frags → Nat → Option (Frag × Frags)
  | [], _ => none
  | x :: r, 0 => some (x, r)
  | x :: r, i + 1 => match pull r i with
    | some (y, r') => some (y, x :: r')
    | none => none

theorem pull_perm : ∀ {L : Frags} {i : Nat} {x : Frag} {r : Frags}, pull L i = some (x, r) → L.Perm (x :: r)
  | [], _, _, _, h => by cases h
  | y :: L, 0, x, r, h => by
    simp only [pull, Option.some.injEq, Prod.mk.injEq] at h
    obtain ⟨rfl, rfl⟩ := h
    exact .refl _
  | y :: L, i + 1, x, r, h => by
    simp only [pull] at h
    split at h
    · rename_i z r' hz
      simp only [Option.some.injEq, Prod.mk.injEq] at h
      obtain ⟨rfl, rfl⟩ := h
      exact ((pull_perm hz).cons y).trans (.swap _ _ _)
    · cases h

/-! ### What a step says -/

section
variable (P : Program) (H0 : Known) (n : Nat)

def exop (ρ : Operand → Value) (op : Op) (ty : TypeId) : Sem Next := execOp ρ ⟨none, op, ty, "", #[], none⟩

theorem execOp_exop (ρ : Operand → Value) (o : Oper) : execOp ρ o = exop ρ o.op o.type := rfl

/-- The operation hands back v and leaves memory as it is; whatever is in memory beside L. -/
def OpS (op : Op) (ty : TypeId) (env : Env) (L : Frags) (v : Value) : Prop :=
  ∀ a w, Fits n env a → Agree H0 L w.heap → (exop a.eval op ty).run P w = .ok (.value v) w

/-- The same whatever is in memory. -/
def OpP (op : Op) (ty : TypeId) (env : Env) (v : Value) : Prop :=
  ∀ a w, Fits n env a → (exop a.eval op ty).run P w = .ok (.value v) w

def Out (w : World) (L : Frags) (R : Value → Frags → Prop) : Result Next → Prop
  | .ok (.value v) w' => ∃ L', R v L' ∧ To H0 w L w' L'
  | .ok .skip w' => ∃ L', R undef L' ∧ To H0 w L w' L'
  | .ok (.enter f args) w' => Calls P f args w' fun e w'' => ∃ v L', e = .returned v ∧ R v L' ∧ To H0 w L w'' L'
  | _ => False

def OpX (op : Op) (ty : TypeId) (env : Env) (L : Frags) (R : Value → Frags → Prop) : Prop :=
  ∀ a w, Fits n env a → Agree H0 L w.heap → Out P H0 w L R ((exop a.eval op ty).run P w)

def Fn (f : FuncId) (args : Array Value) (L : Frags) (R : Value → Frags → Prop) : Prop :=
  ∀ w, Agree H0 L w.heap → Calls P f args w fun e w' => ∃ v L', e = .returned v ∧ R v L' ∧ To H0 w L w' L'

abbrev Post := Env → Frags → Prop

def look : List (Nat × Post) → Nat → Option Post
  | [], _ => none
  | p :: r, t => bif Nat.beq p.1 t then some p.2 else look r t

structure Sat (w : World) (L : Frags) (N : Post) (X : List (Nat × Post)) (R : Post) (Q : Exit → Act → World → Prop) : Prop where
  normal : ∀ env' L' a' w', N env' L' → Fits n env' a' → To H0 w L w' L' → Q .normal a' w'
  exit : ∀ id K, look X (2 * id) = some K → ∀ env' L' a' w', K env' L' → Fits n env' a' → To H0 w L w' L' → Q (.exit id) a' w'
  goto : ∀ l K, look X (2 * l + 1) = some K → ∀ env' L' a' w', K env' L' → Fits n env' a' → To H0 w L w' L' → Q (.goto l) a' w'
  ret : ∀ env' L' a' w', R env' L' → Fits n env' a' → To H0 w L w' L' → Q .ret a' w'

def wpC (c : Code) (env : Env) (L : Frags) (N : Post) (X : List (Nat × Post)) (R : Post) : Prop :=
  ∀ a w, Fits n env a → Agree H0 L w.heap → ∀ Q, Sat H0 n w L N X R Q → c.wp P Q a w

/-- Operations in the text's order. -/
def wpE (ops : Array Oper) (l : List Oper) (env : Env) (L : Frags) (N : Post) : Prop :=
  ∀ a w, Fits n env a → Agree H0 L w.heap → ∀ Q : Exit → Act → World → Prop,
    (∀ env' L' a' w', N env' L' → Fits n env' a' → To H0 w L w' L' → Q .normal a' w') → wpList P ops Q l a w

end

section
variable {P : Program} {H0 : Known} {n : Nat}

theorem Sat.after {w w1 : World} {L L1 : Frags} {N X R Q} (s : Sat H0 n w L N X R Q) (t : To H0 w L w1 L1) : Sat H0 n w1 L1 N X R Q :=
  ⟨fun e l a w' h f k => s.normal e l a w' h f (t.trans k), fun id K hk e l a w' h f k => s.exit id K hk e l a w' h f (t.trans k),
   fun id K hk e l a w' h f k => s.goto id K hk e l a w' h f (t.trans k), fun e l a w' h f k => s.ret e l a w' h f (t.trans k)⟩

theorem Out.mono {w : World} {L : Frags} {R R' : Value → Frags → Prop} (hr : ∀ v L', R v L' → R' v L') : ∀ {r : Result Next}, Out P H0 w L R r → Out P H0 w L R' r
  | .ok (.value v) _, ⟨L', h, t⟩ => ⟨L', hr _ _ h, t⟩
  | .ok .skip _, ⟨L', h, t⟩ => ⟨L', hr _ _ h, t⟩
  | .ok (.enter _ _) _, h => Calls.mono h fun _ _ ⟨v, L', e, r, t⟩ => ⟨v, L', e, hr _ _ r, t⟩

theorem Fn.mono {f : FuncId} {args : Array Value} {L : Frags} {R R' : Value → Frags → Prop} (h : Fn P H0 f args L R) (hr : ∀ v L', R v L' → R' v L') : Fn P H0 f args L R' :=
  fun w hw => Calls.mono (h w hw) fun _ _ ⟨v, L', e, r, t⟩ => ⟨v, L', e, hr _ _ r, t⟩

/-- The frame: what the call does not name. -/
theorem Fn.frame {f : FuncId} {args : Array Value} {L F : Frags} {R : Value → Frags → Prop} (h : Fn P H0 f args L R) :
    Fn P H0 f args (L ++ F) fun v L' => ∃ L1, R v L1 ∧ L' = L1 ++ F :=
  fun w hw => Calls.mono (h w hw.drop) fun _ _ ⟨v, L', e, r, t⟩ => ⟨v, L' ++ F, e, ⟨L', r, rfl⟩, To.frame hw t⟩

theorem Fn.perm {f : FuncId} {args : Array Value} {L L2 : Frags} {R : Value → Frags → Prop} (p : L.Perm L2) (h : Fn P H0 f args L2 R) : Fn P H0 f args L R :=
  fun w hw => Calls.mono (h w (hw.perm p)) fun _ _ ⟨v, L', e, r, t⟩ => ⟨v, L', e, r, t.permL p⟩

theorem OpX.frame {op : Op} {ty : TypeId} {env : Env} {L F : Frags} {R : Value → Frags → Prop} (h : OpX P H0 n op ty env L R) :
    OpX P H0 n op ty env (L ++ F) fun v L' => ∃ L1, R v L1 ∧ L' = L1 ++ F := by
  intro a w hf hw
  have := h a w hf hw.drop
  revert this
  generalize (exop a.eval op ty).run P w = r
  intro h
  cases r with
  | ok x w' =>
    cases x <;> simp only [Out] at h ⊢
    case value v => obtain ⟨L', r, t⟩ := h; exact ⟨_, ⟨L', r, rfl⟩, To.frame hw t⟩
    case skip => obtain ⟨L', r, t⟩ := h; exact ⟨_, ⟨L', r, rfl⟩, To.frame hw t⟩
    case enter f args => exact Calls.mono h fun _ _ ⟨v, L', e, r, t⟩ => ⟨v, _, e, ⟨L', r, rfl⟩, To.frame hw t⟩
  | halt x w' => exact h

theorem OpX.perm {op : Op} {ty : TypeId} {env : Env} {L L2 : Frags} {R : Value → Frags → Prop} (p : L.Perm L2) (h : OpX P H0 n op ty env L2 R) : OpX P H0 n op ty env L R := by
  intro a w hf hw
  have := h a w hf (hw.perm p)
  revert this
  generalize (exop a.eval op ty).run P w = r
  intro h
  cases r with
  | ok x w' =>
    cases x <;> simp only [Out] at h ⊢
    case value v => obtain ⟨L', r, t⟩ := h; exact ⟨L', r, t.permL p⟩
    case skip => obtain ⟨L', r, t⟩ := h; exact ⟨L', r, t.permL p⟩
    case enter f args => exact Calls.mono h fun _ _ ⟨v, L', e, r, t⟩ => ⟨v, L', e, r, t.permL p⟩
  | halt x w' => exact h

/-! ### Control -/

theorem C.weaken {c : Code} {env env1 : Env} {L : Frags} {N X R} (ts : List Nat) (hk : keeps env ts = some env1) (h : wpC P H0 n c env1 L N X R) : wpC P H0 n c env L N X R :=
  fun a w hf hw Q s => h a w (hf.keeps hk) hw Q s

theorem C.mono {c : Code} {env : Env} {L : Frags} {N N' X R} (hn : ∀ e l, N e l → N' e l) (h : wpC P H0 n c env L N X R) : wpC P H0 n c env L N' X R :=
  fun a w hf hw Q s => h a w hf hw Q ⟨fun e l a w h => s.normal e l a w (hn e l h), s.exit, s.goto, s.ret⟩

theorem C.perm {c : Code} {env : Env} {L L2 : Frags} {N X R} (p : L.Perm L2) (h : wpC P H0 n c env L2 N X R) : wpC P H0 n c env L N X R := by
  intro a w hf hw Q s
  refine h a w hf (hw.perm p) Q ⟨fun e l a w h f k => s.normal e l a w h f (k.permL p), fun id K hk e l a w h f k => s.exit id K hk e l a w h f (k.permL p),
    fun id K hk e l a w h f k => s.goto id K hk e l a w h f (k.permL p), fun e l a w h f k => s.ret e l a w h f (k.permL p)⟩

theorem C.seq {x y : Code} {env : Env} {L : Frags} {N X R} (h : wpC P H0 n x env L (fun e l => wpC P H0 n y e l N X R) X R) : wpC P H0 n (.seq x y) env L N X R := by
  intro a w hf hw Q s
  refine wp_seq (h a w hf hw _ ⟨fun e l a' w' hk f k => ?_, s.exit, s.goto, s.ret⟩)
  exact hk a' w' f k.st Q (s.after k)

theorem C.skip {env : Env} {L : Frags} {N : Post} {X R} (h : N env L) : wpC P H0 n .skip env L N X R :=
  fun a w hf hw Q s => wp_skip (s.normal env L a w h hf (To.refl hw))

theorem C.label {l : Nat} {env : Env} {L : Frags} {N : Post} {X R} (h : N env L) : wpC P H0 n (.label l) env L N X R :=
  fun a w hf hw Q s => wp_label (s.normal env L a w h hf (To.refl hw))

theorem C.ret {env : Env} {L : Frags} {N X} {R : Post} (h : R env L) : wpC P H0 n .ret env L N X R :=
  fun a w hf hw Q s => wp_ret (s.ret env L a w h hf (To.refl hw))

theorem C.exit {id : Nat} {env : Env} {L : Frags} {N X R} {K : Post} (hk : look X (2 * id) = some K) (h : K env L) : wpC P H0 n (.exit id) env L N X R :=
  fun a w hf hw Q s => wp_exit (s.exit id K hk env L a w h hf (To.refl hw))

theorem C.goto {l : Nat} {env : Env} {L : Frags} {N X R} {K : Post} (hk : look X (2 * l + 1) = some K) (h : K env L) : wpC P H0 n (.goto l) env L N X R :=
  fun a w hf hw Q s => wp_goto (s.goto l K hk env L a w h hf (To.refl hw))

theorem C.block {id : Nat} {c : Code} {env : Env} {L : Frags} {N X R} (h : wpC P H0 n c env L N ((2 * id, N) :: X) R) : wpC P H0 n (.block id c) env L N X R := by
  intro a w hf hw Q s
  refine wp_block (h a w hf hw _ ⟨s.normal, fun i K hk e l a' w' hK f k => ?_, fun i K hk e l a' w' hK f k => ?_, s.ret⟩)
  · simp only [look] at hk
    cases hb : Nat.beq (2 * id) (2 * i) with
    | true =>
      have : i = id := by have := Nat.eq_of_beq_eq_true hb; omega
      simp only [hb, cond_true, Option.some.injEq] at hk
      subst hk
      simp only [Exit.inBlock, this, if_true]
      exact s.normal e l a' w' hK f k
    | false =>
      have : i ≠ id := by have := Nat.ne_of_beq_eq_false hb; omega
      simp only [hb, cond_false] at hk
      simp only [Exit.inBlock, this, if_false]
      exact s.exit i K hk e l a' w' hK f k
  · simp only [look] at hk
    have hb : Nat.beq (2 * id) (2 * i + 1) = false := by
      cases hb : Nat.beq (2 * id) (2 * i + 1) with
      | false => rfl
      | true => have := Nat.eq_of_beq_eq_true hb; omega
    simp only [hb, cond_false] at hk
    exact s.goto i K hk e l a' w' hK f k

theorem C.cond {c : Operand} {x y : Code} {env : Env} {L : Frags} {N X R} {b : Bool} (hc : ev? env c = some (.bool b))
    (ht : b = true → wpC P H0 n x env L N X R) (he : b = false → wpC P H0 n y env L N X R) : wpC P H0 n (.cond c x y) env L N X R := by
  intro a w hf hw Q s
  refine wp_cond_split (hf.eval hc) (fun h => ht h a w hf hw Q s) (fun h => he h a w hf hw Q s)

theorem C.ifp {c : Operand} {x y : Code} {env : Env} {L : Frags} {N X R} {p : Prop} {_ : Decidable p} (hc : ev? env c = some (.bool (decide p)))
    (ht : p → wpC P H0 n x env L N X R) (he : ¬ p → wpC P H0 n y env L N X R) : wpC P H0 n (.cond c x y) env L N X R :=
  C.cond hc (fun h => ht (of_decide_eq_true h)) (fun h => he (of_decide_eq_false h))

theorem C.yes {c : Operand} {x y : Code} {env : Env} {L : Frags} {N X R} {b : Bool} (hc : ev? env c = some (.bool b)) (hb : b = true)
    (ht : wpC P H0 n x env L N X R) : wpC P H0 n (.cond c x y) env L N X R :=
  C.cond hc (fun _ => ht) (fun h => by rw [hb] at h; cases h)

theorem C.no {c : Operand} {x y : Code} {env : Env} {L : Frags} {N X R} {b : Bool} (hc : ev? env c = some (.bool b)) (hb : b = false)
    (he : wpC P H0 n y env L N X R) : wpC P H0 n (.cond c x y) env L N X R :=
  C.cond hc (fun h => by rw [hb] at h; cases h) (fun _ => he)

/-- A loop: 'I m' holds at each round's head, each round lowers m. -/
theorem C.loop {c : Code} {env : Env} {L : Frags} {N X R} (I : Nat → Post) (m : Nat) (h0 : I m env L)
    (round : ∀ m env L, I m env L → wpC P H0 n c env L (fun e l => ∃ m', m' < m ∧ I m' e l) X R) : wpC P H0 n (.loop c) env L N X R := by
  intro a w hf hw Q s
  refine wp_loop_ghost (fun k a' w' => ∃ env' L', I k env' L' ∧ Fits n env' a' ∧ To H0 w L w' L') m ⟨env, L, h0, hf, To.refl hw⟩ ?_
  rintro k a' w' ⟨env', L', hI, f, t⟩
  refine round k env' L' hI a' w' f t.st _ ⟨fun e l a2 w2 ⟨m', hm, hI'⟩ f2 t2 => ⟨m', hm, e, l, hI', f2, t.trans t2⟩, fun i K hk e l a2 w2 hK f2 t2 => s.exit i K hk e l a2 w2 hK f2 (t.trans t2),
        fun i K hk e l a2 w2 hK f2 t2 => s.goto i K hk e l a2 w2 hK f2 (t.trans t2), fun e l a2 w2 hK f2 t2 => s.ret e l a2 w2 hK f2 (t.trans t2)⟩

/-- As Q; by a goto to label l: J l. -/
def jumps (J : Nat → Act → World → Prop) (Q : Exit → Act → World → Prop) : Exit → Act → World → Prop
  | .goto l, a, w => J l a w
  | e, a, w => Q e a w

theorem wp_scope_labels {c : Code} {Q : Exit → Act → World → Prop} {a : Act} {w : World} (J : Nat → Nat → Act → World → Prop)
    (first : c.wp P (jumps (fun l a' w' => ∃ m, J l m a' w') Q) a w)
    (pass : ∀ l m a w, J l m a w → ∃ rest, findLabel c l = some rest ∧ rest.wp P (jumps (fun l' a' w' => ∃ m', m' < m ∧ J l' m' a' w') Q) a w) : (Code.scope c).wp P Q a w := by
  intro b k cs
  have key : ∀ m l a w, J l m a w → ∃ rest, findLabel c l = some rest ∧ ∃ e a' w', Q e a' w' ∧ Arrives P (lone (b.at a (.code rest :: .inScope c :: k)) cs w) b k cs e a' w' := by
    intro m
    induction m using Nat.strongRecOn with
    | _ m ih =>
      intro l a w hJ
      obtain ⟨rest, hf, hp⟩ := pass l m a w hJ
      refine ⟨rest, hf, ?_⟩
      obtain ⟨e, a₁, w₁, hq, harr⟩ := hp b (.inScope c :: k) cs
      cases e with
      | normal => exact ⟨.normal, a₁, w₁, hq, Steps.trans harr (.one step_inScope)⟩
      | exit id => exact ⟨.exit id, a₁, w₁, hq, fun k' hk => harr k' (by simp [exitTo, hk])⟩
      | goto l' =>
        obtain ⟨m', hlt, hJ'⟩ := hq
        obtain ⟨rest', hf', e₂, a₂, w₂, hq₂, harr₂⟩ := ih m' hlt l' a₁ w₁ hJ'
        have hg : gotoIn l' (.inScope c :: k) = some (.code rest' :: .inScope c :: k) := by simp [gotoIn, hf']
        exact ⟨e₂, a₂, w₂, hq₂, .of_steps (harr _ hg) harr₂⟩
      | ret => exact ⟨_, a₁, w₁, hq, harr⟩
      | panic ch => exact ⟨_, a₁, w₁, hq, harr⟩
      | outgrown => exact ⟨_, a₁, w₁, hq, harr⟩
  obtain ⟨e, a₁, w₁, hq, harr⟩ := first b (.inScope c :: k) cs
  cases e with
  | normal => exact ⟨.normal, a₁, w₁, hq, .head step_scope (Steps.trans harr (.one step_inScope))⟩
  | exit id => exact ⟨.exit id, a₁, w₁, hq, fun k' hk => .head step_scope (harr k' (by simp [exitTo, hk]))⟩
  | goto l' =>
    obtain ⟨m, hJ'⟩ := hq
    obtain ⟨rest', hf', e₂, a₂, w₂, hq₂, harr₂⟩ := key m l' a₁ w₁ hJ'
    have hg : gotoIn l' (.inScope c :: k) = some (.code rest' :: .inScope c :: k) := by simp [gotoIn, hf']
    exact ⟨e₂, a₂, w₂, hq₂, .of_steps (.head step_scope (harr _ hg)) harr₂⟩
  | ret => exact ⟨_, a₁, w₁, hq, .of_steps (.one step_scope) harr⟩
  | panic ch => exact ⟨_, a₁, w₁, hq, .of_steps (.one step_scope) harr⟩
  | outgrown => exact ⟨_, a₁, w₁, hq, .of_steps (.one step_scope) harr⟩

/-- A scope with labels l1 and l2 (twice the same where there is one): 'J l m' holds at each jump to l, each pass lowers m. -/
theorem C.scope {c : Code} {env : Env} {L : Frags} {N X R} (l1 l2 : Nat) (J : Nat → Nat → Post)
    (first : wpC P H0 n c env L N ((2 * l1 + 1, fun e l => ∃ m, J l1 m e l) :: (2 * l2 + 1, fun e l => ∃ m, J l2 m e l) :: X) R)
    (pass : ∀ l m env L, (l = l1 ∨ l = l2) → J l m env L → ∃ rest, findLabel c l = some rest ∧
      wpC P H0 n rest env L N ((2 * l1 + 1, fun e l => ∃ m', m' < m ∧ J l1 m' e l) :: (2 * l2 + 1, fun e l => ∃ m', m' < m ∧ J l2 m' e l) :: X) R)
    (hX : ∀ i, look X (2 * i + 1) = none) : wpC P H0 n (.scope c) env L N X R := by
  intro a w hf hw Q s
  refine wp_scope_labels (fun l m a' w' => (l = l1 ∨ l = l2) ∧ ∃ env' L', J l m env' L' ∧ Fits n env' a' ∧ To H0 w L w' L') ?_ ?_
  · refine first a w hf hw _ ⟨s.normal, fun i K hk => ?_, fun i K hk e l a' w' hK f t => ?_, s.ret⟩
    · have e1 : Nat.beq (2 * l1 + 1) (2 * i) = false := by
        cases hb : Nat.beq (2 * l1 + 1) (2 * i) with
        | false => rfl
        | true => have := Nat.eq_of_beq_eq_true hb; omega
      have e2 : Nat.beq (2 * l2 + 1) (2 * i) = false := by
        cases hb : Nat.beq (2 * l2 + 1) (2 * i) with
        | false => rfl
        | true => have := Nat.eq_of_beq_eq_true hb; omega
      simp only [look, e1, e2, cond_false] at hk
      exact s.exit i K hk
    · simp only [look, hX] at hk
      simp only [jumps]
      cases hb : Nat.beq (2 * l1 + 1) (2 * i + 1) with
      | true =>
        have : i = l1 := by have := Nat.eq_of_beq_eq_true hb; omega
        simp only [hb, cond_true, Option.some.injEq] at hk
        subst hk
        obtain ⟨m, hm⟩ := hK
        exact ⟨m, .inl this, e, l, by rw [this]; exact hm, f, t⟩
      | false =>
        simp only [hb, cond_false] at hk
        cases hb2 : Nat.beq (2 * l2 + 1) (2 * i + 1) with
        | true =>
          have : i = l2 := by have := Nat.eq_of_beq_eq_true hb2; omega
          simp only [hb2, cond_true, Option.some.injEq] at hk
          subst hk
          obtain ⟨m, hm⟩ := hK
          exact ⟨m, .inr this, e, l, by rw [this]; exact hm, f, t⟩
        | false => simp only [hb2, cond_false] at hk; cases hk
  · rintro l m a' w' ⟨hl, env', L', hJ, f, t⟩
    obtain ⟨rest, hr, hp⟩ := pass l m env' L' hl hJ
    refine ⟨rest, hr, hp a' w' f t.st _ ⟨fun e l a2 w2 h f2 t2 => s.normal e l a2 w2 h f2 (t.trans t2), fun i K hk e l a2 w2 hK f2 t2 => ?_, fun i K hk e l a2 w2 hK f2 t2 => ?_,
      fun e l a2 w2 hK f2 t2 => s.ret e l a2 w2 hK f2 (t.trans t2)⟩⟩
    · have e1 : Nat.beq (2 * l1 + 1) (2 * i) = false := by
        cases hb : Nat.beq (2 * l1 + 1) (2 * i) with
        | false => rfl
        | true => have := Nat.eq_of_beq_eq_true hb; omega
      have e2 : Nat.beq (2 * l2 + 1) (2 * i) = false := by
        cases hb : Nat.beq (2 * l2 + 1) (2 * i) with
        | false => rfl
        | true => have := Nat.eq_of_beq_eq_true hb; omega
      simp only [look, e1, e2, cond_false] at hk
      exact s.exit i K hk e l a2 w2 hK f2 (t.trans t2)
    · simp only [look, hX] at hk
      simp only [jumps]
      cases hb : Nat.beq (2 * l1 + 1) (2 * i + 1) with
      | true =>
        have : i = l1 := by have := Nat.eq_of_beq_eq_true hb; omega
        simp only [hb, cond_true, Option.some.injEq] at hk
        subst hk
        obtain ⟨m', hm, hm'⟩ := hK
        exact ⟨m', hm, .inl this, e, l, by rw [this]; exact hm', f2, t.trans t2⟩
      | false =>
        simp only [hb, cond_false] at hk
        cases hb2 : Nat.beq (2 * l2 + 1) (2 * i + 1) with
        | true =>
          have : i = l2 := by have := Nat.eq_of_beq_eq_true hb2; omega
          simp only [hb2, cond_true, Option.some.injEq] at hk
          subst hk
          obtain ⟨m', hm, hm'⟩ := hK
          exact ⟨m', hm, .inr this, e, l, by rw [this]; exact hm', f2, t.trans t2⟩
        | false => simp only [hb2, cond_false] at hk; cases hk

/-! ### Operations in the text's order -/

theorem C.region {id : Nat} {l : List Oper} {env : Env} {L : Frags} {N X R} (h : wpE P H0 n l.toArray l env L N) : wpC P H0 n (.region id l.toArray false) env L N X R :=
  fun a w hf hw _ s => wp_region_lit (h a w hf hw _ s.normal)

theorem E.nil {ops : Array Oper} {env : Env} {L : Frags} {N : Post} (h : N env L) : wpE P H0 n ops [] env L N :=
  fun _ w hf hw _ k => k env L _ w h hf (To.refl hw)

/-- The end of a statement: what is kept of the slots. -/
theorem E.keep {ops : Array Oper} {env env1 : Env} {L : Frags} {N : Post} (ts : List Nat) (hk : keeps env ts = some env1) (h : N env1 L) : wpE P H0 n ops [] env L N :=
  fun _ w hf hw _ k => k env1 L _ w h (hf.keeps hk) (To.refl hw)

theorem E.perm {ops : Array Oper} {l : List Oper} {env : Env} {L L2 : Frags} {N : Post} (p : L.Perm L2) (h : wpE P H0 n ops l env L2 N) : wpE P H0 n ops l env L N :=
  fun a w hf hw Q k => h a w hf (hw.perm p) Q fun e l a w h f t => k e l a w h f (t.permL p)

theorem E.relist {ops : Array Oper} {l : List Oper} {env : Env} {L L2 : Frags} {N : Post} (p : L = L2) (h : wpE P H0 n ops l env L2 N) : wpE P H0 n ops l env L N := p ▸ h

theorem E.still {ops : Array Oper} {d : Nat} {op : Op} {ty : TypeId} {pos : String} {af : Array Edge} {rest : List Oper} {env : Env} {L : Frags} {N : Post} {v : Value}
    (h : OpS P H0 n op ty env L v) (hd : Nat.blt d n = true) (k : wpE P H0 n ops rest ((d, v) :: env) L N) :
    wpE P H0 n ops (⟨some d, op, ty, pos, af, none⟩ :: rest) env L N := by
  intro a w hf hw Q hq
  have hd' : d < n := by rw [Nat.blt_eq] at hd; exact hd
  have h1 := h a w hf hw
  simp only [wpList, Region.wanted, if_true]
  refine .inl ?_
  simp only [Oper.wp, execOp_exop, h1, Oper.upon]
  exact k _ _ (hf.put hd' v) hw Q hq

theorem E.pure {ops : Array Oper} {d : Nat} {op : Op} {ty : TypeId} {pos : String} {af : Array Edge} {rest : List Oper} {env : Env} {L : Frags} {N : Post} {v : Value}
    (h : OpP P n op ty env v) (hd : Nat.blt d n = true) (k : wpE P H0 n ops rest ((d, v) :: env) L N) :
    wpE P H0 n ops (⟨some d, op, ty, pos, af, none⟩ :: rest) env L N :=
  E.still (fun a w hf _ => h a w hf) hd k

def ext (dst : Option Nat) (v : Value) (env : Env) : Env := match dst with | some d => (d, v) :: env | none => env

def dstOk (dst : Option Nat) (n : Nat) : Bool := match dst with | some d => Nat.blt d n | none => true

theorem Fits.ext {env : Env} {a : Act} (h : Fits n env a) {dst : Option Nat} (hd : dstOk dst n = true) (v : Value) : Fits n (ext dst v env) (a.put dst v) := by
  cases dst with
  | none => exact h
  | some d => exact h.put (by simpa [dstOk, Nat.blt_eq] using hd) v

theorem upon_of_out {o : Oper} {a : Act} {w : World} {env : Env} {L : Frags} {R : Value → Frags → Prop} (hf : Fits n env a) (hd : dstOk o.dst n = true) {next : Act → World → Prop} {Q : Exit → Act → World → Prop}
    (k : ∀ v L' w', R v L' → To H0 w L w' L' → next (a.put o.dst v) w') : ∀ {r : Result Next}, Out P H0 w L R r → o.upon P a next Q r
  | .ok (.value v) w', h => by obtain ⟨L', r, t⟩ := h; exact k _ _ _ r t
  | .ok .skip w', h => by obtain ⟨L', r, t⟩ := h; exact k _ _ _ r t
  | .ok (.enter f args) w', h => by
    simp only [Oper.upon]
    refine Calls.mono h ?_
    rintro e w'' ⟨v, L', rfl, r, t⟩
    exact k _ _ _ r t

theorem E.loud {ops : Array Oper} {dst : Option Nat} {op : Op} {ty : TypeId} {pos : String} {af : Array Edge} {rest : List Oper} {env : Env} {L : Frags} {N : Post} {R : Value → Frags → Prop}
    (h : OpX P H0 n op ty env L R) (hd : dstOk dst n = true) (k : ∀ v L', R v L' → wpE P H0 n ops rest (ext dst v env) L' N) :
    wpE P H0 n ops (⟨dst, op, ty, pos, af, none⟩ :: rest) env L N := by
  intro a w hf hw Q hq
  have h1 := h a w hf hw
  simp only [wpList, Region.wanted, if_true]
  refine .inl ?_
  simp only [Oper.wp, execOp_exop]
  refine upon_of_out hf hd (fun v L' w' hr t => ?_) h1
  exact k v L' hr _ w' (hf.ext hd v) t.st Q fun e l a2 w2 h f t2 => hq e l a2 w2 h f (t.trans t2)

/-- A guarded operation: the guard says yes. -/
theorem E.guardYes {ops : Array Oper} {dst : Option Nat} {op : Op} {ty : TypeId} {pos : String} {af : Array Edge} {j : Nat} {b : Bool} {rest : List Oper} {env : Env} {L : Frags} {N : Post}
    (t : Nat) (ht : (ops[j]?).bind (·.dst) = some t) (hv : get? env t = some (.bool b))
    (k : ∀ rest', (∀ env L, wpE P H0 n ops rest env L N → wpE P H0 n ops rest' env L N) → wpE P H0 n ops (⟨dst, op, ty, pos, af, none⟩ :: rest') env L N) :
    wpE P H0 n ops (⟨dst, op, ty, pos, af, some (j, b)⟩ :: rest) env L N := by
  intro a w hf hw Q hq
  have h1 := k rest (fun _ _ h => h) a w hf hw Q hq
  have hy : yielded ops a.tmps j = some b := by
    have := hf.val t _ hv
    unfold yielded
    rw [ht]
    simp only [Option.bind_some]
    rw [Array.getD_eq_getD_getElem?] at this
    cases hx : a.tmps[t]? with
    | none => rw [hx] at this; simp [undef] at this
    | some x => rw [hx] at this; simp only [Option.getD_some] at this; subst this; rfl
  simp only [wpList, Region.wanted, hy, beq_self_eq_true, if_true] at h1 ⊢
  exact h1

theorem E.guardNo {ops : Array Oper} {dst : Option Nat} {op : Op} {ty : TypeId} {pos : String} {af : Array Edge} {j : Nat} {b : Bool} {rest : List Oper} {env : Env} {L : Frags} {N : Post}
    (t : Nat) (c : Bool) (ht : (ops[j]?).bind (·.dst) = some t) (hv : get? env t = some (.bool c)) (hc : c = !b) (hd : dstOk dst n = true)
    (k : wpE P H0 n ops rest (ext dst undef env) L N) :
    wpE P H0 n ops (⟨dst, op, ty, pos, af, some (j, b)⟩ :: rest) env L N := by
  intro a w hf hw Q hq
  have hy : yielded ops a.tmps j = some c := by
    have := hf.val t _ hv
    unfold yielded
    rw [ht]
    simp only [Option.bind_some]
    rw [Array.getD_eq_getD_getElem?] at this
    cases hx : a.tmps[t]? with
    | none => rw [hx] at this; simp [undef] at this
    | some x => rw [hx] at this; simp only [Option.getD_some] at this; subst this; rfl
  have hne : (some c == some b) = false := by subst hc; cases b <;> rfl
  simp only [wpList, Region.wanted, hy, hne, Bool.false_eq_true, if_false]
  exact k _ w (hf.ext hd undef) hw Q hq

/-! ### Functions -/

def Ret0 (R : Value → Frags → Prop) : Post := fun _ L => R (.tuple #[]) L
def Ret1 (r : Nat) (R : Value → Frags → Prop) : Post := fun env L => ∃ v, get? env r = some v ∧ R v L
def Ret2 (r s : Nat) (R : Value → Frags → Prop) : Post := fun env L => ∃ u v, get? env r = some u ∧ get? env s = some v ∧ R (.tuple #[u, v]) L

/-- What the slots hold when the body begins. -/
theorem Fn.body {f : FuncId} {fn : Func} {c : Code} {args : Array Value} {L : Frags} {R : Value → Frags → Prop} {RR : Post} (hf : P.funcs[f]? = some fn) (hb : fn.body = some c)
    (env : Env) (hargs : args.size ≤ fn.ntmps) (henv : ∀ t v, get? env t = some v → args[t]? = some v) (hn : fn.ntmps = n)
    (hres : ∀ env' L' a w, RR env' L' → Fits n env' a → Agree H0 L' w.heap → ∃ v, (results fn a.tmps).run P w = .ok v w ∧ R v L')
    (h : wpC P H0 n c env L RR [] RR) : Fn P H0 f args L R := by
  intro w hw
  subst hn
  refine calls_of_wp hf hb (h _ w ⟨rfl, by simp; omega, fun t v hv => ?_⟩ hw _ ⟨fun e l a w' hr f t => ?_, fun _ _ hk => by simp [look] at hk, fun _ _ hk => by simp [look] at hk, fun e l a w' hr f t => ?_⟩)
  · have := henv t v hv
    rw [Array.getD_eq_getD_getElem?, Array.getElem?_append_left (by exact lt_of_some this), this]
    rfl
  · obtain ⟨v, h1, h2⟩ := hres e l a w' hr f t.st
    exact ⟨f.defers, v, h1, v, l, rfl, h2, t⟩
  · obtain ⟨v, h1, h2⟩ := hres e l a w' hr f t.st
    exact ⟨f.defers, v, h1, v, l, rfl, h2, t⟩

theorem res0 {fn : Func} {R : Value → Frags → Prop} (hr : fn.results = #[]) : ∀ env' L' a w, Ret0 R env' L' → Fits n env' a → Agree H0 L' w.heap → ∃ v, (results fn a.tmps).run P w = .ok v w ∧ R v L' :=
  fun _ _ a w h _ _ => ⟨_, results_none hr a.tmps P w, h⟩

theorem res1 {fn : Func} {R : Value → Frags → Prop} {t : Nat} (hr : fn.results = #[.tmp t]) : ∀ env' L' a w, Ret1 t R env' L' → Fits n env' a → Agree H0 L' w.heap → ∃ v, (results fn a.tmps).run P w = .ok v w ∧ R v L' :=
  fun _ _ a w ⟨v, hv, h⟩ f _ => ⟨v, by rw [results_tmp hr a.tmps P w, f.val t v hv], h⟩

theorem res2 {fn : Func} {R : Value → Frags → Prop} {t s : Nat} (hr : fn.results = #[.tmp t, .tmp s]) : ∀ env' L' a w, Ret2 t s R env' L' → Fits n env' a → Agree H0 L' w.heap → ∃ v, (results fn a.tmps).run P w = .ok v w ∧ R v L' :=
  fun _ _ a w ⟨u, v, hu, hv, h⟩ f _ => ⟨.tuple #[u, v], by rw [results_tmp2 hr a.tmps P w, f.val t u hu, f.val s v hv], h⟩

/-- The slots of the parameters. -/
def argEnv : Nat → List Value → Env
  | _, [] => []
  | k, v :: r => (k, v) :: argEnv (k + 1) r

theorem argEnv_get : ∀ (l : List Value) (k t : Nat) (v : Value), get? (argEnv k l) t = some v → k ≤ t ∧ l[t - k]? = some v
  | [], k, t, v, h => by simp [argEnv, get?] at h
  | x :: r, k, t, v, h => by
    simp only [argEnv, get?] at h
    cases hb : Nat.beq k t with
    | true =>
      have : k = t := Nat.eq_of_beq_eq_true hb
      subst this
      simp only [hb, cond_true, Option.some.injEq] at h
      subst h
      simp
    | false =>
      have hne : k ≠ t := Nat.ne_of_beq_eq_false hb
      simp only [hb, cond_false] at h
      have h2 := argEnv_get r (k + 1) t v h
      refine ⟨by omega, ?_⟩
      have e : t - k = (t - (k + 1)) + 1 := by omega
      rw [e, List.getElem?_cons_succ]
      exact h2.2

theorem Fn.intro {f : FuncId} {fn : Func} {c : Code} {args : List Value} {L : Frags} {R : Value → Frags → Prop} {RR : Post} (hf : P.funcs[f]? = some fn) (hb : fn.body = some c)
    (hargs : Nat.ble args.length fn.ntmps = true) (hn : fn.ntmps = n)
    (hres : ∀ env' L' a w, RR env' L' → Fits n env' a → Agree H0 L' w.heap → ∃ v, (results fn a.tmps).run P w = .ok v w ∧ R v L')
    (h : wpC P H0 n c (argEnv 0 args) L RR [] RR) : Fn P H0 f args.toArray L R :=
  Fn.body hf hb (argEnv 0 args) (by simpa using Nat.le_of_ble_eq_true hargs) (fun t v hv => by have := (argEnv_get args 0 t v hv).2; simpa using this) hn hres h
end
end Go.Eng
