/-
  Engine, part 4: picking fragments, and regions whose order of operations Go leaves open: a plan of one order that stands for all.
-/
import Derived.Test.YtbjbmpcgiokdaaaDoorEng3
set_option linter.unusedVariables false
set_option linter.unusedSimpArgs false
namespace Go.Eng
open Go

/-- The fragments at these places, each counted in what is left; and the rest. -/
def picks : List Nat → Frags → Option (Frags × Frags)
  | [], L => some ([], L)
  | i :: is, L => match pull L i with
    | some (x, r) => match picks is r with
      | some (A, F) => some (x :: A, F)
      | none => none
    | none => none

theorem picks_perm : ∀ {is : List Nat} {L A F : Frags}, picks is L = some (A, F) → L.Perm (A ++ F)
  | [], L, A, F, h => by
    simp only [picks, Option.some.injEq, Prod.mk.injEq] at h
    obtain ⟨rfl, rfl⟩ := h
    exact .refl _
  | i :: is, L, A, F, h => by
    simp only [picks] at h
    split at h
    · rename_i x r hx
      split at h
      · rename_i A' F' hr
        simp only [Option.some.injEq, Prod.mk.injEq] at h
        obtain ⟨rfl, rfl⟩ := h
        exact (pull_perm hx).trans ((picks_perm hr).cons x)
      · cases h
    · cases h

section
variable {P : Program} {H0 : Known} {n : Nat}

theorem OpX.pick {op : Op} {ty : TypeId} {env : Env} {L A F : Frags} {R : Value → Frags → Prop} (is : List Nat) (hp : picks is L = some (A, F)) (h : OpX P H0 n op ty env A R) :
    OpX P H0 n op ty env L fun v L' => ∃ L1, R v L1 ∧ L' = L1 ++ F := (OpX.frame h).perm (picks_perm hp)

theorem Fn.pick {f : FuncId} {args : Array Value} {L A F : Frags} {R : Value → Frags → Prop} (is : List Nat) (hp : picks is L = some (A, F)) (h : Fn P H0 f args A R) :
    Fn P H0 f args L fun v L' => ∃ L1, R v L1 ∧ L' = L1 ++ F := (Fn.frame h).perm (picks_perm hp)

theorem E.loud1 {ops : Array Oper} {d : Nat} {op : Op} {ty : TypeId} {pos : String} {af : Array Edge} {rest : List Oper} {env : Env} {L : Frags} {N : Post} {R : Value → Frags → Prop}
    (h : OpX P H0 n op ty env L R) (hd : Nat.blt d n = true) (k : ∀ v L', R v L' → wpE P H0 n ops rest ((d, v) :: env) L' N) :
    wpE P H0 n ops (⟨some d, op, ty, pos, af, none⟩ :: rest) env L N := E.loud h hd k

theorem E.loud0 {ops : Array Oper} {op : Op} {ty : TypeId} {pos : String} {af : Array Edge} {rest : List Oper} {env : Env} {L : Frags} {N : Post} {R : Value → Frags → Prop}
    (h : OpX P H0 n op ty env L R) (k : ∀ v L', R v L' → wpE P H0 n ops rest env L' N) :
    wpE P H0 n ops (⟨none, op, ty, pos, af, none⟩ :: rest) env L N := E.loud h rfl k

theorem E.perml {ops : Array Oper} {l : List Oper} {env : Env} {L A F : Frags} {N : Post} (is : List Nat) (hp : picks is L = some (A, F)) (h : wpE P H0 n ops l env (A ++ F) N) : wpE P H0 n ops l env L N := E.perm (picks_perm hp) h

theorem C.perml {c : Code} {env : Env} {L A F : Frags} {N X R} (is : List Nat) (hp : picks is L = some (A, F)) (h : wpC P H0 n c env (A ++ F) N X R) : wpC P H0 n c env L N X R := C.perm (picks_perm hp) h

theorem C.cut {x y : Code} {env : Env} {L : Frags} {N X R} {M : Post} (hx : wpC P H0 n x env L M X R) (hy : ∀ e l, M e l → wpC P H0 n y e l N X R) : wpC P H0 n (.seq x y) env L N X R :=
  C.seq (C.mono hy hx)

theorem C.relist {c : Code} {env : Env} {L L2 : Frags} {N X R} (p : L = L2) (h : wpC P H0 n c env L2 N X R) : wpC P H0 n c env L N X R := p ▸ h

theorem C.reenv {c : Code} {env env2 : Env} {L : Frags} {N X R} (p : env = env2) (h : wpC P H0 n c env2 L N X R) : wpC P H0 n c env L N X R := p ▸ h

/-- Fragments that are of no more use are forgotten. -/
theorem C.forget {c : Code} {env : Env} {L A F : Frags} {N X R} (is : List Nat) (hp : picks is L = some (A, F)) (h : wpC P H0 n c env A N X R) : wpC P H0 n c env L N X R := by
  intro a w hf hw Q s
  have p := picks_perm hp
  have hA : Agree H0 (A ++ F) w.heap := hw.perm p
  have base : ∀ {w' L'}, To H0 w A w' L' → To H0 w L w' L' := fun t => (To.frame hA t).drop.permL p
  exact h a w hf hA.drop Q ⟨fun e l a' w' h f t => s.normal e l a' w' h f (base t), fun i K hk e l a' w' h f t => s.exit i K hk e l a' w' h f (base t),
    fun i K hk e l a' w' h f t => s.goto i K hk e l a' w' h f (base t), fun e l a' w' h f t => s.ret e l a' w' h f (base t)⟩

theorem E.forget {ops : Array Oper} {l : List Oper} {env : Env} {L A F : Frags} {N : Post} (is : List Nat) (hp : picks is L = some (A, F)) (h : wpE P H0 n ops l env A N) : wpE P H0 n ops l env L N := by
  intro a w hf hw Q s
  have p := picks_perm hp
  have hA : Agree H0 (A ++ F) w.heap := hw.perm p
  exact h a w hf hA.drop Q fun e l a' w' h f t => s e l a' w' h f ((To.frame hA t).drop.permL p)

/-- All that is there becomes known and stays, inside. -/
theorem C.known {c : Code} {env : Env} {L : Frags} {N X R}
    (h : ∀ K : Known, (∀ b o, H0 b = some o → K b = some o) → (∀ f ∈ L, ∀ j v, f.cs[j]? = some v → cellAt K f.b (f.o + j) = some v) →
      wpC P K n c env [] (fun e l => N e (l ++ L)) (X.map fun p => (p.1, fun e l => p.2 e (l ++ L))) (fun e l => R e (l ++ L))) : wpC P H0 n c env L N X R := by
  intro a w hf hw Q s
  let K : Known := fun b => match H0 b with
    | some o => some o
    | none => w.heap[b]?
  have hK1 : ∀ b o, H0 b = some o → K b = some o := fun b o hb => by simp only [K, hb]
  have hK2 : K.sits w.heap := fun b o hb => by
    simp only [K] at hb
    split at hb
    · rename_i o' ho
      simp only [Option.some.injEq] at hb
      subst hb
      exact hw.base b _ ho
    · exact hb
  have hK3 : ∀ b, b < w.heap.size → ∃ o, K b = some o ∧ w.heap[b]? = some o := fun b hb => by
    cases hk : H0 b with
    | some o => exact ⟨o, hK1 b o hk, hw.base b o hk⟩
    | none => exact ⟨w.heap[b], by simp only [K, hk]; exact Array.getElem?_eq_getElem hb, Array.getElem?_eq_getElem hb⟩
  have hcell : ∀ f ∈ L, ∀ j v, f.cs[j]? = some v → cellAt K f.b (f.o + j) = some v := fun f hfL j v hj => by
    obtain ⟨cc, t, fr, hb, hv, _⟩ := (hw.ok f hfL).row
    have hl := (List.getElem?_eq_some_iff.1 hj).1
    have h1 := hv j hl
    obtain ⟨o, ho, ho2⟩ := hK3 f.b (lt_of_some hb)
    rw [hb, Option.some.injEq] at ho2
    subst ho2
    rw [List.getElem?_eq_getElem hl] at hj
    simp only [cellAt, ho, h1]
    simpa using hj
  have up : ∀ {w' L'}, To K w [] w' L' → To H0 w L w' (L' ++ L) := by
    intro w' L' t
    have same : ∀ b, b < w.heap.size → w'.heap[b]? = w.heap[b]? := fun b hb => t.old b hb (fun f hf => by cases hf)
    have okL : ∀ f ∈ L, f.ok w'.heap := fun f hf => by
      obtain ⟨cc, t, fr, hb, hv⟩ := (hw.ok f hf).row
      exact ⟨cc, t, fr, by rw [same _ (lt_of_some hb)]; exact hb, hv⟩
    have new : ∀ f ∈ L', w.heap.size ≤ f.b := fun f hf => by
      rcases t.foot f hf with h1 | ⟨⟨g, hg, _⟩, _⟩
      · exact h1
      · cases hg
    refine ⟨⟨fun b o hb => ?_, fun f hf => ?_, fun f hf => ?_, ?_⟩, t.size, fun b hb _ => same b hb, fun b cc tt fr hb => ⟨cc, by rw [same b (lt_of_some hb)]; exact hb, rfl, fun _ _ => rfl⟩, fun f hf => ?_, t.os, t.tape, t.output⟩
    · have h1 := hw.base b o hb
      rw [same b (lt_of_some h1)]; exact h1
    · rcases List.mem_append.1 hf with h1 | h1
      · cases hk : H0 f.b with
        | none => rfl
        | some o => exact absurd (lt_of_some (hw.base _ o hk)) (by have := new f h1; omega)
      · exact hw.up f h1
    · rcases List.mem_append.1 hf with h1 | h1
      · exact t.st.ok f h1
      · exact okL f h1
    · refine List.pairwise_append.2 ⟨t.st.dis, hw.dis, fun f hf g hg b j h1 h2 => ?_⟩
      have e1 := new f hf
      have e2 := (hw.ok g hg).lt
      have e3 := h1.1
      have e4 := h2.1
      omega
    · rcases List.mem_append.1 hf with h1 | h1
      · exact .inl (new f h1)
      · exact .inr ⟨⟨f, h1, rfl⟩, fun j hj => ⟨f, h1, hj⟩⟩
  have lookMap : ∀ (X : List (Nat × Post)) t K', look (X.map fun p => (p.1, fun e l => p.2 e (l ++ L))) t = some K' → ∃ K0, look X t = some K0 ∧ K' = fun e l => K0 e (l ++ L) := by
    intro X
    induction X with
    | nil => intro t K' h; simp [look] at h
    | cons p r ih =>
      intro t K' h
      simp only [List.map_cons, look] at h ⊢
      cases hb : Nat.beq p.1 t with
      | true =>
        simp only [hb, cond_true, Option.some.injEq] at h ⊢
        exact ⟨p.2, rfl, h.symm⟩
      | false =>
        simp only [hb, cond_false] at h ⊢
        exact ih t K' h
  refine h K hK1 hcell a w hf ⟨hK2, (fun f hf => by cases hf), (fun f hf => by cases hf), List.Pairwise.nil⟩ Q ⟨fun e l a' w' h f t => s.normal e _ a' w' h f (up t), fun i K' hk e l a' w' h f t => ?_,
    fun i K' hk e l a' w' h f t => ?_, fun e l a' w' h f t => s.ret e _ a' w' h f (up t)⟩
  · obtain ⟨K0, h1, rfl⟩ := lookMap X _ _ hk
    exact s.exit i K0 h1 e _ a' w' h f (up t)
  · obtain ⟨K0, h1, rfl⟩ := lookMap X _ _ hk
    exact s.goto i K0 h1 e _ a' w' h f (up t)

/-- A call that changes nothing that is there: all of memory is known to it. -/
theorem Fn.still {f : FuncId} {args : Array Value} {L : Frags} {R : Value → Frags → Prop}
    (h : ∀ w : World, Agree H0 L w.heap → Fn P (fun b => w.heap[b]?) f args [] R) : Fn P H0 f args L fun v L' => ∃ L1, R v L1 ∧ L' = L1 ++ L := by
  intro w hw
  refine Calls.mono (h w hw w ⟨fun b o hb => hb, (fun f hf => by cases hf), (fun f hf => by cases hf), List.Pairwise.nil⟩) ?_
  rintro e w' ⟨v, L', rfl, hr, t⟩
  refine ⟨v, L' ++ L, rfl, ⟨L', hr, rfl⟩, ?_⟩
  have same : ∀ b, b < w.heap.size → w'.heap[b]? = w.heap[b]? := fun b hb => t.old b hb (fun f hf => by cases hf)
  have new : ∀ f ∈ L', w.heap.size ≤ f.b := fun f hf => by
    rcases t.foot f hf with h1 | ⟨⟨g, hg, _⟩, _⟩
    · exact h1
    · cases hg
  refine ⟨⟨fun b o hb => ?_, fun f hf => ?_, fun f hf => ?_, ?_⟩, t.size, fun b hb _ => same b hb, fun b cc tt fr hb => ⟨cc, by rw [same b (lt_of_some hb)]; exact hb, rfl, fun _ _ => rfl⟩, fun f hf => ?_, t.os, t.tape, t.output⟩
  · have h1 := hw.base b o hb
    rw [same b (lt_of_some h1)]; exact h1
  · rcases List.mem_append.1 hf with h1 | h1
    · cases hk : H0 f.b with
      | none => rfl
      | some o => exact absurd (lt_of_some (hw.base _ o hk)) (by have := new f h1; omega)
    · exact hw.up f h1
  · rcases List.mem_append.1 hf with h1 | h1
    · exact t.st.ok f h1
    · obtain ⟨cc, t, fr, hb, hv⟩ := (hw.ok f h1).row
      exact ⟨cc, t, fr, by rw [same _ (lt_of_some hb)]; exact hb, hv⟩
  · refine List.pairwise_append.2 ⟨t.st.dis, hw.dis, fun f hf g hg b j h1 h2 => ?_⟩
    have e1 := new f hf
    have e2 := (hw.ok g hg).lt
    have e3 := h1.1
    have e4 := h2.1
    omega
  · rcases List.mem_append.1 hf with h1 | h1
    · exact .inl (new f h1)
    · exact .inr ⟨⟨f, h1, rfl⟩, fun j hj => ⟨f, h1, hj⟩⟩

/-- The same where nothing is left behind. -/
theorem Fn.stillR {f : FuncId} {args : Array Value} {L : Frags} {R : Value → Prop}
    (h : ∀ w : World, Agree H0 L w.heap → Fn P (fun b => w.heap[b]?) f args [] fun v _ => R v) : Fn P H0 f args L fun v L' => R v ∧ L' = L := by
  intro w hw
  refine Calls.mono (Fn.still (fun w hw => h w hw) w hw) ?_
  rintro e w' ⟨v, L', rfl, ⟨L1, hr, rfl⟩, t⟩
  exact ⟨v, L, rfl, ⟨hr, rfl⟩, (t.permR List.perm_append_comm).drop⟩

theorem Agree.cellAt {L : Frags} {w : World} (hw : Agree H0 L w.heap) {f : Frag} (hf : f ∈ L) {j : Nat} {v : Value} (hj : f.cs[j]? = some v) : cellAt (fun b => w.heap[b]?) f.b (f.o + j) = some v := by
  obtain ⟨c, t, fr, hb, hv, _⟩ := (hw.ok f hf).row
  have hl := (List.getElem?_eq_some_iff.1 hj).1
  have h1 := hv j hl
  rw [List.getElem?_eq_getElem hl] at hj
  simp only [Go.Eng.cellAt, hb, h1]
  simpa using hj

/-! ### Plans -/

/-- An order of a region's operations that stands for all: 'pure i cl': operation i, whose value hangs on no memory that may change, may be taken first (cl: what may come ahead of it, as bits); 'seg s': these come ahead of all others, and only read; 'alt': each of these may come. -/
inductive Plan where
  | done
  | pure (i cl : Nat) (rest : Plan)
  | seg (s : List (Nat × Nat)) (rest : Plan)
  | alt (i : Nat) (p : Plan) (more : Plan)
  | stop

def closedB (ops : Array Oper) (i : Nat) (cl : Array Bool) : Bool :=
  (List.range ops.size).all fun j => j == i || cl.getD j true || !(Region.ready .any ops cl).contains j

def subB (ops : Array Oper) (l cl : Array Bool) : Bool := (List.range ops.size).all fun j => !l.getD j true || cl.getD j false

def selB (ops : Array Oper) : Bool := ops.all fun o => match o.op with | .select .. => false | _ => true

def inList : Option (List Nat) → Nat → Bool
  | some s, j => s.contains j
  | none, _ => true

/-- Operations that may come ahead of i are apart from it (and, where a list is given, in it). -/
def apartB (ops : Array Oper) (i : Nat) (l cl : Array Bool) (inn : Option (List Nat)) : Bool :=
  match ops[i]? with
  | none => false
  | some oi => (List.range ops.size).all fun j => match ops[j]? with
    | none => true
    | some oj => j == i || l.getD j true || !cl.getD j true || (oi.apart ops oj && inList inn j)

/-! The same by bits. -/

def depMask (o : Oper) : Nat := o.after.toList.foldl (fun m e => if Region.binds .any e then m ||| 2 ^ e.on else m) 0

def depsB (ops : Array Oper) (ds : List Nat) : Bool := ops.toList.map depMask == ds

def readyM (ds : List Nat) (l j : Nat) : Bool := !l.testBit j && (ds.getD j 0 &&& l == ds.getD j 0)

def firstM (ops : Array Oper) (ds : List Nat) (i l cl : Nat) (inn : Option (List Nat)) : Bool :=
  readyM ds l i && (l &&& cl == l) && decide (cl < 2 ^ ops.size) &&
    (match ops[i]? with
     | none => false
     | some oi => (List.range ops.size).all fun j =>
        j == i || (if cl.testBit j then l.testBit j || ((match ops[j]? with | some oj => oi.apart ops oj | none => false) && inList inn j) else !(ds.getD j 0 &&& cl == ds.getD j 0)))

def segM (ops : Array Oper) (ds : List Nat) : List (Nat × Nat) → Nat → Bool
  | [], _ => true
  | p :: s, l => firstM ops ds p.1 l p.2 (some (s.map (·.1))) && segM ops ds s (l ||| 2 ^ p.1)

def allM : List (Nat × Nat) → Nat → Nat
  | [], l => l
  | p :: s, l => allM s (l ||| 2 ^ p.1)

def Plan.alts : Plan → List Nat
  | .alt i _ m => i :: m.alts
  | _ => []

def Plan.ok (ops : Array Oper) (ds : List Nat) : Plan → Nat → Bool → Nat → Bool
  | .done, f, _, l => f == 0 && (List.range ops.size).all fun j => !readyM ds l j
  | .pure i cl r, f, _, l => match f with
    | 0 => false
    | f + 1 => firstM ops ds i l cl none && r.ok ops ds f true (l ||| 2 ^ i)
  | .seg s r, f, _, l => decide (s.length ≤ f) && segM ops ds s l && r.ok ops ds (f - s.length) true (allM s l)
  | .alt i p m, f, first, l => match f with
    | 0 => false
    | f' + 1 => (!first || (readyM ds l i && (List.range ops.size).all fun j => !readyM ds l j || j == i || m.alts.contains j)) && decide (i < ops.size) && p.ok ops ds f' true (l ||| 2 ^ i) && m.ok ops ds f false l
  | .stop, _, first, _ => !first

section
variable {ops : Array Oper} {ds : List Nat}

/-- The bits l say what is listed. -/
structure Rep (ops : Array Oper) (listed : Array Bool) (l : Nat) : Prop where
  size : listed.size = ops.size
  bit : ∀ j, listed.getD j false = l.testBit j

theorem Rep.set {listed : Array Bool} {l i : Nat} (h : Rep ops listed l) (hi : i < ops.size) : Rep ops (listed.setIfInBounds i true) (l ||| 2 ^ i) := by
  refine ⟨by simpa using h.size, fun j => ?_⟩
  rw [Nat.testBit_or, ← h.bit j, Nat.testBit_two_pow]
  by_cases hij : i = j
  · subst hij
    have : i < listed.size := by rw [h.size]; exact hi
    simp [this]
  · rw [getD_set_ne false hij]; simp [hij]

theorem depMask_bit (o : Oper) (k : Nat) : (depMask o).testBit k = true ↔ ∃ e ∈ o.after, Region.binds .any e = true ∧ e.on = k := by
  have key : ∀ (l : List Edge) (m : Nat), (l.foldl (fun m e => if Region.binds .any e then m ||| 2 ^ e.on else m) m).testBit k = true ↔ m.testBit k = true ∨ ∃ e ∈ l, Region.binds .any e = true ∧ e.on = k := by
    intro l
    induction l with
    | nil => intro m; simp
    | cons e r ih =>
      intro m
      rw [List.foldl_cons, ih]
      by_cases hb : Region.binds .any e = true
      · simp only [hb, if_true, Nat.testBit_or, Nat.testBit_two_pow, Bool.or_eq_true, decide_eq_true_eq, List.mem_cons]
        constructor
        · rintro ((h | h) | ⟨x, hx, h⟩)
          · exact .inl h
          · exact .inr ⟨e, .inl rfl, hb, h⟩
          · exact .inr ⟨x, .inr hx, h⟩
        · rintro (h | ⟨x, rfl | hx, h⟩)
          · exact .inl (.inl h)
          · exact .inl (.inr h.2)
          · exact .inr ⟨x, hx, h⟩
      · simp only [hb, if_false, List.mem_cons, Bool.false_eq_true]
        constructor
        · rintro (h | ⟨x, hx, h⟩)
          · exact .inl h
          · exact .inr ⟨x, .inr hx, h⟩
        · rintro (h | ⟨x, rfl | hx, h⟩)
          · exact .inl h
          · exact absurd h.1 hb
          · exact .inr ⟨x, hx, h⟩
  unfold depMask
  rw [key]
  simp

theorem mask_sub {d l : Nat} : (d &&& l == d) = true ↔ ∀ k, d.testBit k = true → l.testBit k = true := by
  rw [beq_iff_eq]
  constructor
  · intro h k hk
    have := congrArg (·.testBit k) h
    simp only [Nat.testBit_and] at this
    rw [hk] at this
    simpa using this
  · intro h
    apply Nat.eq_of_testBit_eq
    intro k
    rw [Nat.testBit_and]
    cases hd : d.testBit k with
    | false => simp
    | true => simp [h k hd]

theorem deps_at (hds : depsB ops ds = true) {j : Nat} {o : Oper} (ho : ops[j]? = some o) : ds.getD j 0 = depMask o := by
  simp only [depsB, beq_iff_eq] at hds
  rw [← hds]
  have : ops.toList[j]? = some o := by simpa using ho
  simp [List.getD, this]

theorem ready_rep (hds : depsB ops ds = true) {listed : Array Bool} {l : Nat} (h : Rep ops listed l) {j : Nat} (hj : j < ops.size) : j ∈ Region.ready .any ops listed ↔ readyM ds l j = true := by
  have ho : ops[j]? = some ops[j] := Array.getElem?_eq_getElem hj
  rw [mem_ready]
  simp only [readyM, deps_at hds ho, Bool.and_eq_true, Bool.not_eq_true', mask_sub, depMask_bit]
  rw [getD_any' (by rw [h.size]; exact hj) true false, h.bit]
  constructor
  · rintro ⟨h1, o, h2, h3⟩
    rw [ho, Option.some.injEq] at h2
    subst h2
    exact ⟨h1, fun k ⟨e, he, hb, hk⟩ => by rw [← hk, ← h.bit]; exact h3 e he hb⟩
  · rintro ⟨h1, h2⟩
    exact ⟨h1, _, ho, fun e he hb => by rw [h.bit]; exact h2 _ ⟨e, he, hb, rfl⟩⟩
where
  getD_any' {l : Array Bool} {k : Nat} (h : k < l.size) (x y : Bool) : l.getD k x = l.getD k y := by simp [h]

theorem ready_lt {listed : Array Bool} {j : Nat} (h : j ∈ Region.ready .any ops listed) : j < ops.size := by
  obtain ⟨_, o, ho, _⟩ := mem_ready.1 h
  exact lt_of_some ho

def maskArr (n m : Nat) : Array Bool := ((List.range n).map fun j => m.testBit j).toArray

theorem maskArr_rep {m : Nat} (hm : m < 2 ^ ops.size) : Rep ops (maskArr ops.size m) m := by
  refine ⟨by simp [maskArr], fun j => ?_⟩
  rcases Nat.lt_or_ge j ops.size with h | h
  · simp [maskArr, h]
  · have h1 : m.testBit j = false := Nat.testBit_lt_two_pow (Nat.lt_of_lt_of_le hm (Nat.pow_le_pow_right (by omega) h))
    rw [h1]
    simp [maskArr, h]

theorem firstB_spec (hds : depsB ops ds = true) {i l cl : Nat} {q : Option (List Nat)} {listed : Array Bool} (hr : Rep ops listed l) (h : firstM ops ds i l cl q = true) :
    ∃ cl : Array Bool, i ∈ Region.ready .any ops listed ∧ closedB ops i cl = true ∧ subB ops listed cl = true ∧ apartB ops i listed cl q = true ∧ listed.size = ops.size ∧ cl.size = ops.size := by
  simp only [firstM, Bool.and_eq_true, decide_eq_true_eq] at h
  obtain ⟨⟨⟨h1, h2⟩, h3⟩, h4⟩ := h
  cases hoi : ops[i]? with
  | none => rw [hoi] at h4; cases h4
  | some oi =>
    rw [hoi] at h4
    simp only [List.all_eq_true, List.mem_range] at h4
    have hi : i < ops.size := lt_of_some hoi
    have hc := maskArr_rep (ops := ops) h3
    have any : ∀ {a : Array Bool} {k : Nat}, k < a.size → ∀ x y, a.getD k x = a.getD k y := fun h x y => by simp [h]
    refine ⟨maskArr ops.size cl, (ready_rep hds hr hi).2 h1, ?_, ?_, ?_, hr.size, hc.size⟩
    · simp only [closedB, List.all_eq_true, List.mem_range]
      intro j hj
      have h5 := h4 j hj
      rw [any (by rw [hc.size]; exact hj) true false, hc.bit]
      by_cases hji : (j == i) = true
      · simp [hji]
      · simp only [hji, Bool.false_or, Bool.or_eq_true] at h5 ⊢
        cases hb : cl.testBit j with
        | true => simp
        | false =>
          rw [hb] at h5
          simp only [Bool.false_eq_true, if_false, Bool.not_eq_true', or_false, false_or] at h5 ⊢
          simp only [List.contains_eq_mem, decide_eq_false_iff_not]
          rw [ready_rep hds hc hj]
          simp only [readyM, Bool.and_eq_true, not_and]
          intro _
          rw [h5]; simp
    · simp only [subB, List.all_eq_true, List.mem_range]
      intro j hj
      rw [any (by rw [hr.size]; exact hj) true false, hr.bit, hc.bit]
      cases hb : l.testBit j with
      | false => simp
      | true => rw [mask_sub.1 h2 j hb]; simp
    · simp only [apartB, hoi, List.all_eq_true, List.mem_range]
      intro j hj
      have h5 := h4 j hj
      have hoj : ops[j]? = some ops[j] := Array.getElem?_eq_getElem hj
      simp only [hoj] at h5 ⊢
      rw [any (by rw [hr.size]; exact hj) true false, hr.bit, any (by rw [hc.size]; exact hj) true false, hc.bit]
      by_cases hji : (j == i) = true
      · simp [hji]
      · simp only [hji, Bool.false_or, Bool.or_eq_true] at h5 ⊢
        cases hb : cl.testBit j with
        | false => simp
        | true =>
          rw [hb] at h5
          simp only [if_true, Bool.or_eq_true] at h5
          rcases h5 with h5 | h5
          · rw [h5]; simp
          · exact .inr h5
end

variable {ops : Array Oper} {Q : Exit → Act → World → Prop}

/-- As 'wpAny', and C holds of every world on the way. -/
def wpAnyC (P : Program) (C : World → Prop) (ops : Array Oper) (Q : Exit → Act → World → Prop) : Nat → Array Bool → Act → World → Prop
  | 0, listed, a, w => Region.ready .any ops listed = [] ∧ Q .normal a w
  | fuel + 1, listed, a, w =>
    (Region.ready .any ops listed = [] → Q .normal a w) ∧
    ∀ i ∈ Region.ready .any ops listed, wpOp P ops Q i (fun a' w' => C w' ∧ wpAnyC P C ops Q fuel (listed.setIfInBounds i true) a' w') a w

theorem wpAnyC_any {C : World → Prop} : ∀ (fuel : Nat) (listed : Array Bool) (a : Act) (w : World), wpAnyC P C ops Q fuel listed a w → wpAny P .any ops Q fuel listed a w
  | 0, _, _, _, h => h
  | fuel + 1, _, _, _, h => ⟨h.1, fun i hi => wpOp_mono (fun a' w' h' => wpAnyC_any fuel _ a' w' h'.2) (h.2 i hi)⟩

/-- Operation o yields v in state a and world w, and leaves the world. -/
def YAt (P : Program) (ops : Array Oper) (o : Oper) (v : Value) (a : Act) (w : World) : Prop :=
  (Region.wanted o (yielded ops a.tmps) = true ∧ (execOp a.eval o).run P w = .ok (.value v) w) ∨ (Region.wanted o (yielded ops a.tmps) = false ∧ v = undef)

theorem YAt.wpOp {i : Nat} {o : Oper} {v : Value} {a : Act} {w : World} (hi : ops[i]? = some o) (hy : YAt P ops o v a w) {K : Act → World → Prop} (h : K (a.put o.dst v) w) : wpOp P ops Q i K a w := by
  unfold Go.wpOp
  simp only [hi]
  rcases hy with ⟨hw, hv⟩ | ⟨hw, rfl⟩
  · simp only [hw, if_true, Oper.wp, hv, Oper.upon]; exact .inl h
  · simp only [hw, Bool.false_eq_true, if_false]; exact h

theorem YAt.of_same {o : Oper} {v : Value} {a a' : Act} {w : World} (hy : YAt P ops o v a w) (he : execOp a'.eval o = execOp a.eval o)
    (hw : Region.wanted o (yielded ops a'.tmps) = Region.wanted o (yielded ops a.tmps)) : YAt P ops o v a' w := by
  unfold YAt at *
  rw [he, hw]
  exact hy

/-- In every world of class C. -/
def YIn (P : Program) (C : World → Prop) (ops : Array Oper) (o : Oper) (v : Value) (a : Act) : Prop := ∀ w, C w → YAt P ops o v a w

theorem op_put {C : World → Prop} {j : Nat} {oi oj : Oper} {v : Value} (hj : ops[j]? = some oj) (hap : oi.apart ops oj = true)
    (hsi : ∀ cs b, oi.op ≠ .select cs b) (hsj : ∀ cs b, oj.op ≠ .select cs b)
    (hQ : ∀ c a w, ¬ Q (.panic c) a w) {K : Act → World → Prop} {a : Act} {w : World}
    (hy : YIn P C ops oi v a) (h : wpOp P ops Q j K (a.put oi.dst v) w) :
    wpOp P ops Q j (fun a' w' => YIn P C ops oi v a' ∧ K (a'.put oi.dst v) w') a w := by
  obtain ⟨h1, h2, h3⟩ := Oper.apart_spec hap
  have keep : ∀ (a : Act), YIn P C ops oi v a → ∀ u, YIn P C ops oi v (a.put oj.dst u) := fun a hy u w hc =>
    (hy w hc).of_same (execOp_put oi hsi a oj.dst u h3) (wanted_put oi a oj.dst u h3)
  have keepD : ∀ d, YIn P C ops oi v { a with defers := d :: a.defers } := fun d w hc => (hy w hc).of_same rfl rfl
  unfold wpOp at *
  simp only [hj] at *
  rw [wanted_put oj a oi.dst v h1] at h
  split
  · rename_i hw
    simp only [hw, if_true] at h
    rcases h with h | ⟨hasks, hlets⟩
    case inr => exact .inr ⟨by unfold Oper.asks at *; rw [execOp_put oj hsj a oi.dst v h1] at hasks; exact hasks, hlets⟩
    refine .inl ?_
    unfold Oper.wp at *
    rw [execOp_put oj hsj a oi.dst v h1] at h
    generalize (execOp a.eval oj).run P w = r at *
    cases r with
    | ok n w' =>
      cases n <;> simp only [Oper.upon] at h ⊢
      case value u => exact ⟨keep a hy u, by rw [← Act.put_comm a v u h2]; exact h⟩
      case skip => exact ⟨keep a hy _, by rw [← Act.put_comm a v undef h2]; exact h⟩
      case defer d =>
        refine ⟨keep _ (keepD d) _, ?_⟩
        rw [← Act.put_comm _ v undef h2, ← Act.put_defers]
        exact h
      case enter f args =>
        refine Calls.mono h fun e w'' he => ?_
        cases e with
        | returned u => exact ⟨keep a hy u, by rw [← Act.put_comm a v u h2]; exact he⟩
        | panicked c => exact (hQ _ _ _ he).elim
        | outgrown => exact he
      case row row args => exact Rows.mono h fun u w'' he => ⟨keep a hy u, by rw [← Act.put_comm a v u h2]; exact he⟩
    | halt x w' =>
      cases x <;> simp only [Oper.upon] at h ⊢
      case panic u => exact (hQ _ _ _ h).elim
  · rename_i hw
    simp only [hw] at h
    exact ⟨keep a hy _, by rw [← Act.put_comm a v undef h2]; exact h⟩

theorem getD_lt {l : Array Bool} {k : Nat} (h : l.getD k false = true) : k < l.size := by
  rcases Nat.lt_or_ge k l.size with h' | h'
  · exact h'
  · simp [Array.getElem?_eq_none h'] at h

theorem getD_any {l : Array Bool} {k : Nat} (h : k < l.size) (x y : Bool) : l.getD k x = l.getD k y := by simp [h]

theorem inClosure {i : Nat} {cl : Array Bool} (hcl : closedB ops i cl = true) {listed : Array Bool} (hls : listed.size = ops.size) (hs : subB ops listed cl = true) {j : Nat} (hji : j ≠ i)
    (hj : j ∈ Region.ready .any ops listed) : cl.getD j true = true ∧ j < ops.size := by
  obtain ⟨hu, oj, hoj, hall⟩ := mem_ready.1 hj
  have hjs : j < ops.size := lt_of_some hoj
  refine ⟨?_, hjs⟩
  simp only [closedB, List.all_eq_true, List.mem_range] at hcl
  have h1 := hcl j hjs
  simp only [Bool.or_eq_true, beq_iff_eq, Bool.not_eq_true', List.contains_eq_mem, decide_eq_false_iff_not] at h1
  rcases h1 with (h1 | h1) | h1
  · exact absurd h1 hji
  · exact h1
  · cases hc : cl.getD j true with
    | true => rfl
    | false =>
      refine absurd (mem_ready.2 ⟨hc, oj, hoj, fun e he hb => ?_⟩) h1
      have h2 := hall e he hb
      have hes := getD_lt h2
      simp only [subB, List.all_eq_true, List.mem_range] at hs
      have h3 := hs e.on (by omega)
      rw [getD_any hes true false, h2] at h3
      simpa using h3

theorem subB_set {i j : Nat} {cl listed : Array Bool} (hsz : cl.size = ops.size) (hs : subB ops listed cl = true) (hcj : cl.getD j true = true) (hjs : j < ops.size) : subB ops (listed.setIfInBounds j true) cl = true := by
  simp only [subB, List.all_eq_true, List.mem_range] at hs ⊢
  intro k hk
  by_cases hkj : j = k
  · subst hkj
    rw [getD_any (by omega) false true, hcj]; simp
  · rw [getD_set_ne true hkj]; exact hs k hk

theorem apartB_at {i j : Nat} {oi oj : Oper} (hi : ops[i]? = some oi) (hoj : ops[j]? = some oj) {l cl : Array Bool} {inn : Option (List Nat)} (h : apartB ops i l cl inn = true) (hji : j ≠ i)
    (hu : l.getD j true = false) (hcj : cl.getD j true = true) : oi.apart ops oj = true ∧ ∀ s, inn = some s → j ∈ s := by
  simp only [apartB, hi, List.all_eq_true, List.mem_range] at h
  have h2 := h j (lt_of_some hoj)
  have hji' : (j == i) = false := by simpa using hji
  simp only [hoj, hji', hu, hcj, Bool.not_true, Bool.or_self, Bool.false_or, Bool.and_eq_true] at h2
  refine ⟨h2.1, fun s hs => ?_⟩
  subst hs
  simpa [inList] using h2.2

theorem apartB_set {i j : Nat} {oi : Oper} (hi : ops[i]? = some oi) {l cl : Array Bool} {inn inn' : Option (List Nat)} (h : apartB ops i l cl inn = true)
    (hin : ∀ k, k ≠ j → inList inn k = true → inList inn' k = true) :
    apartB ops i (l.setIfInBounds j true) cl inn' = true := by
  simp only [apartB, hi, List.all_eq_true, List.mem_range] at h ⊢
  intro k hk
  have h5 := h k hk
  cases hok : ops[k]? with
  | none => simp
  | some ok =>
    simp only [hok] at h5 ⊢
    by_cases hkj : j = k
    · subst hkj
      have : (l.setIfInBounds j true).getD j true = true := by simp
      rw [this]; simp
    · rw [getD_set_ne true hkj]
      simp only [Bool.or_eq_true, Bool.and_eq_true] at h5 ⊢
      rcases h5 with h5 | h5
      · exact .inl h5
      · exact .inr ⟨h5.1, hin k (fun e => hkj e.symm) h5.2⟩

/-- An operation whose value is the same in every world of the class may be taken first. -/
theorem first_in {C : World → Prop} {i : Nat} {oi : Oper} {v : Value} (hi : ops[i]? = some oi) (cl : Array Bool)
    (hsel : ∀ (j : Nat) (o : Oper) cs b, ops[j]? = some o → o.op ≠ .select cs b) (hQ : ∀ c a w, ¬ Q (.panic c) a w)
    (hcl : closedB ops i cl = true) (hsz : cl.size = ops.size) :
    ∀ (fuel : Nat) (listed : Array Bool) (a : Act) (w : World), listed.size = ops.size → subB ops listed cl = true → apartB ops i listed cl none = true → i ∈ Region.ready .any ops listed → YIn P C ops oi v a → C w →
      wpAnyC P C ops Q fuel (listed.setIfInBounds i true) (a.put oi.dst v) w → wpAnyC P C ops Q (fuel + 1) listed a w := by
  intro fuel
  induction fuel with
  | zero =>
    intro listed a w hls hs hap hr hy hC H
    refine ⟨fun h => (by rw [h] at hr; cases hr), fun j hj => ?_⟩
    by_cases hji : j = i
    · subst hji; exact (hy w hC).wpOp hi ⟨hC, H⟩
    · have := ready_mono hj hji
      rw [H.1] at this
      cases this
  | succ fuel ih =>
    intro listed a w hls hs hap hr hy hC H
    refine ⟨fun h => (by rw [h] at hr; cases hr), fun j hj => ?_⟩
    by_cases hji : j = i
    · subst hji; exact (hy w hC).wpOp hi ⟨hC, H⟩
    · have h1 := H.2 j (ready_mono hj hji)
      obtain ⟨hcj, hjs⟩ := inClosure hcl hls hs hji hj
      obtain ⟨hu, oj, hoj, hall⟩ := mem_ready.1 hj
      have hap2 := (apartB_at hi hoj hap hji hu hcj).1
      have h3 := op_put (C := C) hoj hap2 (fun cs b => hsel i oi cs b hi) (fun cs b => hsel j oj cs b hoj) hQ hy h1
      refine wpOp_mono (fun a' w' h4 => ⟨h4.2.1, ih (listed.setIfInBounds j true) a' w' (by simpa using hls) (subB_set (i := i) hsz hs hcj hjs) (apartB_set hi hap (fun _ _ h => h)) (ready_mono hr (Ne.symm hji)) h4.1 h4.2.1 ?_⟩) h3
      rw [Array.setIfInBounds_comm _ _ hji]
      exact h4.2.2

/-! #### A run of operations that only read, ahead of all others -/

/-- Whatever order: each yields a value in the very world w, and at the end 'fin'. -/
def wpRun (P : Program) (ops : Array Oper) (w : World) (fin : Array Bool → Act → Prop) : Nat → Array Bool → Act → Prop
  | 0, listed, a => fin listed a
  | f + 1, listed, a => Region.ready .any ops listed ≠ [] ∧ ∀ i ∈ Region.ready .any ops listed, ∃ o v, ops[i]? = some o ∧ YAt P ops o v a w ∧ wpRun P ops w fin f (listed.setIfInBounds i true) (a.put o.dst v)

theorem wpRun_any {C : World → Prop} {w : World} (hC : C w) {fin : Array Bool → Act → Prop} {g : Nat} (hfin : ∀ l a, fin l a → wpAnyC P C ops Q g l a w) :
    ∀ (f : Nat) (listed : Array Bool) (a : Act), wpRun P ops w fin f listed a → wpAnyC P C ops Q (f + g) listed a w
  | 0, l, a, h => by rw [Nat.zero_add]; exact hfin l a h
  | f + 1, l, a, h => by
    rw [show f + 1 + g = (f + g) + 1 by omega]
    refine ⟨fun h0 => absurd h0 h.1, fun i hi => ?_⟩
    obtain ⟨o, v, ho, hy, hr⟩ := h.2 i hi
    exact hy.wpOp ho ⟨hC, wpRun_any hC hfin f _ _ hr⟩

theorem run_first {w : World} {fin : Array Bool → Act → Prop} {i : Nat} {oi : Oper} {v : Value} (hi : ops[i]? = some oi) (cl : Array Bool)
    (hsel : ∀ (j : Nat) (o : Oper) cs b, ops[j]? = some o → o.op ≠ .select cs b)
    (hcl : closedB ops i cl = true) (hsz : cl.size = ops.size) :
    ∀ (s : List Nat) (listed : Array Bool) (a : Act), s.Nodup → listed.size = ops.size → subB ops listed cl = true → apartB ops i listed cl (some s) = true → i ∈ Region.ready .any ops listed → YAt P ops oi v a w →
      wpRun P ops w fin s.length (listed.setIfInBounds i true) (a.put oi.dst v) → wpRun P ops w fin (s.length + 1) listed a := by
  intro s
  induction hn : s.length generalizing s with
  | zero =>
    intro listed a _ hls hs hap hr hy H
    refine ⟨fun h => (by rw [h] at hr; cases hr), fun j hj => ?_⟩
    by_cases hji : j = i
    · subst hji; exact ⟨oi, v, hi, hy, H⟩
    · obtain ⟨hcj, hjs⟩ := inClosure hcl hls hs hji hj
      obtain ⟨hu, oj, hoj, _⟩ := mem_ready.1 hj
      have := (apartB_at hi hoj hap hji hu hcj).2 s rfl
      rw [List.length_eq_zero_iff.1 hn] at this
      cases this
  | succ m ih =>
    intro listed a hnd hls hs hap hr hy H
    refine ⟨fun h => (by rw [h] at hr; cases hr), fun j hj => ?_⟩
    by_cases hji : j = i
    · subst hji; exact ⟨oi, v, hi, hy, H⟩
    · obtain ⟨hcj, hjs⟩ := inClosure hcl hls hs hji hj
      obtain ⟨hu, oj, hoj, _⟩ := mem_ready.1 hj
      obtain ⟨hap2, hin⟩ := apartB_at hi hoj hap hji hu hcj
      have hjs' := hin s rfl
      obtain ⟨oj', u, hoj', hyj, hrun⟩ := H.2 j (ready_mono hj hji)
      have : oj' = oj := Option.some.inj (hoj'.symm.trans hoj)
      subst this
      obtain ⟨h1, h2, h3⟩ := Oper.apart_spec hap2
      refine ⟨oj', u, hoj, ?_, ?_⟩
      · exact hyj.of_same (execOp_put oj' (fun cs b => hsel j oj' cs b hoj) a oi.dst v h1).symm (wanted_put oj' a oi.dst v h1).symm
      · have hle : (s.erase j).length = m := by rw [List.length_erase_of_mem hjs']; omega
        refine ih (s.erase j) hle (listed.setIfInBounds j true) (a.put oj'.dst u) (hnd.erase j) (by simpa using hls) (subB_set (i := i) hsz hs hcj hjs) (apartB_set hi hap (fun k hk h => ?_)) (ready_mono hr (Ne.symm hji)) ?_ ?_
        · simp only [inList, List.contains_eq_mem, decide_eq_true_eq] at h ⊢
          exact (List.mem_erase_of_ne hk).2 h
        · exact hy.of_same (execOp_put oi (fun cs b => hsel i oi cs b hi) a oj'.dst u h3) (wanted_put oi a oj'.dst u h3)
        · rw [Array.setIfInBounds_comm _ _ hji, ← Act.put_comm a v u h2]
          exact hrun

/-! #### The judgements -/

variable (P H0 n) in
/-- From a plan's head on. -/
def wpD (ops : Array Oper) (ds : List Nat) (p : Plan) (env : Env) (L : Frags) (N : Post) : Prop :=
  ∀ (fuel : Nat) (listed : Array Bool) (l : Nat), Rep ops listed l → depsB ops ds = true → p.ok ops ds fuel true l = true → selB ops = true → ∀ a w, Fits n env a → Agree H0 L w.heap → ∀ Nw : Act → World → Prop,
    (∀ env' L' a' w', N env' L' → Fits n env' a' → To H0 w L w' L' → Nw a' w') → wpAnyC P (fun w => H0.sits w.heap) ops (fun e a w => e = .normal ∧ Nw a w) fuel listed a w

variable (P H0 n) in
/-- In a run of operations that only read. -/
def wpS (ops : Array Oper) (ds : List Nat) (s : List (Nat × Nat)) (env : Env) (L : Frags) (M : Env → Prop) : Prop :=
  ∀ (listed : Array Bool) (l : Nat), Rep ops listed l → depsB ops ds = true → (s.map (·.1)).Nodup → segM ops ds s l = true → selB ops = true → ∀ a w, Fits n env a → Agree H0 L w.heap → ∀ fin : Array Bool → Act → Prop,
    (∀ env' a' listed', M env' → Fits n env' a' → Rep ops listed' (allM s l) → fin listed' a') → wpRun P ops w fin s.length listed a

variable (P H0 n) in
/-- Operation i now, then the plan. -/
def wpO (ops : Array Oper) (ds : List Nat) (i : Nat) (p : Plan) (env : Env) (L : Frags) (N : Post) : Prop :=
  ∀ (fuel : Nat) (listed : Array Bool) (l : Nat), Rep ops (listed.setIfInBounds i true) l → depsB ops ds = true → p.ok ops ds fuel true l = true → selB ops = true → ∀ a w, Fits n env a → Agree H0 L w.heap → ∀ Nw : Act → World → Prop,
    (∀ env' L' a' w', N env' L' → Fits n env' a' → To H0 w L w' L' → Nw a' w') →
    wpOp P ops (fun e a w => e = .normal ∧ Nw a w) i (fun a' w' => H0.sits w'.heap ∧ wpAnyC P (fun w => H0.sits w.heap) ops (fun e a w => e = .normal ∧ Nw a w) fuel (listed.setIfInBounds i true) a' w') a w

variable (P H0 n) in
/-- Each of several. -/
def wpM (ops : Array Oper) (ds : List Nat) : Plan → Env → Frags → Post → Prop
  | .alt i p m, env, L, N => wpO P H0 n ops ds i p env L N ∧ wpM ops ds m env L N
  | _, _, _, _ => True

theorem selB_spec (h : selB ops = true) (j : Nat) (o : Oper) (cs : Array SelectCase) (b : Bool) (ho : ops[j]? = some o) : o.op ≠ .select cs b := by
  intro e
  simp only [selB, Array.all_eq_true_iff_forall_mem] at h
  have := h o (Array.mem_of_getElem? ho)
  rw [e] at this
  simp at this

theorem C.draw {id : Nat} {l : List Oper} {env : Env} {L : Frags} {N X R} (ds : List Nat) (p : Plan) (hm : P.follows .mixedOrders = true)
    (hp : (depsB l.toArray ds && p.ok l.toArray ds l.toArray.size true 0 && selB l.toArray) = true)
    (h : wpD P H0 n l.toArray ds p env L N) : wpC P H0 n (.region id l.toArray true) env L N X R := by
  intro a w hf hw Q s
  simp only [Bool.and_eq_true] at hp
  have hw' : Agree H0 L ({ w with drawn := w.drawn + 1 } : World).heap := hw
  have h1 := h l.toArray.size (Array.replicate l.toArray.size false) 0 ⟨by simp, fun j => by rw [getD_replicate]; simp⟩ hp.1.1 hp.1.2 hp.2 a { w with drawn := w.drawn + 1 } hf hw' (fun a w => Q .normal a w) (fun env' L' a' w' hN f t => by
    refine s.normal env' L' a' w' hN f ⟨t.st, t.size, t.old, t.cells, t.foot, t.os, t.tape, t.output⟩)
  refine Code.wp_mono ?_ (wp_region_any (Q := fun e a w => e = .normal ∧ Q .normal a w) hm (wpAnyC_any _ _ _ _ h1))
  rintro e a w ⟨rfl, h⟩; exact h
where
  getD_replicate (m j : Nat) : (Array.replicate m false).getD j false = false := by
    rcases Nat.lt_or_ge j m with h | h
    · simp [h]
    · simp [h]

theorem none_ready {ds : List Nat} (hds : depsB ops ds = true) {listed : Array Bool} {l : Nat} (hr : Rep ops listed l) (h : ∀ j, j < ops.size → readyM ds l j = false) : Region.ready .any ops listed = [] := by
  rw [List.eq_nil_iff_forall_not_mem]
  intro j hj
  have := (ready_rep hds hr (ready_lt hj)).1 hj
  rw [h j (ready_lt hj)] at this
  cases this

variable {ds : List Nat}

theorem D.done {env : Env} {L : Frags} {N : Post} (h : N env L) : wpD P H0 n ops ds .done env L N := by
  intro fuel listed l hrep hds hp _ a w hf hw Nw k
  simp only [Plan.ok, Bool.and_eq_true, beq_iff_eq, List.all_eq_true, List.mem_range, Bool.not_eq_true'] at hp
  obtain ⟨rfl, hp⟩ := hp
  exact ⟨none_ready hds hrep hp, rfl, k env L a w h hf (To.refl hw)⟩

theorem D.keep {env env1 : Env} {L : Frags} {N : Post} (ts : List Nat) (hk : keeps env ts = some env1) (h : N env1 L) : wpD P H0 n ops ds .done env L N := by
  intro fuel listed l hrep hds hp _ a w hf hw Nw k
  simp only [Plan.ok, Bool.and_eq_true, beq_iff_eq, List.all_eq_true, List.mem_range, Bool.not_eq_true'] at hp
  obtain ⟨rfl, hp⟩ := hp
  exact ⟨none_ready hds hrep hp, rfl, k env1 L a w h (hf.keeps hk) (To.refl hw)⟩

theorem D.perml {p : Plan} {env : Env} {L A F : Frags} {N : Post} (is : List Nat) (hp : picks is L = some (A, F)) (h : wpD P H0 n ops ds p env (A ++ F) N) : wpD P H0 n ops ds p env L N :=
  fun fuel listed l h0 h00 h1 h2 a w hf hw Nw k => h fuel listed l h0 h00 h1 h2 a w hf (hw.perm (picks_perm hp)) Nw fun e l a w h f t => k e l a w h f (t.permL (picks_perm hp))

theorem D.relist {p : Plan} {env : Env} {L L2 : Frags} {N : Post} (e : L = L2) (h : wpD P H0 n ops ds p env L2 N) : wpD P H0 n ops ds p env L N := e ▸ h

variable (P H0 n) in
/-- The operation hands back v in every world in which what is known sits. -/
def OpK (op : Op) (ty : TypeId) (env : Env) (v : Value) : Prop :=
  ∀ a w, Fits n env a → H0.sits w.heap → (exop a.eval op ty).run P w = .ok (.value v) w

theorem D.known {i d cl : Nat} {op : Op} {ty : TypeId} {pos : String} {af : Array Edge} {r : Plan} {env : Env} {L : Frags} {N : Post} {v : Value} (hi : ops[i]? = some ⟨some d, op, ty, pos, af, none⟩)
    (h : OpK P H0 n op ty env v) (hd : Nat.blt d n = true) (k : wpD P H0 n ops ds r ((d, v) :: env) L N) : wpD P H0 n ops ds (.pure i cl r) env L N := by
  intro fuel listed l hrep hds hp hsel a w hf hw Nw hq
  cases fuel with
  | zero => simp [Plan.ok] at hp
  | succ fuel =>
    simp only [Plan.ok, Bool.and_eq_true] at hp
    obtain ⟨cla, h1, h2, h3, h4, h5, h6⟩ := firstB_spec hds hrep hp.1
    have hd' : d < n := by rw [Nat.blt_eq] at hd; exact hd
    refine first_in hi cla (selB_spec hsel) (fun c a w hh => by simp at hh) h2 h6 fuel listed a w h5 h3 h4 h1 (fun w hs => .inl ⟨by simp [Region.wanted], h a w hf hs⟩) hw.base ?_
    exact k fuel _ _ (hrep.set (ready_lt h1)) hds hp.2 hsel _ w (hf.put hd' v) hw Nw hq

theorem D.pure {i d cl : Nat} {op : Op} {ty : TypeId} {pos : String} {af : Array Edge} {r : Plan} {env : Env} {L : Frags} {N : Post} {v : Value} (hi : ops[i]? = some ⟨some d, op, ty, pos, af, none⟩)
    (h : OpP P n op ty env v) (hd : Nat.blt d n = true) (k : wpD P H0 n ops ds r ((d, v) :: env) L N) : wpD P H0 n ops ds (.pure i cl r) env L N :=
  D.known hi (fun a w hf _ => h a w hf) hd k

theorem yielded_of {a : Act} {env : Env} (hf : Fits n env a) {j t : Nat} {c : Bool} (ht : (ops[j]?).bind (·.dst) = some t) (hv : get? env t = some (.bool c)) : yielded ops a.tmps j = some c := by
  have := hf.val t _ hv
  unfold yielded
  rw [ht]
  simp only [Option.bind_some]
  rw [Array.getD_eq_getD_getElem?] at this
  cases hx : a.tmps[t]? with
  | none => rw [hx] at this; simp [undef] at this
  | some x => rw [hx] at this; simp only [Option.getD_some] at this; subst this; rfl

/-- A guarded operation whose guard says no. -/
theorem D.skip {i j cl : Nat} {b : Bool} {dst : Option Nat} {op : Op} {ty : TypeId} {pos : String} {af : Array Edge} {r : Plan} {env : Env} {L : Frags} {N : Post} (t : Nat) (c : Bool)
    (hi : ops[i]? = some ⟨dst, op, ty, pos, af, some (j, b)⟩) (ht : (ops[j]?).bind (·.dst) = some t) (hv : get? env t = some (.bool c)) (hc : c = !b) (hd : dstOk dst n = true)
    (k : wpD P H0 n ops ds r (ext dst undef env) L N) : wpD P H0 n ops ds (.pure i cl r) env L N := by
  intro fuel listed l hrep hds hp hsel a w hf hw Nw hq
  cases fuel with
  | zero => simp [Plan.ok] at hp
  | succ fuel =>
    simp only [Plan.ok, Bool.and_eq_true] at hp
    obtain ⟨cla, h1, h2, h3, h4, h5, h6⟩ := firstB_spec hds hrep hp.1
    have hy := yielded_of (ops := ops) hf ht hv
    have hne : (some c == some b) = false := by subst hc; cases b <;> rfl
    refine first_in hi cla (selB_spec hsel) (fun c a w hh => by simp at hh) h2 h6 fuel listed a w h5 h3 h4 h1 (fun w _ => .inr ⟨by simp only [Region.wanted, hy, hne], rfl⟩) hw.base ?_
    exact k fuel _ _ (hrep.set (ready_lt h1)) hds hp.2 hsel _ w (hf.ext hd undef) hw Nw hq

/-- A guarded operation whose guard says yes. -/
theorem D.yes {i j d cl : Nat} {b : Bool} {op : Op} {ty : TypeId} {pos : String} {af : Array Edge} {r : Plan} {env : Env} {L : Frags} {N : Post} {v : Value} (t : Nat)
    (hi : ops[i]? = some ⟨some d, op, ty, pos, af, some (j, b)⟩) (ht : (ops[j]?).bind (·.dst) = some t) (hv : get? env t = some (.bool b))
    (h : OpK P H0 n op ty env v) (hd : Nat.blt d n = true) (k : wpD P H0 n ops ds r ((d, v) :: env) L N) : wpD P H0 n ops ds (.pure i cl r) env L N := by
  intro fuel listed l hrep hds hp hsel a w hf hw Nw hq
  cases fuel with
  | zero => simp [Plan.ok] at hp
  | succ fuel =>
    simp only [Plan.ok, Bool.and_eq_true] at hp
    obtain ⟨cla, h1, h2, h3, h4, h5, h6⟩ := firstB_spec hds hrep hp.1
    have hd' : d < n := by rw [Nat.blt_eq] at hd; exact hd
    have hy := yielded_of (ops := ops) hf ht hv
    refine first_in hi cla (selB_spec hsel) (fun c a w hh => by simp at hh) h2 h6 fuel listed a w h5 h3 h4 h1 (fun w hs => .inl ⟨by simp only [Region.wanted, hy, beq_self_eq_true], h a w hf hs⟩) hw.base ?_
    exact k fuel _ _ (hrep.set (ready_lt h1)) hds hp.2 hsel _ w (hf.put hd' v) hw Nw hq

theorem OpP.toK {op : Op} {ty : TypeId} {env : Env} {v : Value} (h : OpP P n op ty env v) : OpK P H0 n op ty env v := fun a w hf _ => h a w hf

theorem D.seg {s : List (Nat × Nat)} {r : Plan} {env : Env} {L : Frags} {N : Post} (hnd : (s.map (·.1)).Nodup) (h : wpS P H0 n ops ds s env L (fun e => wpD P H0 n ops ds r e L N)) : wpD P H0 n ops ds (.seg s r) env L N := by
  intro fuel listed l hrep hds hp hsel a w hf hw Nw hq
  simp only [Plan.ok, Bool.and_eq_true, decide_eq_true_eq] at hp
  obtain ⟨⟨h1, h2⟩, h3⟩ := hp
  have := wpRun_any (P := P) (ops := ops) (Q := fun e a w => e = .normal ∧ Nw a w) (C := fun w => H0.sits w.heap) (w := w) hw.base (g := fuel - s.length) (fun l a h => h) s.length listed a
    (h listed l hrep hds hnd h2 hsel a w hf hw _ (fun env' a' listed' hM hf' hr' => hM (fuel - s.length) _ _ hr' hds h3 hsel a' w hf' hw Nw hq))
  rw [show s.length + (fuel - s.length) = fuel by omega] at this
  exact this

theorem run_first' {w : World} {fin : Array Bool → Act → Prop} {i : Nat} {oi : Oper} {v : Value} (hi : ops[i]? = some oi) (cl : Array Bool)
    (hsel : ∀ (j : Nat) (o : Oper) cs b, ops[j]? = some o → o.op ≠ .select cs b)
    (hcl : closedB ops i cl = true) (hsz : cl.size = ops.size) (s : List (Nat × Nat)) (listed : Array Bool) (a : Act) (hnd : (s.map (·.1)).Nodup) (h1 : listed.size = ops.size) (h2 : subB ops listed cl = true)
    (h3 : apartB ops i listed cl (some (s.map (·.1))) = true) (h4 : i ∈ Region.ready .any ops listed) (h5 : YAt P ops oi v a w) (h6 : wpRun P ops w fin s.length (listed.setIfInBounds i true) (a.put oi.dst v)) : wpRun P ops w fin (s.length + 1) listed a := by
  have := run_first (fin := fin) hi cl hsel hcl hsz (s.map (·.1)) listed a hnd h1 h2 h3 h4 h5 (by simpa using h6)
  simpa using this

theorem W.nil {env : Env} {L : Frags} {M : Env → Prop} (h : M env) : wpS P H0 n ops ds [] env L M :=
  fun _ _ hr _ _ _ _ _ _ hf _ _ k => k env _ _ h hf hr

theorem W.still {i d cl : Nat} {op : Op} {ty : TypeId} {pos : String} {af : Array Edge} {s : List (Nat × Nat)} {env : Env} {L : Frags} {M : Env → Prop} {v : Value} (hi : ops[i]? = some ⟨some d, op, ty, pos, af, none⟩)
    (h : OpS P H0 n op ty env L v) (hd : Nat.blt d n = true) (k : wpS P H0 n ops ds s ((d, v) :: env) L M) : wpS P H0 n ops ds ((i, cl) :: s) env L M := by
  intro listed l hrep hds hnd hp hsel a w hf hw fin hq
  simp only [segM, Bool.and_eq_true] at hp
  obtain ⟨cla, h1, h2, h3, h4, h5, h6⟩ := firstB_spec hds hrep hp.1
  have hd' : d < n := by rw [Nat.blt_eq] at hd; exact hd
  exact run_first' hi cla (selB_spec hsel) h2 h6 s listed a (List.nodup_cons.1 hnd).2 h5 h3 h4 h1 (.inl ⟨by simp [Region.wanted], h a w hf hw⟩)
    (k _ _ (hrep.set (ready_lt h1)) hds (List.nodup_cons.1 hnd).2 hp.2 hsel _ w (hf.put hd' v) hw fin hq)

theorem W.pure {i d cl : Nat} {op : Op} {ty : TypeId} {pos : String} {af : Array Edge} {s : List (Nat × Nat)} {env : Env} {L : Frags} {M : Env → Prop} {v : Value} (hi : ops[i]? = some ⟨some d, op, ty, pos, af, none⟩)
    (h : OpP P n op ty env v) (hd : Nat.blt d n = true) (k : wpS P H0 n ops ds s ((d, v) :: env) L M) : wpS P H0 n ops ds ((i, cl) :: s) env L M :=
  W.still hi (fun a w hf _ => h a w hf) hd k

theorem W.skip {i j cl : Nat} {b : Bool} {dst : Option Nat} {op : Op} {ty : TypeId} {pos : String} {af : Array Edge} {s : List (Nat × Nat)} {env : Env} {L : Frags} {M : Env → Prop} (t : Nat) (c : Bool)
    (hi : ops[i]? = some ⟨dst, op, ty, pos, af, some (j, b)⟩) (ht : (ops[j]?).bind (·.dst) = some t) (hv : get? env t = some (.bool c)) (hc : c = !b) (hd : dstOk dst n = true)
    (k : wpS P H0 n ops ds s (ext dst undef env) L M) : wpS P H0 n ops ds ((i, cl) :: s) env L M := by
  intro listed l hrep hds hnd hp hsel a w hf hw fin hq
  simp only [segM, Bool.and_eq_true] at hp
  obtain ⟨cla, h1, h2, h3, h4, h5, h6⟩ := firstB_spec hds hrep hp.1
  have hy := yielded_of (ops := ops) hf ht hv
  have hne : (some c == some b) = false := by subst hc; cases b <;> rfl
  exact run_first' hi cla (selB_spec hsel) h2 h6 s listed a (List.nodup_cons.1 hnd).2 h5 h3 h4 h1 (.inr ⟨by simp only [Region.wanted, hy, hne], rfl⟩)
    (k _ _ (hrep.set (ready_lt h1)) hds (List.nodup_cons.1 hnd).2 hp.2 hsel _ w (hf.ext hd undef) hw fin hq)

theorem W.yes {i j d cl : Nat} {b : Bool} {op : Op} {ty : TypeId} {pos : String} {af : Array Edge} {s : List (Nat × Nat)} {env : Env} {L : Frags} {M : Env → Prop} {v : Value} (t : Nat)
    (hi : ops[i]? = some ⟨some d, op, ty, pos, af, some (j, b)⟩) (ht : (ops[j]?).bind (·.dst) = some t) (hv : get? env t = some (.bool b))
    (h : OpS P H0 n op ty env L v) (hd : Nat.blt d n = true) (k : wpS P H0 n ops ds s ((d, v) :: env) L M) : wpS P H0 n ops ds ((i, cl) :: s) env L M := by
  intro listed l hrep hds hnd hp hsel a w hf hw fin hq
  simp only [segM, Bool.and_eq_true] at hp
  obtain ⟨cla, h1, h2, h3, h4, h5, h6⟩ := firstB_spec hds hrep hp.1
  have hd' : d < n := by rw [Nat.blt_eq] at hd; exact hd
  have hy := yielded_of (ops := ops) hf ht hv
  exact run_first' hi cla (selB_spec hsel) h2 h6 s listed a (List.nodup_cons.1 hnd).2 h5 h3 h4 h1 (.inl ⟨by simp only [Region.wanted, hy, beq_self_eq_true], h a w hf hw⟩)
    (k _ _ (hrep.set (ready_lt h1)) hds (List.nodup_cons.1 hnd).2 hp.2 hsel _ w (hf.put hd' v) hw fin hq)

theorem O.loud {i : Nat} {dst : Option Nat} {op : Op} {ty : TypeId} {pos : String} {af : Array Edge} {r : Plan} {env : Env} {L : Frags} {N : Post} {R : Value → Frags → Prop}
    (hi : ops[i]? = some ⟨dst, op, ty, pos, af, none⟩) (h : OpX P H0 n op ty env L R) (hd : dstOk dst n = true) (k : ∀ v L', R v L' → wpD P H0 n ops ds r (ext dst v env) L' N) :
    wpO P H0 n ops ds i r env L N := by
  intro fuel listed l hrep hds hp hsel a w hf hw Nw hq
  unfold wpOp
  simp only [hi, Region.wanted, if_true]
  refine .inl ?_
  simp only [Oper.wp, execOp_exop]
  refine upon_of_out hf hd (fun v L' w' hr t => ⟨t.st.base, ?_⟩) (h a w hf hw)
  exact k v L' hr fuel _ _ hrep hds hp hsel _ w' (hf.ext hd v) t.st Nw fun e l a2 w2 h f t2 => hq e l a2 w2 h f (t.trans t2)

theorem O.loud0 {i : Nat} {op : Op} {ty : TypeId} {pos : String} {af : Array Edge} {r : Plan} {env : Env} {L : Frags} {N : Post} {R : Value → Frags → Prop}
    (hi : ops[i]? = some ⟨none, op, ty, pos, af, none⟩) (h : OpX P H0 n op ty env L R) (k : ∀ v L', R v L' → wpD P H0 n ops ds r env L' N) :
    wpO P H0 n ops ds i r env L N := O.loud hi h rfl k
theorem O.loud1 {i d : Nat} {op : Op} {ty : TypeId} {pos : String} {af : Array Edge} {r : Plan} {env : Env} {L : Frags} {N : Post} {R : Value → Frags → Prop}
    (hi : ops[i]? = some ⟨some d, op, ty, pos, af, none⟩) (h : OpX P H0 n op ty env L R) (hd : Nat.blt d n = true) (k : ∀ v L', R v L' → wpD P H0 n ops ds r ((d, v) :: env) L' N) :
    wpO P H0 n ops ds i r env L N := O.loud hi h hd k

/-- A guarded call whose guard says yes. -/
theorem O.yes {i j d : Nat} {b : Bool} {op : Op} {ty : TypeId} {pos : String} {af : Array Edge} {r : Plan} {env : Env} {L : Frags} {N : Post} {R : Value → Frags → Prop} (t : Nat)
    (hi : ops[i]? = some ⟨some d, op, ty, pos, af, some (j, b)⟩) (ht : (ops[j]?).bind (·.dst) = some t) (hv : get? env t = some (.bool b))
    (h : OpX P H0 n op ty env L R) (hd : Nat.blt d n = true) (k : ∀ v L', R v L' → wpD P H0 n ops ds r ((d, v) :: env) L' N) :
    wpO P H0 n ops ds i r env L N := by
  intro fuel listed l hrep hds hp hsel a w hf hw Nw hq
  have hy := yielded_of (ops := ops) hf ht hv
  unfold wpOp
  simp only [hi, Region.wanted, hy, beq_self_eq_true, if_true]
  refine .inl ?_
  simp only [Oper.wp, execOp_exop]
  refine upon_of_out (o := ⟨some d, op, ty, pos, af, some (j, b)⟩) hf (show dstOk (some d) n = true from hd) (fun v L' w' hr t => ⟨t.st.base, ?_⟩) (h a w hf hw)
  exact k v L' hr fuel _ _ hrep hds hp hsel _ w' (hf.ext (dst := some d) hd v) t.st Nw fun e l a2 w2 h f t2 => hq e l a2 w2 h f (t.trans t2)

theorem O.still {i d : Nat} {op : Op} {ty : TypeId} {pos : String} {af : Array Edge} {r : Plan} {env : Env} {L : Frags} {N : Post} {v : Value}
    (hi : ops[i]? = some ⟨some d, op, ty, pos, af, none⟩) (h : OpS P H0 n op ty env L v) (hd : Nat.blt d n = true) (k : wpD P H0 n ops ds r ((d, v) :: env) L N) :
    wpO P H0 n ops ds i r env L N :=
  O.loud hi (R := fun u L' => u = v ∧ L' = L) (fun a w hf hw => by rw [h a w hf hw]; exact ⟨L, ⟨rfl, rfl⟩, To.refl hw⟩) hd (by rintro u L' ⟨rfl, rfl⟩; exact k)

theorem wpM_at {fuel : Nat} {listed : Array Bool} {l : Nat} (hrep : Rep ops listed l) (hds : depsB ops ds = true) (hsel : selB ops = true) {a : Act} {w : World} {env : Env} {L : Frags} {N : Post} (hf : Fits n env a) (hw : Agree H0 L w.heap) {Nw : Act → World → Prop}
    (hq : ∀ env' L' a' w', N env' L' → Fits n env' a' → To H0 w L w' L' → Nw a' w') : ∀ (p : Plan), p.ok ops ds (fuel + 1) false l = true → wpM P H0 n ops ds p env L N → ∀ i ∈ p.alts,
    wpOp P ops (fun e a w => e = .normal ∧ Nw a w) i (fun a' w' => H0.sits w'.heap ∧ wpAnyC P (fun w => H0.sits w.heap) ops (fun e a w => e = .normal ∧ Nw a w) fuel (listed.setIfInBounds i true) a' w') a w
  | .alt i p m, hok, hm, j, hj => by
    simp only [Plan.ok, Bool.not_false, Bool.true_or, Bool.true_and, Bool.and_eq_true, decide_eq_true_eq] at hok
    simp only [Plan.alts, List.mem_cons] at hj
    rcases hj with rfl | hj
    · exact hm.1 fuel listed _ (hrep.set hok.1.1) hds hok.1.2 hsel a w hf hw Nw hq
    · exact wpM_at hrep hds hsel hf hw hq m hok.2 hm.2 j hj
  | .done, _, _, j, hj => by simp [Plan.alts] at hj
  | .pure _ _ _, _, _, j, hj => by simp [Plan.alts] at hj
  | .seg _ _, _, _, j, hj => by simp [Plan.alts] at hj
  | .stop, _, _, j, hj => by simp [Plan.alts] at hj

theorem D.alt {i : Nat} {p m : Plan} {env : Env} {L : Frags} {N : Post} (h1 : wpO P H0 n ops ds i p env L N) (h2 : wpM P H0 n ops ds m env L N) : wpD P H0 n ops ds (.alt i p m) env L N := by
  intro fuel listed l hrep hds hp hsel a w hf hw Nw hq
  cases fuel with
  | zero => simp [Plan.ok] at hp
  | succ fuel =>
    simp only [Plan.ok, Bool.not_true, Bool.false_or, Bool.and_eq_true, decide_eq_true_eq, List.all_eq_true, List.mem_range, Bool.or_eq_true, Bool.not_eq_true', beq_iff_eq, List.contains_eq_mem] at hp
    obtain ⟨⟨⟨⟨hri, hall⟩, hil⟩, hpo⟩, hmo⟩ := hp
    refine ⟨fun h0 => ?_, fun k hk => ?_⟩
    · have := (ready_rep hds hrep hil).2 hri
      rw [h0] at this
      cases this
    · have hk2 := (ready_rep hds hrep (ready_lt hk)).1 hk
      rcases hall k (ready_lt hk) with (h3 | h3) | h3
      · rw [hk2] at h3; cases h3
      · subst h3
        exact h1 fuel listed _ (hrep.set hil) hds hpo hsel a w hf hw Nw hq
      · exact wpM_at hrep hds hsel hf hw hq m hmo h2 k h3

/-- The one operation that can come now. -/
theorem D.one {i : Nat} {r : Plan} {env : Env} {L : Frags} {N : Post} (h : wpO P H0 n ops ds i r env L N) : wpD P H0 n ops ds (.alt i r .stop) env L N := D.alt h trivial

theorem loadBaseK {x : Operand} {t ty : TypeId} {env : Env} {b o : Nat} {v : Value} (h : ev? env x = some (.pointer (some ⟨b, o, none⟩)))
    (hv : cellAt H0 b o = some v) (hag : ∀ w, (isAgg t).run P w = .ok false w) : OpK P H0 n (.load t x) ty env v := by
  intro a w hf hw
  simp only [exop, execOp, hf.eval h]
  have := run_load1 (P := P) hag (cell_of_known hw hv)
  simp [this]
end
end Go.Eng
