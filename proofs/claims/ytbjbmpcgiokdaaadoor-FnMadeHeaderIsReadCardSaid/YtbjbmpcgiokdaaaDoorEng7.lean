/-
  Engine, part 7: results that are variables in memory.
-/
import Derived.Test.YtbjbmpcgiokdaaaDoorEng6
set_option linter.unusedVariables false
set_option linter.unusedSimpArgs false
namespace Go.Eng
open Go

section
variable {P : Program} {K : Known} {n : Nat}

def CellAt (env : Env) (L : Frags) (p m : Nat) (vs : List Value) : Prop := ∃ (b o i : Nat), get? env p = some (.pointer (some ⟨b, o, none⟩)) ∧ L[i]? = some (⟨b, o, vs⟩ : Frag) ∧ vs.length = m

def RetC (p m : Nat) (R : Value → Frags → Prop) : Post := fun env L => ∃ vs, CellAt env L p m vs ∧ R (.agg vs.toArray) L
def RetC1 (p m t : Nat) (R : Value → Frags → Prop) : Post := fun env L => ∃ vs u, CellAt env L p m vs ∧ get? env t = some u ∧ R (.tuple #[.agg vs.toArray, u]) L
def RetC2 (p m t s : Nat) (R : Value → Frags → Prop) : Post := fun env L => ∃ vs u v, CellAt env L p m vs ∧ get? env t = some u ∧ get? env s = some v ∧ R (.tuple #[.agg vs.toArray, u, v]) L
def RetC3 (p m t s r : Nat) (R : Value → Frags → Prop) : Post := fun env L => ∃ vs u v x, CellAt env L p m vs ∧ get? env t = some u ∧ get? env s = some v ∧ get? env r = some x ∧ R (.tuple #[.agg vs.toArray, u, v, x]) L

theorem run_cell {env : Env} {L : Frags} {p m : Nat} {vs : List Value} {a : Act} {w : World} {ty : TypeId} (h : CellAt env L p m vs) (hf : Fits n env a) (hw : Agree K L w.heap)
    (hag : ∀ w, (isAgg ty).run P w = .ok true w) (hsz : ∀ w, (sizeOf ty).run P w = .ok m w) :
    ∃ ad, (asAddr (a.tmps[p]?.getD undef)).run P w = .ok ad w ∧ (loadVar ty ad).run P w = .ok (.agg vs.toArray) w := by
  obtain ⟨b, o, i, h1, h2, h3⟩ := h
  have e := hf.val p _ h1
  rw [Array.getD_eq_getD_getElem?] at e
  have := run_loadAgg (P := P) (w := w) (b := b) (o := o) hag hsz h3 (fun j v hj => cell_of_ok (hw.at h2) hj)
  refine ⟨⟨b, o, none⟩, by rw [e]; rfl, ?_⟩
  simpa [Instr.loadAt, Instr.sureAddr] using this

theorem resC {fn : Func} {R : Value → Frags → Prop} {p ty m : Nat} (hres : fn.results = #[.cell p ty]) (hag : ∀ w, (isAgg ty).run P w = .ok true w) (hsz : ∀ w, (sizeOf ty).run P w = .ok m w) :
    ∀ env' L' a w, RetC p m R env' L' → Fits n env' a → Agree K L' w.heap → ∃ v, (results fn a.tmps).run P w = .ok v w ∧ R v L' := by
  rintro env' L' a w ⟨vs, h1, h2⟩ f hw
  obtain ⟨ad, e1, e2⟩ := run_cell (P := P) h1 f hw hag hsz
  refine ⟨_, ?_, h2⟩
  simp only [results, hres]
  simp [Sem.run_bind, e1, e2]

theorem resC1 {fn : Func} {R : Value → Frags → Prop} {p ty m t : Nat} (hres : fn.results = #[.cell p ty, .tmp t]) (hag : ∀ w, (isAgg ty).run P w = .ok true w) (hsz : ∀ w, (sizeOf ty).run P w = .ok m w) :
    ∀ env' L' a w, RetC1 p m t R env' L' → Fits n env' a → Agree K L' w.heap → ∃ v, (results fn a.tmps).run P w = .ok v w ∧ R v L' := by
  rintro env' L' a w ⟨vs, u, h1, ht, h2⟩ f hw
  obtain ⟨ad, e1, e2⟩ := run_cell (P := P) h1 f hw hag hsz
  refine ⟨_, ?_, h2⟩
  have ft := f.val t u ht
  rw [Array.getD_eq_getD_getElem?] at ft
  simp only [results, hres]
  simp [Sem.run_bind, e1, e2, ft]

theorem resC2 {fn : Func} {R : Value → Frags → Prop} {p ty m t s : Nat} (hres : fn.results = #[.cell p ty, .tmp t, .tmp s]) (hag : ∀ w, (isAgg ty).run P w = .ok true w) (hsz : ∀ w, (sizeOf ty).run P w = .ok m w) :
    ∀ env' L' a w, RetC2 p m t s R env' L' → Fits n env' a → Agree K L' w.heap → ∃ v, (results fn a.tmps).run P w = .ok v w ∧ R v L' := by
  rintro env' L' a w ⟨vs, u, v, h1, ht, hs, h2⟩ f hw
  obtain ⟨ad, e1, e2⟩ := run_cell (P := P) h1 f hw hag hsz
  refine ⟨_, ?_, h2⟩
  have ft := f.val t u ht
  rw [Array.getD_eq_getD_getElem?] at ft
  have fs := f.val s v hs
  rw [Array.getD_eq_getD_getElem?] at fs
  simp only [results, hres]
  simp [Sem.run_bind, e1, e2, ft, fs]

theorem resC3 {fn : Func} {R : Value → Frags → Prop} {p ty m t s r : Nat} (hres : fn.results = #[.cell p ty, .tmp t, .tmp s, .tmp r]) (hag : ∀ w, (isAgg ty).run P w = .ok true w) (hsz : ∀ w, (sizeOf ty).run P w = .ok m w) :
    ∀ env' L' a w, RetC3 p m t s r R env' L' → Fits n env' a → Agree K L' w.heap → ∃ v, (results fn a.tmps).run P w = .ok v w ∧ R v L' := by
  rintro env' L' a w ⟨vs, u, v, x, h1, ht, hs, hr, h2⟩ f hw
  obtain ⟨ad, e1, e2⟩ := run_cell (P := P) h1 f hw hag hsz
  refine ⟨_, ?_, h2⟩
  have ft := f.val t u ht
  rw [Array.getD_eq_getD_getElem?] at ft
  have fs := f.val s v hs
  rw [Array.getD_eq_getD_getElem?] at fs
  have fr := f.val r x hr
  rw [Array.getD_eq_getD_getElem?] at fr
  simp only [results, hres]
  simp [Sem.run_bind, e1, e2, ft, fs, fr]

/-! ### A run in many parts -/

def chunksOk : Nat → List (Nat × List Value) → Prop
  | _, [] => False
  | o, [p] => p.1 = o
  | o, p :: q :: r => p.1 = o ∧ chunksOk (o + p.2.length) (q :: r)

theorem Same.chunks (b : Nat) (F : Frags) : ∀ (l : List (Nat × List Value)) (o : Nat), chunksOk o l → Same (⟨b, o, (l.map (·.2)).flatten⟩ :: F) (l.map (fun p => (⟨b, p.1, p.2⟩ : Frag)) ++ F)
  | [], _, h => h.elim
  | [p], o, h => by
    have h' : p.1 = o := h
    subst h'
    simp only [List.map_cons, List.map_nil, List.flatten_cons, List.flatten_nil, List.append_nil]
    exact Same.refl _
  | p :: q :: r, o, h => by
    obtain ⟨o', cs⟩ := p
    have h1 : o' = o := h.1
    subst h1
    have ih := Same.chunks b F (q :: r) (o' + cs.length) h.2
    have s1 := Same.split b o' cs (((q :: r).map (·.2)).flatten) F
    have s2 : Same ([⟨b, o', cs⟩] ++ (⟨b, o' + cs.length, ((q :: r).map (·.2)).flatten⟩ :: F)) ([⟨b, o', cs⟩] ++ ((q :: r).map (fun p => (⟨b, p.1, p.2⟩ : Frag)) ++ F)) := Same.appendL _ ih
    exact s1.trans s2

/-! ### Structs of values -/

def evParts (env : Env) : List (Nat × Operand) → Option (List (Nat × Value))
  | [] => some []
  | p :: r => match ev? env p.2, evParts env r with
    | some v, some l => some ((p.1, v) :: l)
    | _, _ => none

theorem evParts_eval {env : Env} {a : Act} (hf : Fits n env a) : ∀ {l : List (Nat × Operand)} {ps : List (Nat × Value)}, evParts env l = some ps → l.map (fun p => (p.1, a.eval p.2)) = ps
  | [], _, h => by simp only [evParts, Option.some.injEq] at h; exact h
  | p :: r, ps, h => by
    simp only [evParts] at h
    split at h
    · rename_i v l hv hl
      simp only [Option.some.injEq] at h
      subst h
      rw [List.map_cons, hf.eval hv, evParts_eval hf hl]
    · cases h

/-- T{..} of values ps. -/
theorem S.buildV {env : Env} {ty t : Nat} {l : List (Nat × Operand)} {v : Value} (ps : List (Nat × Value)) (hps : evParts env l = some ps)
    (hrun : ∀ w, (Instr.build t ps.toArray).run P w = .ok v w) : OpP P n (.build t l.toArray) ty env v := by
  intro ac w hf
  have e := evParts_eval hf hps
  have e2 : (Array.map (fun (x : Nat × Operand) => match x with | (i, x) => (i, ac.eval x)) l.toArray) = ps.toArray := by
    rw [← e]; simp
  simp only [exop, execOp, e2]
  simp [hrun]

/-- []T{..} of values ps. -/
theorem X.buildSliceV {env : Env} {L : Frags} {ty t e m : Nat} {l : List (Nat × Operand)} {vs : List Value} (ps : List (Nat × Value)) (hps : evParts env l = some ps)
    (hrun : ∀ w, (Instr.buildSlice t m ps.toArray).run P w = .ok (.slice (some ⟨w.heap.size, 0, none⟩) m m) (w.alloc (.cells vs.toArray e))) :
    OpX P K n (.buildSlice t m l.toArray) ty env L fun v L' => ∃ b, v = .slice (some ⟨b, 0, none⟩) m m ∧ L' = ⟨b, 0, vs⟩ :: L := by
  intro ac w hf hw
  have e1 := evParts_eval hf hps
  have e2 : (Array.map (fun (x : Nat × Operand) => match x with | (i, x) => (i, ac.eval x)) l.toArray) = ps.toArray := by
    rw [← e1]; simp
  have hr : (exop ac.eval (.buildSlice t m l.toArray) ty).run P w = .ok (.value (.slice (some ⟨w.heap.size, 0, none⟩) m m)) (w.alloc (.cells vs.toArray e)) := by
    simp only [exop, execOp, e2]
    simp [hrun]
  rw [hr]
  exact ⟨_, ⟨_, rfl, rfl⟩, To.new hw _ _⟩

theorem fill_one {place : Nat → Option (Nat × Nat)} {cells : Array Value} {i off : Nat} {v : Value} {rest : List (Nat × Value)} (h1 : place i = some (off, 1)) (hv : one v = true) (ho : off < cells.size) :
    Instr.fill place cells ((i, v) :: rest) = Instr.fill place (cells.setIfInBounds off v) rest := by
  rw [Instr.fill, h1]
  simp only [one_cells hv]
  rw [if_neg (by simp; omega)]
  simp

theorem fill_nil {place : Nat → Option (Nat × Nat)} {cells : Array Value} : Instr.fill place cells [] = some cells := rfl

/-! ### u16, u64 numbers from others -/

theorem S.convBig {env : Env} {ty src dst : TypeId} {x : Operand} {k : IntKind} {a : Int} (hx : ev? env x = some (.int k a)) (hs : P.underlying src = some (.int k)) (hd : P.underlying dst = some (.int k)) (hr : k.wrap a = a) :
    OpP P n (.convert src dst x) ty env (.int k a) := S.conv hx hs hd hr
end
end Go.Eng
