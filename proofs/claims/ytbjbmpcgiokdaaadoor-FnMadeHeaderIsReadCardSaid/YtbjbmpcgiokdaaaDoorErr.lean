/-
  Errors: values of the interface error that this program makes, and their comparisons.
-/
import Derived.Test.YtbjbmpcgiokdaaaDoorGnd
import Derived.Test.YtbjbmpcgiokdaaaDoorEng5
set_option linter.unusedVariables false
set_option linter.unusedSimpArgs false
namespace Go.Eng
open Go Go.Proofs

theorem infoErrP : Tryd.prog.info? 179 = some Tryd.t179 := by kernel_rfl
theorem infoErrS : Tryd.prog.info? 200 = some Tryd.t200 := by kernel_rfl

/-- An error: none; one of the five that are variables (io.EOF, gzip.ErrHeader, gzip.ErrChecksum, io.ErrUnexpectedEOF, io.ErrShortBuffer); one that tells a place; one that tells a text. -/
inductive Er where
  | none
  | se (k : Fin 5)
  | corrupt (off : Int)
  | internal (s : ByteArray)

abbrev Er.eof : Er := .se 0
abbrev Er.header : Er := .se 1
abbrev Er.sum : Er := .se 2
abbrev Er.unexp : Er := .se 3
abbrev Er.short : Er := .se 4

def Er.val (a : Fin 5 → Addr) : Er → Value
  | .none => .nilIface
  | .se k => .iface 179 (.pointer (some (a k)))
  | .corrupt off => .iface 165 (.int .i64 off)
  | .internal s => .iface 174 (.string s)

theorem one_er {a : Fin 5 → Addr} (e : Er) : one (e.val a) = true := by cases e <;> rfl

def Er.isSe (e : Er) (k : Fin 5) : Bool := match e with
  | .se j => decide (j = k)
  | _ => false

def Er.isNone (e : Er) : Bool := match e with
  | .none => true
  | _ => false

theorem Er.isSe_iff {e : Er} {k : Fin 5} : e.isSe k = true ↔ e = .se k := by
  cases e <;> simp [Er.isSe]
theorem Er.isNone_iff {e : Er} : e.isNone = true ↔ e = .none := by
  cases e <;> simp [Er.isNone]
theorem Er.isSe_not {e : Er} {k : Fin 5} : e.isSe k = false ↔ e ≠ .se k := by
  rw [← Bool.not_eq_true, Er.isSe_iff]
theorem Er.isNone_not {e : Er} : e.isNone = false ↔ e ≠ .none := by
  rw [← Bool.not_eq_true, Er.isNone_iff]

structure Sents (K : Known) (a : Fin 5 → Addr) : Prop where
  ptr : ∀ k, KnownPtr K (a k)
  inj : ∀ j k, a j = a k → j = k
  g0 : cellAt K 0 0 = some (Er.val a (.se 0))
  g1 : cellAt K 1 0 = some (Er.val a (.se 1))
  g2 : cellAt K 2 0 = some (Er.val a (.se 2))
  g3 : cellAt K 3 0 = some (Er.val a (.se 3))
  g4 : cellAt K 4 0 = some (Er.val a (.se 4))

theorem cellAt_mono {K K' : Known} (h : ∀ b o, K b = some o → K' b = some o) {b o : Nat} {v : Value} (hv : cellAt K b o = some v) : cellAt K' b o = some v := by
  unfold cellAt at hv ⊢
  split at hv
  · rename_i c t fr hb
    rw [h b _ hb]; exact hv
  · cases hv

theorem Sents.mono {K K' : Known} (h : ∀ b o, K b = some o → K' b = some o) {a : Fin 5 → Addr} (s : Sents K a) : Sents K' a :=
  ⟨fun k => by obtain ⟨c, t, hk⟩ := s.ptr k; exact ⟨c, t, h _ _ hk⟩, s.inj, cellAt_mono h s.g0, cellAt_mono h s.g1, cellAt_mono h s.g2, cellAt_mono h s.g3, cellAt_mono h s.g4⟩

theorem neq_of_eql_nil {P : Program} {xT : TypeId} {w : World} {t' : TypeId} {v : Value} {b : Bool} (h : (binOp .eql xT .nilIface (.iface t' v)).run P w = .ok (.bool b) w) :
    (binOp .neq xT .nilIface (.iface t' v)).run P w = .ok (.bool (!b)) w := by
  simp only [binOp] at h ⊢
  rw [Sem.run_bind] at h ⊢
  cases hq : (Op.equal xT .nilIface (.iface t' v)).run P w with
  | ok c w1 =>
    rw [hq] at h
    simp only [Result.andThen_ok, Sem.run_pure, Result.ok.injEq, Value.bool.injEq] at h ⊢
    exact ⟨by rw [h.1], h.2⟩
  | halt c w1 => rw [hq] at h; simp at h

section
variable {K : Known} {n : Nat} {env : Env} {L : Frags} {ty : TypeId} {a : Fin 5 → Addr}

theorem eql_se (hs : Sents K a) {e : Er} {k : Fin 5} {w : World} (hw : ∃ L, Agree K L w.heap) : (binOp .eql 59 (e.val a) (Er.val a (.se k))).run Tryd.prog w = .ok (.bool (e.isSe k)) w := by
  have hi := Tryd.underlying59
  cases e with
  | none => exact run_eql_nil_iface hi
  | se j =>
    have := run_eql_ptrs (P := Tryd.prog) (H0 := K) (w := w) (a := a j) (b := a k) (i := Tryd.t179) (j := Tryd.t200) hi Tryd.underlying179 infoErrP (by rfl) infoErrS (by decide) (hs.ptr j) (hs.ptr k) hw
    show (binOp .eql _ (.iface _ (.pointer (some (a j)))) (.iface _ (.pointer (some (a k))))).run Tryd.prog w = _
    rw [this]
    have : decide (a j = a k) = decide (j = k) := by
      by_cases h : j = k
      · subst h; simp
      · rw [decide_eq_false h, decide_eq_false fun h' => h (hs.inj j k h')]
    rw [this]; rfl
  | corrupt off => exact run_eql_iface_types hi (by decide)
  | internal s => exact run_eql_iface_types hi (by decide)

theorem guard_er {e : Er} {k : Fin 5} {op : BinOp} {xT : TypeId} {x y : Operand} (w : World) : (eqGuard op xT x y (e.val a) (Er.val a (.se k))).run Tryd.prog w = .ok () w := by
  cases e with
  | none => exact guard_nilOther w
  | _ => exact guard_iface w

/-- An error against one of the seven. -/
theorem S.eqEr (hs : Sents K a) {e : Er} {k : Fin 5} {x y : Operand} {yT : TypeId} (hx : ev? env x = some (e.val a)) (hy : ev? env y = some (Er.val a (.se k))) :
    OpS Tryd.prog K n (.binOp .eql 59 x y yT) ty env L (.bool (e.isSe k)) :=
  eq_run (.inl rfl) hx hy guard_er fun _ hw => eql_se hs hw

theorem S.neEr (hs : Sents K a) {e : Er} {k : Fin 5} {x y : Operand} {yT : TypeId} (hx : ev? env x = some (e.val a)) (hy : ev? env y = some (Er.val a (.se k))) :
    OpS Tryd.prog K n (.binOp .neq 59 x y yT) ty env L (.bool (!e.isSe k)) :=
  eq_run (.inr rfl) hx hy guard_er fun w hw => by
    have h := eql_se hs (e := e) (k := k) hw
    cases e with
    | none => exact neq_of_eql_nil h
    | se j => exact run_neq_of_eql h
    | corrupt off => exact run_neq_of_eql h
    | internal s => exact run_neq_of_eql h

/-- An error against nil. -/
theorem S.eqErNil {e : Er} {x : Operand} {yT : TypeId} (hx : ev? env x = some (e.val a)) : OpS Tryd.prog K n (.binOp .eql 59 x (.const .nilIface) yT) ty env L (.bool e.isNone) := by
  cases e with
  | none => exact S.eqNilN hx Tryd.underlying59
  | se k => exact S.eqNilI hx Tryd.underlying59
  | corrupt off => exact S.eqNilI hx Tryd.underlying59
  | internal s => exact S.eqNilI hx Tryd.underlying59

theorem S.neErNil {e : Er} {x : Operand} {yT : TypeId} (hx : ev? env x = some (e.val a)) : OpS Tryd.prog K n (.binOp .neq 59 x (.const .nilIface) yT) ty env L (.bool (!e.isNone)) := by
  cases e with
  | none => exact S.neNilN hx Tryd.underlying59
  | se k => exact S.neNilI hx Tryd.underlying59
  | corrupt off => exact S.neNilI hx Tryd.underlying59
  | internal s => exact S.neNilI hx Tryd.underlying59

/-- An error against a value of another type. -/
theorem S.eqErOther {e : Er} {x y : Operand} {yT t : TypeId} {v : Value} (hx : ev? env x = some (e.val a)) (hy : ev? env y = some (.iface t v)) (h1 : Nat.beq 179 t = false) (h2 : Nat.beq 165 t = false)
    (h3 : Nat.beq 174 t = false) : OpS Tryd.prog K n (.binOp .eql 59 x y yT) ty env L (.bool false) := by
  cases e with
  | none => exact S.eqNil2 hx hy Tryd.underlying59
  | se k => exact S.eqTypes hx hy Tryd.underlying59 h1
  | corrupt off => exact S.eqTypes hx hy Tryd.underlying59 h2
  | internal s => exact S.eqTypes hx hy Tryd.underlying59 h3

/-- A condition on errors. -/
theorem C.ifNone {P : Program} {c : Operand} {x y : Code} {N X R} {e : Er} (hc : ev? env c = some (.bool e.isNone))
    (ht : e = .none → wpC P K n x env L N X R) (he : e ≠ .none → wpC P K n y env L N X R) : wpC P K n (.cond c x y) env L N X R :=
  C.cond hc (fun h => ht (Er.isNone_iff.1 h)) (fun h => he (Er.isNone_not.1 h))
theorem C.ifSome {P : Program} {c : Operand} {x y : Code} {N X R} {e : Er} (hc : ev? env c = some (.bool (!e.isNone)))
    (ht : e ≠ .none → wpC P K n x env L N X R) (he : e = .none → wpC P K n y env L N X R) : wpC P K n (.cond c x y) env L N X R :=
  C.cond hc (fun h => ht (Er.isNone_not.1 (by simpa using h))) (fun h => he (Er.isNone_iff.1 (by simpa using h)))
theorem C.ifSe {P : Program} {c : Operand} {x y : Code} {N X R} {e : Er} {k : Fin 5} (hc : ev? env c = some (.bool (e.isSe k)))
    (ht : e = .se k → wpC P K n x env L N X R) (he : e ≠ .se k → wpC P K n y env L N X R) : wpC P K n (.cond c x y) env L N X R :=
  C.cond hc (fun h => ht (Er.isSe_iff.1 h)) (fun h => he (Er.isSe_not.1 h))
theorem C.ifNotSe {P : Program} {c : Operand} {x y : Code} {N X R} {e : Er} {k : Fin 5} (hc : ev? env c = some (.bool (!e.isSe k)))
    (ht : e ≠ .se k → wpC P K n x env L N X R) (he : e = .se k → wpC P K n y env L N X R) : wpC P K n (.cond c x y) env L N X R :=
  C.cond hc (fun h => ht (Er.isSe_not.1 (by simpa using h))) (fun h => he (Er.isSe_iff.1 (by simpa using h)))
end

/-! ### Forks inside a statement -/

section
variable {P : Program} {K : Known} {n : Nat} {env : Env} {L : Frags}

theorem E.forkB {ops : Array Oper} {l : List Oper} {d : Nat} {b : Bool} {N : Post} (h1 : b = true → wpE P K n ops l ((d, .bool true) :: env) L N) (h2 : b = false → wpE P K n ops l ((d, .bool false) :: env) L N) :
    wpE P K n ops l ((d, .bool b) :: env) L N := by cases b; exact h2 rfl; exact h1 rfl
theorem E.fork {ops : Array Oper} {l : List Oper} {d : Nat} {p : Prop} {_ : Decidable p} {N : Post} (h1 : p → wpE P K n ops l ((d, .bool true) :: env) L N) (h2 : ¬ p → wpE P K n ops l ((d, .bool false) :: env) L N) :
    wpE P K n ops l ((d, .bool (decide p)) :: env) L N := E.forkB (fun h => h1 (of_decide_eq_true h)) fun h => h2 (of_decide_eq_false h)
theorem W.forkB {ops : Array Oper} {ds : List Nat} {s : List (Nat × Nat)} {d : Nat} {b : Bool} {M : Env → Prop} (h1 : b = true → wpS P K n ops ds s ((d, .bool true) :: env) L M) (h2 : b = false → wpS P K n ops ds s ((d, .bool false) :: env) L M) :
    wpS P K n ops ds s ((d, .bool b) :: env) L M := by cases b; exact h2 rfl; exact h1 rfl
theorem W.fork {ops : Array Oper} {ds : List Nat} {s : List (Nat × Nat)} {d : Nat} {p : Prop} {_ : Decidable p} {M : Env → Prop} (h1 : p → wpS P K n ops ds s ((d, .bool true) :: env) L M) (h2 : ¬ p → wpS P K n ops ds s ((d, .bool false) :: env) L M) :
    wpS P K n ops ds s ((d, .bool (decide p)) :: env) L M := W.forkB (fun h => h1 (of_decide_eq_true h)) fun h => h2 (of_decide_eq_false h)
theorem D.forkB {ops : Array Oper} {ds : List Nat} {q : Plan} {d : Nat} {b : Bool} {N : Post} (h1 : b = true → wpD P K n ops ds q ((d, .bool true) :: env) L N) (h2 : b = false → wpD P K n ops ds q ((d, .bool false) :: env) L N) :
    wpD P K n ops ds q ((d, .bool b) :: env) L N := by cases b; exact h2 rfl; exact h1 rfl
theorem D.fork {ops : Array Oper} {ds : List Nat} {q : Plan} {d : Nat} {p : Prop} {_ : Decidable p} {N : Post} (h1 : p → wpD P K n ops ds q ((d, .bool true) :: env) L N) (h2 : ¬ p → wpD P K n ops ds q ((d, .bool false) :: env) L N) :
    wpD P K n ops ds q ((d, .bool (decide p)) :: env) L N := D.forkB (fun h => h1 (of_decide_eq_true h)) fun h => h2 (of_decide_eq_false h)
theorem E.forkN {ops : Array Oper} {l : List Oper} {d : Nat} {e : Er} {N : Post} (h1 : e = .none → wpE P K n ops l ((d, .bool true) :: env) L N) (h2 : e ≠ .none → wpE P K n ops l ((d, .bool false) :: env) L N) :
    wpE P K n ops l ((d, .bool e.isNone) :: env) L N := E.forkB (fun h => h1 (Er.isNone_iff.1 h)) fun h => h2 (Er.isNone_not.1 h)

/-- A guarded operation that is asked for. -/
theorem E.wanted {ops : Array Oper} {dst : Option Nat} {op : Op} {ty : TypeId} {pos : String} {af : Array Edge} {j : Nat} {b : Bool} {rest : List Oper} {N : Post}
    (t : Nat) (ht : (ops[j]?).bind (·.dst) = some t) (hv : get? env t = some (.bool b)) (k : wpE P K n ops (⟨dst, op, ty, pos, af, none⟩ :: rest) env L N) :
    wpE P K n ops (⟨dst, op, ty, pos, af, some (j, b)⟩ :: rest) env L N := by
  intro a w hf hw Q hq
  have h1 := k a w hf hw Q hq
  have hy : yielded ops a.tmps j = some b := yielded_of hf ht hv
  simp only [wpList, Region.wanted, hy, beq_self_eq_true, if_true] at h1 ⊢
  exact h1
end
end Go.Eng
