/-
  Engine, part 2: what single operations do (loads, stores, addresses, numbers, slices, calls), as rules of the small logic of part 1.
-/
import Derived.Test.YtbjbmpcgiokdaaaDoorEng1
import Derived.IntWalk
import Derived.Laws.Slices
import Derived.Laws.Build
import Derived.Laws.BitsAllLaws
import Derived.Laws.Bits64
import Derived.Laws.IdiomCopy
set_option linter.unusedVariables false
set_option linter.unusedSimpArgs false
namespace Go.Eng
open Go

section
variable {P : Program} {H0 : Known} {n : Nat} {env : Env} {L : Frags} {ty : TypeId}

/-! ### Memory facts -/

theorem Agree.at {H : Array Obj} (h : Agree H0 L H) {i : Nat} {f : Frag} (hf : L[i]? = some f) : f.ok H := h.ok f (List.mem_of_getElem? hf)

theorem cell_of_ok {f : Frag} {w : World} (h : f.ok w.heap) {j : Nat} {v : Value} (hj : f.cs[j]? = some v) : w.cell? ⟨f.b, f.o + j, none⟩ = some v := by
  obtain ⟨c, t, fr, hb, hv, _⟩ := h.row
  have hl : j < f.cs.length := by
    rcases Nat.lt_or_ge j f.cs.length with h' | h'
    · exact h'
    · rw [List.getElem?_eq_none h'] at hj; cases hj
  have h1 := hv j hl
  rw [List.getElem?_eq_getElem hl] at hj
  simp only [World.cell?, hb, h1]
  simpa using hj

theorem frozen_of_ok {f : Frag} {w : World} (h : f.ok w.heap) {j : Nat} (hl : j < f.cs.length) : w.frozen? ⟨f.b, f.o + j, none⟩ = false := by
  obtain ⟨c, t, fr, hb, _, hz⟩ := h.row
  simp only [World.frozen?, hb]
  exact hz j hl

theorem cell_of_known {w : World} (h : H0.sits w.heap) {b o : Nat} {v : Value} (hv : cellAt H0 b o = some v) : w.cell? ⟨b, o, none⟩ = some v := by
  unfold cellAt at hv
  split at hv
  · rename_i c t fr hb; simp only [World.cell?, h b _ hb]; simpa using hv
  · cases hv

theorem cell_of_base {w : World} (h : Agree H0 L w.heap) {b o : Nat} {v : Value} (hv : cellAt H0 b o = some v) : w.cell? ⟨b, o, none⟩ = some v := cell_of_known h.base hv

/-! ### Operations without memory -/

theorem S.move {x : Operand} {v : Value} (h : ev? env x = some v) : OpP P n (.move x) ty env v := by
  intro a w hf; simp only [exop, execOp, hf.eval h]; rfl
theorem S.assign {x : Operand} {v : Value} (h : ev? env x = some v) : OpP P n (.assign x) ty env v := by
  intro a w hf; simp only [exop, execOp, hf.eval h]; rfl
theorem S.pick {c x y : Operand} {b : Bool} {u v : Value} (hc : ev? env c = some (.bool b)) (hx : ev? env x = some u) (hy : ev? env y = some v) :
    OpP P n (.pick c x y) ty env (if b then u else v) := by
  intro a w hf; simp only [exop, execOp, hf.eval hc, hf.eval hx, hf.eval hy]; cases b <;> rfl
/-- With an operand that was not asked for (its slot holds nothing of use). -/
theorem S.pickT {c x y : Operand} {u : Value} (hc : ev? env c = some (.bool true)) (hx : ev? env x = some u) : OpP P n (.pick c x y) ty env u := by
  intro a w hf; simp only [exop, execOp, hf.eval hc, hf.eval hx]; rfl
theorem S.pickF {c x y : Operand} {v : Value} (hc : ev? env c = some (.bool false)) (hy : ev? env y = some v) : OpP P n (.pick c x y) ty env v := by
  intro a w hf; simp only [exop, execOp, hf.eval hc, hf.eval hy]; rfl
theorem S.nilPtr {x : Operand} {a : Addr} (h : ev? env x = some (.pointer (some a))) : OpP P n (.nilCheck x) ty env (.pointer (some a)) := by
  intro a w hf; simp only [exop, execOp, hf.eval h]; rfl
theorem S.nilIface {x : Operand} {t : TypeId} {v : Value} (h : ev? env x = some (.iface t v)) : OpP P n (.nilCheck x) ty env (.iface t v) := by
  intro a w hf; simp only [exop, execOp, hf.eval h]; rfl
theorem S.nilFunc {x : Operand} {f : FuncId} (h : ev? env x = some (.func (.func f) #[] #[])) : OpP P n (.nilCheck x) ty env (.func (.func f) #[] #[]) := by
  intro a w hf; simp only [exop, execOp, hf.eval h]; rfl
theorem S.extract {x : Operand} {vs : Array Value} {i : Nat} {v : Value} (h : ev? env x = some (.tuple vs)) (hi : vs[i]? = some v) : OpP P n (.extract x i) ty env v := by
  intro a w hf; simp only [exop, execOp, hf.eval h]
  simp [Instr.extract, hi]
theorem S.mkFunc {f : FuncId} : OpP P n (.makeFunc (.func f) #[] #[]) ty env (.func (.func f) #[] #[]) := by
  intro a w hf; simp only [exop, execOp]; simp [Instr.makeFunc]
theorem S.mkIface {x : Operand} {t : TypeId} {v : Value} (h : ev? env x = some v) (hc : P.concrete t = true) : OpP P n (.makeInterface t x) ty env (.iface t v) := by
  intro a w hf; simp only [exop, execOp, hf.eval h]
  simp [run_makeInterface, hc]
theorem S.notB {x : Operand} {t : TypeId} {b : Bool} (h : ev? env x = some (.bool b)) : OpP P n (.unOp .not t x) ty env (.bool (!b)) := by
  intro a w hf; simp only [exop, execOp, hf.eval h]; rfl

/-- A field's address. The fact 'hf' is closed: one for each field. -/
theorem S.field {x : Operand} {s : TypeId} {f : Nat} {k : Nat} {b o : Nat} (h : ev? env x = some (.pointer (some ⟨b, o, none⟩)))
    (hf : ∀ a w, (Instr.fieldAt s (.pointer (some a)) f).run P w = .ok (.pointer (some (a.add k))) w) :
    OpP P n (.fieldAddr s x f) ty env (.pointer (some ⟨b, o + k, none⟩)) := by
  intro a w hf'; simp only [exop, execOp, hf'.eval h]
  have hk : (⟨b, o, none⟩ : Addr).add k = ⟨b, o + k, none⟩ := by
    unfold Addr.add
    by_cases h0 : k = 0
    · simp [h0]
    · simp [h0]
  simp [hf, hk]

/-! ### Loads -/

theorem run_load1 {w : World} {t : TypeId} {a : Addr} {v : Value} (hag : ∀ w, (isAgg t).run P w = .ok false w) (hv : w.cell? a = some v) :
    (Instr.loadAt t (.pointer (some a))).run P w = .ok v w := by
  simp [Instr.loadAt, Instr.sureAddr, loadVar, hag, hv]

/-- A cell of fragment i. -/
theorem S.load (i : Nat) {x : Operand} {t : TypeId} {b o k : Nat} {cs : List Value} {v : Value} (hL : L[i]? = some ⟨b, o, cs⟩) (h : ev? env x = some (.pointer (some ⟨b, o + k, none⟩)))
    (hv : cs[k]? = some v) (hag : ∀ w, (isAgg t).run P w = .ok false w) : OpS P H0 n (.load t x) ty env L v := by
  intro a w hf hw
  simp only [exop, execOp, hf.eval h]
  have := run_load1 (P := P) hag (cell_of_ok (hw.at hL) hv)
  simp [this]

theorem S.loadBase {x : Operand} {t : TypeId} {b o : Nat} {v : Value} (h : ev? env x = some (.pointer (some ⟨b, o, none⟩)))
    (hv : cellAt H0 b o = some v) (hag : ∀ w, (isAgg t).run P w = .ok false w) : OpS P H0 n (.load t x) ty env L v := by
  intro a w hf hw
  simp only [exop, execOp, hf.eval h]
  have := run_load1 (P := P) hag (cell_of_base hw hv)
  simp [this]

theorem run_loadAgg {w : World} {t : TypeId} {b o m : Nat} {vs : List Value} (hag : ∀ w, (isAgg t).run P w = .ok true w) (hsz : ∀ w, (sizeOf t).run P w = .ok m w)
    (hlen : vs.length = m) (hv : ∀ j v, vs[j]? = some v → w.cell? ⟨b, o + j, none⟩ = some v) :
    (Instr.loadAt t (.pointer (some ⟨b, o, none⟩))).run P w = .ok (.agg vs.toArray) w := by
  have h1 := run_loadCells_list (P := P) w ⟨b, o, none⟩ vs (fun j v hj => by
    have : (⟨b, o, none⟩ : Addr).add j = ⟨b, o + j, none⟩ := by
      unfold Addr.add
      by_cases h0 : j = 0 <;> simp [h0]
    rw [this]; exact hv j v hj)
  rw [hlen] at h1
  simp [Instr.loadAt, Instr.sureAddr, loadVar, hag, hsz, h1]

/-- A struct or an array, out of fragment i from its place k on. -/
theorem S.loadA (i : Nat) {x : Operand} {t : TypeId} {b o k m : Nat} {cs vs : List Value} (hL : L[i]? = some ⟨b, o, cs⟩) (h : ev? env x = some (.pointer (some ⟨b, o + k, none⟩)))
    (hv : (cs.drop k).take m = vs) (hlen : vs.length = m) (hag : ∀ w, (isAgg t).run P w = .ok true w) (hsz : ∀ w, (sizeOf t).run P w = .ok m w) :
    OpS P H0 n (.load t x) ty env L (.agg vs.toArray) := by
  intro a w hf hw
  simp only [exop, execOp, hf.eval h]
  have h2 := run_loadAgg (P := P) (w := w) (b := b) (o := o + k) hag hsz hlen (fun j v hj => by
    rw [← hv, List.getElem?_take] at hj
    split at hj
    · rw [List.getElem?_drop] at hj
      have := cell_of_ok (hw.at hL) hj
      rw [Nat.add_assoc]; exact this
    · cases hj)
  simp [h2]

theorem S.loadABase {x : Operand} {t : TypeId} {b o m : Nat} {vs : List Value} (h : ev? env x = some (.pointer (some ⟨b, o, none⟩)))
    (hv : ∀ j v, vs[j]? = some v → cellAt H0 b (o + j) = some v) (hlen : vs.length = m) (hag : ∀ w, (isAgg t).run P w = .ok true w) (hsz : ∀ w, (sizeOf t).run P w = .ok m w) :
    OpS P H0 n (.load t x) ty env L (.agg vs.toArray) := by
  intro a w hf hw
  simp only [exop, execOp, hf.eval h]
  have h2 := run_loadAgg (P := P) (w := w) (b := b) (o := o) hag hsz hlen (fun j v hj => cell_of_base hw (hv j v hj))
  simp [h2]

/-! ### Stores -/

def one (v : Value) : Bool := match v with | .agg _ | .tuple _ => false | _ => true

theorem one_cells {v : Value} (h : one v = true) : v.cells = #[v] := by cases v <;> first | rfl | (simp [one] at h)
theorem one_oneCell {v : Value} (h : one v = true) : v.oneCell' = true := by cases v <;> first | rfl | (simp [one] at h)

/-- The fragments when fragment i holds other values. -/
def putF (L : Frags) (i : Nat) (cs' : List Value) : Frags :=
  match L[i]? with
  | some f => L.set i ⟨f.b, f.o, cs'⟩
  | none => L

/-- How a run of cells is written into a row of cells. -/
structure Wrote (w : World) (b o : Nat) (vs : List Value) (w' : World) : Prop where
  size : w'.heap.size = w.heap.size
  other : ∀ k, k ≠ b → w'.heap[k]? = w.heap[k]?
  here : ∀ c t fr, w.heap[b]? = some (.cells c t fr) → ∃ c', w'.heap[b]? = some (.cells c' t fr) ∧ c'.size = c.size ∧
    (∀ j (h : j < vs.length), o + j < c.size → c'[o + j]? = some vs[j]) ∧ ∀ j, (j < o ∨ o + vs.length ≤ j) → c'[j]? = c[j]?
  os : w'.os = w.os
  tape : w'.tape = w.tape
  output : w'.output = w.output

theorem wrote_cell (w : World) (b o : Nat) (v : Value) : Wrote w b o [v] (w.setCell ⟨b, o, none⟩ v) := by
  refine ⟨by simp, fun k hk => ?_, fun c t fr hb => ?_, rfl, rfl, rfl⟩
  · simp only [World.setCell, Array.getElem?_modify]
    rw [if_neg (by simpa using Ne.symm hk)]
  · refine ⟨c.setIfInBounds o v, ?_, by simp, fun j h ho => ?_, fun j h => ?_⟩
    · simp only [World.setCell, Array.getElem?_modify, if_true, hb]
      simp
    · have : j = 0 := by simp at h; exact h
      subst this
      simp at ho
      simp [ho]
    · simp at h
      exact Array.getElem?_setIfInBounds_ne (by omega)

theorem Wrote.trans {w w1 w2 : World} {b o : Nat} {v : Value} {r : List Value} (h : Wrote w b o [v] w1) (k : Wrote w1 b (o + 1) r w2) : Wrote w b o (v :: r) w2 := by
  refine ⟨k.size.trans h.size, fun x hx => (k.other x hx).trans (h.other x hx), fun c t fr hb => ?_, k.os.trans h.os, k.tape.trans h.tape, k.output.trans h.output⟩
  obtain ⟨c1, hc1, hs1, hi1, ho1⟩ := h.here c t fr hb
  obtain ⟨c2, hc2, hs2, hi2, ho2⟩ := k.here c1 t fr hc1
  refine ⟨c2, hc2, hs2.trans hs1, fun j hj hlt => ?_, fun j hj => ?_⟩
  · cases j with
    | zero =>
      rw [ho2 _ (.inl (by omega))]
      have := hi1 0 (by simp) (by simpa using hlt)
      simpa using this
    | succ j =>
      have := hi2 j (by simpa using hj) (by rw [hs1]; omega)
      rw [show o + (j + 1) = o + 1 + j by omega]
      simpa using this
  · simp at hj
    rw [ho2 j (by omega), ho1 j (by simp; omega)]

theorem wrote_cells (b : Nat) : ∀ (vs : List Value) (o : Nat) (w : World), Wrote w b o vs (w.setCells b o vs)
  | [], o, w => ⟨rfl, fun _ _ => rfl, fun c t fr hb => ⟨c, hb, rfl, fun j h => by simp at h, fun _ _ => rfl⟩, rfl, rfl, rfl⟩
  | v :: r, o, w => (wrote_cell w b o v).trans (wrote_cells b r (o + 1) (w.setCell ⟨b, o, none⟩ v))

theorem has_same {b o : Nat} {cs cs' : List Value} (hl : cs'.length = cs.length) {x j : Nat} : (⟨b, o, cs'⟩ : Frag).has x j ↔ (⟨b, o, cs⟩ : Frag).has x j := by
  simp [Frag.has, hl]

theorem mem_set {L : Frags} {i : Nat} {f g : Frag} (h : g ∈ L.set i f) : g = f ∨ ∃ j, j ≠ i ∧ L[j]? = some g := by
  obtain ⟨j, hj⟩ := List.mem_iff_getElem?.1 h
  rw [List.getElem?_set] at hj
  by_cases hij : i = j
  · rw [if_pos hij] at hj
    split at hj
    · left; simpa using hj.symm
    · cases hj
  · rw [if_neg hij] at hj
    exact .inr ⟨j, fun e => hij e.symm, hj⟩

theorem disj_at {L : Frags} (h : L.Pairwise Disj) {i j : Nat} {f g : Frag} (hi : L[i]? = some f) (hj : L[j]? = some g) (hne : i ≠ j) : Disj f g := by
  have hi' := List.getElem?_eq_some_iff.1 hi
  have hj' := List.getElem?_eq_some_iff.1 hj
  obtain ⟨li, rfl⟩ := hi'
  obtain ⟨lj, rfl⟩ := hj'
  rw [List.pairwise_iff_getElem] at h
  rcases Nat.lt_or_ge i j with hlt | hge
  · exact h i j li lj hlt
  · exact (h j i lj li (by omega)).symm

/-- Cells of fragment i have been written. -/
theorem To.write {w w' : World} (hw : Agree H0 L w.heap) {i : Nat} {b o k : Nat} {cs cs' vs : List Value} (hL : L[i]? = some ⟨b, o, cs⟩)
    (hwr : Wrote w b (o + k) vs w') (hk : k + vs.length ≤ cs.length) (hcs : cs' = cs.take k ++ vs ++ cs.drop (k + vs.length)) : To H0 w L w' (putF L i cs') := by
  have hlen : cs'.length = cs.length := by rw [hcs]; simp; omega
  have hput : putF L i cs' = L.set i ⟨b, o, cs'⟩ := by simp [putF, hL]
  have hmem : (⟨b, o, cs⟩ : Frag) ∈ L := List.mem_of_getElem? hL
  obtain ⟨c, t, fr, hb, hv, hz⟩ := (hw.ok _ hmem).row
  obtain ⟨c', hc', hs', hin, hout⟩ := hwr.here c t fr hb
  have hup := hw.up _ hmem
  simp only at hb hv hz hup
  have hcsz : ∀ j, j < cs.length → o + j < c.size := fun j hj => lt_of_some (hv j hj)
  have okf : (⟨b, o, cs'⟩ : Frag).ok w'.heap := by
    refine ⟨c', t, fr, hc', fun j hj => ?_, fun j hj => hz j (by rw [← hlen]; exact hj)⟩
    have hj2 : j < cs.length := by rw [← hlen]; exact hj
    have e : cs'[j]? = if j < k then cs[j]? else if j < k + vs.length then vs[j - k]? else cs[j]? := by
      rw [hcs]
      by_cases h1 : j < k
      · rw [if_pos h1, List.append_assoc, List.getElem?_append_left (by simp; omega), List.getElem?_take]; simp [h1]
      · rw [if_neg h1]
        by_cases h2 : j < k + vs.length
        · rw [if_pos h2, List.getElem?_append_left (by simp; omega), List.getElem?_append_right (by simp; omega)]
          simp; rw [show min k cs.length = k by omega]
        · rw [if_neg h2, List.getElem?_append_right (by simp; omega), List.getElem?_drop]
          congr 1; simp; omega
    rw [List.getElem?_eq_getElem hj] at e
    show c'[o + j]? = some cs'[j]
    rw [e]
    by_cases h1 : j < k
    · rw [if_pos h1, hout _ (.inl (by omega)), hv j hj2, List.getElem?_eq_getElem hj2]
    · rw [if_neg h1]
      by_cases h2 : j < k + vs.length
      · rw [if_pos h2]
        have := hin (j - k) (by omega) (by have := hcsz j hj2; omega)
        rw [show o + k + (j - k) = o + j by omega] at this
        rw [this, List.getElem?_eq_getElem (by omega)]
      · rw [if_neg h2, hout _ (.inr (by omega)), hv j hj2, List.getElem?_eq_getElem hj2]
  have okg : ∀ j g, j ≠ i → L[j]? = some g → g.ok w'.heap := by
    intro j g hji hg
    have hd := disj_at hw.dis hg hL hji
    obtain ⟨c2, t2, fr2, hb2, hv2, hz2⟩ := (hw.at hg).row
    by_cases he : g.b = b
    · have : c2 = c ∧ t2 = t ∧ fr2 = fr := by
        rw [he, hb] at hb2
        simp only [Option.some.injEq, Obj.cells.injEq] at hb2
        exact ⟨hb2.1.symm, hb2.2.1.symm, hb2.2.2.symm⟩
      obtain ⟨rfl, rfl, rfl⟩ := this
      refine ⟨c', t2, fr2, by rw [he]; exact hc', fun x hx => ?_, hz2⟩
      rw [hout (g.o + x) ?_]
      · exact hv2 x hx
      · rcases Nat.lt_or_ge (g.o + x) (o + k) with h1 | h1
        · exact .inl h1
        · rcases Nat.lt_or_ge (g.o + x) (o + k + vs.length) with h2 | h2
          · exact absurd ⟨rfl, by show o ≤ g.o + x; omega, by show g.o + x < o + cs.length; omega⟩ (hd b (g.o + x) ⟨he, by omega, by omega⟩)
          · exact .inr h2
    · exact ⟨c2, t2, fr2, by rw [hwr.other _ he]; exact hb2, hv2, hz2⟩
  rw [hput]
  refine ⟨⟨fun x ox hx => ?_, fun f hf => ?_, fun f hf => ?_, ?_⟩, by rw [hwr.size]; exact Nat.le_refl _, fun x hx hn => ?_, fun x cx tx fx hx => ?_, fun f hf => ?_, hwr.os, hwr.tape, hwr.output⟩
  · rw [hwr.other x (fun e => by rw [e, hup] at hx; cases hx)]; exact hw.base x ox hx
  · rcases mem_set hf with rfl | ⟨j, _, hj⟩
    · exact hup
    · exact hw.up f (List.mem_of_getElem? hj)
  · rcases mem_set hf with rfl | ⟨j, hji, hj⟩
    · exact okf
    · exact okg j f hji hj
  · rw [List.pairwise_iff_getElem]
    intro p q hp hq hpq
    have hpd := hw.dis
    rw [List.pairwise_iff_getElem] at hpd
    have hp' : p < L.length := by simpa using hp
    have hq' : q < L.length := by simpa using hq
    have base := hpd p q hp' hq' hpq
    have hgi : ∀ (x : Nat) (hx : x < L.length) (hx2 : x < (L.set i ⟨b, o, cs'⟩).length) (y j : Nat), ((L.set i ⟨b, o, cs'⟩)[x]'hx2).has y j ↔ (L[x]).has y j := by
      intro x hx hx2 y j
      rw [List.getElem_set]
      by_cases hix : i = x
      · subst hix
        rw [if_pos rfl]
        rw [List.getElem?_eq_getElem hx, Option.some.injEq] at hL
        rw [hL]
        exact has_same hlen
      · rw [if_neg hix]
    intro y j h1 h2
    exact base y j ((hgi p hp' hp y j).1 h1) ((hgi q hq' hq y j).1 h2)
  · exact hwr.other x (fun e => hn _ hmem (by simpa using e.symm))
  · by_cases he : x = b
    · subst he
      obtain ⟨c3, h3, h4, _, h5⟩ := hwr.here cx tx fx hx
      refine ⟨c3, h3, h4, fun j hj => h5 j ?_⟩
      rcases Nat.lt_or_ge j (o + k) with h6 | h6
      · exact .inl h6
      · rcases Nat.lt_or_ge j (o + k + vs.length) with h7 | h7
        · exact absurd ⟨_, hmem, rfl, by show o ≤ j; omega, by show j < o + cs.length; omega⟩ hj
        · exact .inr h7
    · exact ⟨cx, by rw [hwr.other x he]; exact hx, rfl, fun _ _ => rfl⟩
  · rcases mem_set hf with rfl | ⟨j, _, hj⟩
    · exact .inr ⟨⟨_, hmem, rfl⟩, fun j hj => ⟨_, hmem, (has_same hlen).1 hj⟩⟩
    · exact .inr ⟨⟨f, List.mem_of_getElem? hj, rfl⟩, fun x hx => ⟨f, List.mem_of_getElem? hj, hx⟩⟩

theorem putF_eq {i : Nat} {b o : Nat} {cs cs' : List Value} (hL : L[i]? = some ⟨b, o, cs⟩) : putF L i cs' = L.set i ⟨b, o, cs'⟩ := by simp [putF, hL]

theorem run_storeVar1 {w : World} {t : TypeId} {b o : Nat} {v u : Value} (h1 : one v = true) (hsz : ∀ w, (sizeOf t).run P w = .ok 1 w)
    (hc : w.cell? ⟨b, o, none⟩ = some u) (hz : w.frozen? ⟨b, o, none⟩ = false) :
    (Instr.storeAt t (.pointer (some ⟨b, o, none⟩)) v).run P w = .ok () (w.setCell ⟨b, o, none⟩ v) := by
  have h2 := run_storeCells_cells (P := P) b o [v] 0 w (by simpa using by rw [hc]; rfl) (by simpa using hz) (by simpa using one_oneCell h1)
  simp only [Nat.add_zero, World.setCells] at h2
  simp [Instr.storeAt, Instr.sureAddr, storeVar, hsz, one_cells h1, h2]

/-- One cell of fragment i. -/
theorem X.store (i : Nat) {t : TypeId} {x y : Operand} {b o k : Nat} {cs : List Value} {v : Value} (hL : L[i]? = some ⟨b, o, cs⟩) (hx : ev? env x = some (.pointer (some ⟨b, o + k, none⟩)))
    (hy : ev? env y = some v) (h1 : one v = true) (hk : Nat.blt k cs.length = true) (hsz : ∀ w, (sizeOf t).run P w = .ok 1 w) :
    OpX P H0 n (.store t x y) ty env L fun u L' => u = undef ∧ L' = L.set i ⟨b, o, cs.set k v⟩ := by
  intro a w hf hw
  have hk' : k < cs.length := by simpa [Nat.blt_eq] using hk
  have hok := hw.at hL
  have hst := run_storeVar1 (P := P) (t := t) h1 hsz (cell_of_ok hok (List.getElem?_eq_getElem hk')) (frozen_of_ok hok hk')
  have hrun : (exop a.eval (.store t x y) ty).run P w = .ok .skip (w.setCell ⟨b, o + k, none⟩ v) := by
    simp only [exop, execOp, hf.eval hx, hf.eval hy]
    simp only [Sem.run_bind, hst, Result.andThen_ok, Sem.run_pure]
  rw [hrun]
  refine ⟨_, ⟨rfl, rfl⟩, ?_⟩
  rw [← putF_eq hL]
  refine To.write hw hL (wrote_cell w b (o + k) v) (by simp; omega) ?_
  rw [List.set_eq_take_append_cons_drop, if_pos hk']
  simp

/-- A struct or an array, into fragment i from place k on. -/
theorem X.storeA (i : Nat) {t : TypeId} {x y : Operand} {b o k m : Nat} {cs cs' vs : List Value} (hL : L[i]? = some ⟨b, o, cs⟩) (hx : ev? env x = some (.pointer (some ⟨b, o + k, none⟩)))
    (hy : ev? env y = some (.agg vs.toArray)) (h1 : vs.all one = true) (hlen : vs.length = m) (hk : Nat.ble (k + m) cs.length = true) (hsz : ∀ w, (sizeOf t).run P w = .ok m w)
    (hcs : cs' = cs.take k ++ vs ++ cs.drop (k + m)) :
    OpX P H0 n (.store t x y) ty env L fun u L' => u = undef ∧ L' = L.set i ⟨b, o, cs'⟩ := by
  intro a w hf hw
  have hk' : k + m ≤ cs.length := Nat.le_of_ble_eq_true hk
  have hok := hw.at hL
  have h2 := run_storeCells_cells (P := P) b (o + k) vs 0 w (fun j hj => by
      have := cell_of_ok hok (j := k + j) (List.getElem?_eq_getElem (by simp only; omega))
      simp only at this
      rw [Nat.add_zero, Nat.add_assoc, this]; rfl)
    (fun j hj => by
      have := frozen_of_ok hok (j := k + j) (by simp only; omega)
      simp only at this
      rw [Nat.add_zero, Nat.add_assoc, this]) (fun v hv => one_oneCell (List.all_eq_true.1 h1 v hv))
  simp only [Nat.add_zero] at h2
  have hst : (Instr.storeAt t (.pointer (some ⟨b, o + k, none⟩)) (.agg vs.toArray)).run P w = .ok () (w.setCells b (o + k) vs) := by
    simp [Instr.storeAt, Instr.sureAddr, storeVar, hsz, Value.cells, hlen, h2]
  have hrun : (exop a.eval (.store t x y) ty).run P w = .ok .skip (w.setCells b (o + k) vs) := by
    simp only [exop, execOp, hf.eval hx, hf.eval hy]
    simp only [Sem.run_bind, hst, Result.andThen_ok, Sem.run_pure]
  rw [hrun]
  refine ⟨_, ⟨rfl, rfl⟩, ?_⟩
  rw [← putF_eq hL]
  exact To.write hw hL (wrote_cells b vs (o + k) w) (by omega) (by rw [hlen]; exact hcs)

/-! ### New memory -/

theorem To.new {w : World} (hw : Agree H0 L w.heap) (vs : List Value) (t : TypeId) :
    To H0 w L { w with heap := w.heap.push (.cells vs.toArray t) } (⟨w.heap.size, 0, vs⟩ :: L) := by
  have hold : ∀ (k : Nat), k < w.heap.size → (w.heap.push (.cells vs.toArray t))[k]? = w.heap[k]? := fun k hk => by
    rw [Array.getElem?_push, if_neg (by omega)]
  refine ⟨⟨fun b ob hb => ?_, fun f hf => ?_, fun f hf => ?_, ?_⟩, by simp, fun b hb _ => hold b hb, fun b c t' fr hb => ⟨c, ?_, rfl, fun _ _ => rfl⟩, fun f hf => ?_, rfl, rfl, rfl⟩
  · have h1 := hw.base b ob hb
    simp only
    rw [hold b (lt_of_some h1)]
    exact h1
  · rcases List.mem_cons.1 hf with rfl | h
    · cases hk : H0 w.heap.size with
      | none => rfl
      | some o => exact absurd (lt_of_some (hw.base _ o hk)) (Nat.lt_irrefl _)
    · exact hw.up f h
  · rcases List.mem_cons.1 hf with rfl | h
    · exact ⟨vs.toArray, t, (0, 0), by simp, fun j hj => by simp only at hj; simp [hj], fun j _ => by simp⟩
    · obtain ⟨c, t', fr, h1, h2⟩ := (hw.ok f h).row
      exact ⟨c, t', fr, by rw [hold _ (lt_of_some h1)]; exact h1, h2⟩
  · refine List.pairwise_cons.2 ⟨fun g hg b j h1 h2 => ?_, hw.dis⟩
    have := (hw.ok g hg).lt
    have e1 : w.heap.size = b := h1.1
    have e2 := h2.1
    omega
  · rw [hold _ (lt_of_some hb)]; exact hb
  · rcases List.mem_cons.1 hf with rfl | h
    · exact .inl (Nat.le_refl _)
    · exact .inr ⟨⟨f, h, rfl⟩, fun j hj => ⟨f, h, hj⟩⟩

theorem X.alloc {e : TypeId} {z : Value} (hz : ∀ w, (zeroValue e).run P w = .ok z w) :
    OpX P H0 n (.alloc e) ty env L fun v L' => ∃ b, v = .pointer (some ⟨b, 0, none⟩) ∧ L' = ⟨b, 0, z.cells.toList⟩ :: L := by
  intro a w hf hw
  have := To.new hw z.cells.toList e
  simp only [exop, execOp]
  simp only [Instr.alloc, Sem.run_bind, hz, Result.andThen_ok, newVar, newRow, run_newObj, Sem.run_pure, Out]
  exact ⟨_, ⟨_, rfl, rfl⟩, by simpa using this⟩

theorem X.box {e : TypeId} {x : Operand} {v : Value} (hx : ev? env x = some v) :
    OpX P H0 n (.box e x) ty env L fun u L' => ∃ b, u = .pointer (some ⟨b, 0, none⟩) ∧ L' = ⟨b, 0, v.cells.toList⟩ :: L := by
  intro a w hf hw
  have := To.new hw v.cells.toList e
  simp only [exop, execOp, hf.eval hx]
  simp only [Instr.box, Sem.run_bind, Result.andThen_ok, newVar, newRow, run_newObj, Sem.run_pure, Out]
  exact ⟨_, ⟨_, rfl, rfl⟩, by simpa using this⟩

/-! ### Calls -/

def evs? (env : Env) : List Operand → Option (List Value)
  | [] => some []
  | x :: r => match ev? env x, evs? env r with
    | some v, some l => some (v :: l)
    | _, _ => none

theorem evs_eval {a : Act} (hf : Fits n env a) : ∀ {xs : List Operand} {vs : List Value}, evs? env xs = some vs → xs.map a.eval = vs
  | [], vs, h => by simpa [evs?] using h
  | x :: r, vs, h => by
    simp only [evs?] at h
    split at h
    · rename_i v l hv hl
      simp only [Option.some.injEq] at h
      subst h
      rw [List.map_cons, hf.eval hv, evs_eval hf hl]
    · cases h

/-- A call of function f by its contract. -/
theorem X.call {f : FuncId} {xs : List Operand} {ats : Array TypeId} {vs : List Value} {R : Value → Frags → Prop} (hx : evs? env xs = some vs)
    (hc : ∀ args w, (callFunc f args).run P w = .ok (.enter f args) w) (h : Fn P H0 f vs.toArray L R) :
    OpX P H0 n (.call { callee := .value (.func f), args := xs.toArray, argTypes := ats }) ty env L R := by
  intro a w hf hw
  have he : Array.map a.eval xs.toArray = vs.toArray := by simp [evs_eval hf hx]
  have hrun : (exop a.eval (.call { callee := .value (.func f), args := xs.toArray, argTypes := ats }) ty).run P w = .ok (.enter f vs.toArray) w := by
    simp only [exop, execOp, resolve, he, Act.eval, Deferred.ofValue]
    simp [invoke, hc]
  rw [hrun]
  exact h w hw

/-- A call through a slot that holds a function. -/
theorem X.callv {f : FuncId} {c : Operand} {xs : List Operand} {ats : Array TypeId} {vs : List Value} {R : Value → Frags → Prop} (hv : ev? env c = some (.func (.func f) #[] #[])) (hx : evs? env xs = some vs)
    (hc : ∀ args w, (callFunc f args).run P w = .ok (.enter f args) w) (h : Fn P H0 f vs.toArray L R) :
    OpX P H0 n (.call { callee := .value c, args := xs.toArray, argTypes := ats }) ty env L R := by
  intro a w hf hw
  have he : Array.map a.eval xs.toArray = vs.toArray := by simp [evs_eval hf hx]
  have hrun : (exop a.eval (.call { callee := .value c, args := xs.toArray, argTypes := ats }) ty).run P w = .ok (.enter f vs.toArray) w := by
    simp only [exop, execOp, resolve, he, hf.eval hv, Deferred.ofValue]
    simp [invoke, hc]
  rw [hrun]
  exact h w hw

/-- A method called on an interface value. -/
theorem X.invoke {f : FuncId} {c : Operand} {m : String} {xs : List Operand} {ats : Array TypeId} {vs : List Value} {t : TypeId} {u r : Value} {R : Value → Frags → Prop} (hv : ev? env c = some (.iface t u))
    (hx : evs? env xs = some vs) (hm : ∀ w, (method (P.types.size + Made.depth) t u m).run P w = .ok (f, r) w)
    (hc : ∀ args w, (callFunc f args).run P w = .ok (.enter f args) w) (h : Fn P H0 f (r :: vs).toArray L R) :
    OpX P H0 n (.call { callee := .invoke c m, args := xs.toArray, argTypes := ats }) ty env L R := by
  intro a w hf hw
  have he : Array.map a.eval xs.toArray = vs.toArray := by simp [evs_eval hf hx]
  have hargs : (#[Value.iface t u] ++ vs.toArray).extract 1 (#[Value.iface t u] ++ vs.toArray).size = vs.toArray := by simp
  have h0 : (#[Value.iface t u] ++ vs.toArray)[0]? = some (.iface t u) := by simp
  have hr : #[r] ++ vs.toArray = (r :: vs).toArray := by simp
  have hinv : (Go.invoke (.fn (.method m) #[]) (#[Value.iface t u] ++ vs.toArray)).run P w = .ok (.enter f (r :: vs).toArray) w := by
    simp only [Go.invoke, h0, hargs, callMethod]
    simp [hm, hc]
  have hrun : (exop a.eval (.call { callee := .invoke c m, args := xs.toArray, argTypes := ats }) ty).run P w = .ok (.enter f (r :: vs).toArray) w := by
    simp only [exop, execOp, resolve, he, hf.eval hv]
    simp only [Sem.run_bind, Sem.run_pure, Result.andThen_ok]
    exact hinv
  rw [hrun]
  exact h w hw
end
end Go.Eng
