/-
  Texts of this proof, merged: HTab, WRev, WHf, WFl1, Sym, WFl2, Win, Cpy.
-/
import Derived.Test.YtbjbmpcgiokdaaaDoorMr2
set_option linter.unusedVariables false
set_option linter.unusedSimpArgs false
namespace Go.Eng
set_option maxRecDepth 100000

theorem revB_split : ∀ m n S, revB (m + n) S = revB m S * 2 ^ n + revB n (S / 2 ^ m)
  | 0, n, S => by simp [revB]
  | m + 1, n, S => by
    rw [show m + 1 + n = (m + n) + 1 by omega, revB, revB_split m n (S / 2), revB, Nat.pow_add, Nat.add_mul, Nat.div_div_eq_div_mul, Nat.pow_succ, Nat.mul_comm (2 ^ m) 2, Nat.mul_assoc, Nat.add_assoc]

theorem revB16 {x : Nat} : revB 16 x = revB 8 (x % 256) * 256 + revB 8 (x / 256) := by
  have h := revB_split 8 8 x
  have h2 := revB_mod 8 x
  rw [show (2 : Nat) ^ 8 = 256 from rfl] at h h2
  rw [h, h2]

theorem foldl_max_le (l : List Nat) (m : Nat) : m ≤ l.foldl max m ∧ ∀ x ∈ l, x ≤ l.foldl max m := by
  induction l generalizing m with
  | nil => exact ⟨Nat.le_refl _, fun x h => by cases h⟩
  | cons a r ih =>
    obtain ⟨h1, h2⟩ := ih (max m a)
    rw [List.foldl_cons]
    refine ⟨by omega, fun x hx => ?_⟩
    rcases List.mem_cons.1 hx with rfl | hx
    · omega
    · exact h2 x hx

theorem maxL_snoc (l : List Nat) (n : Nat) : maxL (l ++ [n]) = max (maxL l) n := by unfold maxL; rw [List.foldl_append]; rfl
theorem minL_snoc (l : List Nat) (n : Nat) : minL (l ++ [n]) = if n = 0 then minL l else if minL l = 0 ∨ n < minL l then n else minL l := by unfold minL; rw [List.foldl_append]; rfl
theorem cntL_snoc (l : List Nat) (n k : Nat) : cntL (l ++ [n]) k = cntL l k + (if k ≠ 0 ∧ n = k then 1 else 0) := by
  unfold cntL
  by_cases hk : k = 0
  · simp [hk]
  · rw [if_neg hk, if_neg hk, List.count_append]
    by_cases hn : n = k
    · subst hn; simp [hk]
    · rw [if_neg (fun h => hn h.2), List.count_cons_of_ne hn]; simp

theorem le_maxL {l : List Nat} {x : Nat} (h : x ∈ l) : x ≤ maxL l := (foldl_max_le l 0).2 x h
theorem lenOf_le_max (l : List Nat) (i : Nat) : lenOf l i ≤ maxL l := by
  by_cases h : i < l.length
  · rw [lenOf_get h]; exact le_maxL (List.getElem_mem h)
  · rw [lenOf, List.getD_eq_getElem?_getD, List.getElem?_eq_none (by omega)]; exact Nat.zero_le _

theorem minL_spec (l : List Nat) : (minL l = 0 → ∀ x ∈ l, x = 0) ∧ (∀ x ∈ l, x ≠ 0 → minL l ≤ x) ∧ (minL l ≠ 0 → minL l ∈ l) := by
  have key : ∀ (r : List Nat), (minL r = 0 → ∀ x ∈ r, x = 0) ∧ (∀ x ∈ r, x ≠ 0 → minL r ≤ x) ∧ (minL r ≠ 0 → minL r ∈ r) := by
    intro r
    have : ∀ (s : List Nat) (a : List Nat), ((minL a = 0 → ∀ x ∈ a, x = 0) ∧ (∀ x ∈ a, x ≠ 0 → minL a ≤ x) ∧ (minL a ≠ 0 → minL a ∈ a)) → ((minL (a ++ s) = 0 → ∀ x ∈ a ++ s, x = 0) ∧ (∀ x ∈ a ++ s, x ≠ 0 → minL (a ++ s) ≤ x) ∧ (minL (a ++ s) ≠ 0 → minL (a ++ s) ∈ a ++ s)) := by
      intro s
      induction s with
      | nil => intro a h; simpa using h
      | cons n s ih =>
        intro a h
        have e : a ++ n :: s = (a ++ [n]) ++ s := by simp
        rw [e]
        refine ih (a ++ [n]) ?_
        obtain ⟨h1, h2, h3⟩ := h
        rw [minL_snoc]
        refine ⟨fun h0 x hx => ?_, fun x hx hx0 => ?_, fun h0 => ?_⟩
        · split at h0
          · rcases List.mem_append.1 hx with hx | hx
            · exact h1 h0 x hx
            · rw [List.mem_singleton.1 hx]; assumption
          · split at h0 <;> omega
        · rcases List.mem_append.1 hx with hx | hx
          · have := h2 x hx hx0
            split
            · exact this
            · split
              · rename_i h4 h5
                rcases h5 with h5 | h5
                · exact absurd (h1 h5 x hx) hx0
                · omega
              · exact this
          · rw [List.mem_singleton.1 hx] at hx0 ⊢
            rw [if_neg hx0]
            split <;> omega
        · split
          · rename_i hn
            rw [if_pos hn] at h0
            exact List.mem_append_left _ (h3 h0)
          · rename_i hn
            rw [if_neg hn] at h0
            split
            · simp
            · rename_i h5
              rw [if_neg h5] at h0
              exact List.mem_append_left _ (h3 h0)
    have := this r [] ⟨(fun _ x h => by cases h), (fun x h => by cases h), fun h => absurd rfl h⟩
    simpa using this
  exact key l

theorem max_zero {l : List Nat} (h : maxL l = 0) (i : Nat) : lenOf l i = 0 := by have := lenOf_le_max l i; omega

theorem min_pos {l : List Nat} (h : maxL l ≠ 0) : 0 < minL l ∧ minL l ≤ maxL l := by
  have h1 := minL_spec l
  have h2 : minL l ≠ 0 := by
    intro h0
    have : ∀ (r : List Nat) (m : Nat), m = 0 → (∀ x ∈ r, x = 0) → r.foldl max m = 0 := by
      intro r
      induction r with
      | nil => intro m hm _; exact hm
      | cons a r ih =>
        intro m hm hr
        rw [List.foldl_cons]
        refine ih _ ?_ fun x hx => hr x (List.mem_cons_of_mem _ hx)
        have := hr a (List.mem_cons_self ..)
        omega
    exact h (this l 0 rfl (h1.1 h0))
  exact ⟨by omega, le_maxL (h1.2.2 h2)⟩

theorem cnt_below {l : List Nat} {k : Nat} (h : k < minL l) : cntL l k = 0 := by
  unfold cntL
  split
  · rfl
  · rename_i hk
    rw [List.count_eq_zero]
    intro hm
    have := (minL_spec l).2.1 k hm hk
    omega
theorem first_min (l : List Nat) : ∀ k, k ≤ minL l → firstC l k = 0
  | 0, _ => rfl
  | k + 1, h => by rw [firstC, first_min l k (by omega), cnt_below (by omega)]

theorem first_bound (l : List Nat) : ∀ k, firstC l k + cntL l k + l.length ≤ l.length * 2 ^ (k + 1)
  | 0 => by simp [firstC, cntL]; omega
  | k + 1 => by
    have h := first_bound l k
    have h2 : cntL l (k + 1) ≤ l.length := by unfold cntL; split; omega; exact List.count_le_length
    rw [firstC, Nat.pow_succ, ← Nat.mul_assoc]; omega

/-! ### The table -/

def lookT (f : Nat → Nat) (g : Nat → Nat → Nat) (nk b : Nat) : Nat := if 9 < f (b % 512) % 16 then g (f (b % 512) / 16) (b / 512 % nk) else f (b % 512)

/-- The chunks before the symbols are put in: those that lead on. -/
def link0 (mx lk o : Nat) : Nat := if 9 < mx ∧ lk ≤ revB 9 o then (revB 9 o - lk) * 16 + 10 else 0

/-- What stands in the table when the first k symbols have been put in. -/
structure TabP (lens : List Nat) (mx lk nk k : Nat) (f : Nat → Nat) (g : Nat → Nat → Nat) : Prop where
  short : ∀ o s, o < 512 → s < k → 0 < lenOf lens s → lenOf lens s ≤ 9 → o % 2 ^ lenOf lens s = revB (lenOf lens s) (codeOf lens s) → f o = s * 16 + lenOf lens s
  rest : ∀ o, o < 512 → (∀ s, s < k → ¬ (0 < lenOf lens s ∧ lenOf lens s ≤ 9 ∧ o % 2 ^ lenOf lens s = revB (lenOf lens s) (codeOf lens s))) → f o = link0 mx lk o
  long : ∀ s q, q < nk → s < k → 9 < lenOf lens s → q % 2 ^ (lenOf lens s - 9) = revB (lenOf lens s) (codeOf lens s) / 512 → g (codeOf lens s / 2 ^ (lenOf lens s - 9) - lk) q = s * 16 + lenOf lens s

section
variable {lens : List Nat} {mx lk nk k : Nat} {f : Nat → Nat} {g : Nat → Nat → Nat}

theorem TabP.zero : TabP lens mx lk nk 0 (link0 mx lk) g := ⟨fun o s _ h => by omega, fun o _ _ => rfl, fun s q _ h => by omega⟩

theorem TabP.skip (h : TabP lens mx lk nk k f g) (h0 : lenOf lens k = 0) : TabP lens mx lk nk (k + 1) f g := by
  refine ⟨fun o s ho hs h1 h2 h3 => ?_, fun o ho hn => ?_, fun s q hq hs h1 h2 => ?_⟩
  · rcases Nat.lt_or_ge s k with h4 | h4
    · exact h.short o s ho h4 h1 h2 h3
    · have : s = k := by omega
      subst this; omega
  · exact h.rest o ho fun s hs => hn s (by omega)
  · rcases Nat.lt_or_ge s k with h4 | h4
    · exact h.long s q hq h4 h1 h2
    · have : s = k := by omega
      subst this; omega

theorem mat_of_mod (hf : FitL lens mx) {s o : Nat} (h1 : 0 < lenOf lens s) (h3 : o % 2 ^ lenOf lens s = revB (lenOf lens s) (codeOf lens s)) : Mat lens s o :=
  ⟨h1, (revB_eq_iff (codeOf_bound hf h1)).2 h3⟩
theorem mod_of_mat (hf : FitL lens mx) {s o : Nat} (h : Mat lens s o) : o % 2 ^ lenOf lens s = revB (lenOf lens s) (codeOf lens s) := (revB_eq_iff (codeOf_bound hf h.1)).1 h.2

theorem TabP.addShort (hf : FitL lens mx) (h : TabP lens mx lk nk k f g) (h0 : 0 < lenOf lens k) (h9 : lenOf lens k ≤ 9) {f' : Nat → Nat}
    (hy : ∀ o, o < 512 → o % 2 ^ lenOf lens k = revB (lenOf lens k) (codeOf lens k) → f' o = k * 16 + lenOf lens k) (hn : ∀ o, o < 512 → o % 2 ^ lenOf lens k ≠ revB (lenOf lens k) (codeOf lens k) → f' o = f o) : TabP lens mx lk nk (k + 1) f' g := by
  refine ⟨fun o s ho hs h1 h2 h3 => ?_, fun o ho hno => ?_, fun s q hq hs h1 h2 => ?_⟩
  · rcases Nat.lt_or_ge s k with h4 | h4
    · have hne : o % 2 ^ lenOf lens k ≠ revB (lenOf lens k) (codeOf lens k) := fun e => by
        have := mat_unique (mat_of_mod hf h1 h3) (mat_of_mod hf h0 e)
        omega
      rw [hn o ho hne]; exact h.short o s ho h4 h1 h2 h3
    · have : s = k := by omega
      subst this; exact hy o ho h3
  · rw [hn o ho fun e => hno k (by omega) ⟨h0, h9, e⟩]
    exact h.rest o ho fun s hs => hno s (by omega)
  · rcases Nat.lt_or_ge s k with h4 | h4
    · exact h.long s q hq h4 h1 h2
    · have : s = k := by omega
      subst this; omega

theorem rev_parts {n c : Nat} (hn : 9 ≤ n) (hc : c < 2 ^ n) : revB n c % 512 = revB 9 (c / 2 ^ (n - 9)) := by
  have h1 := revB_prefix hn (revB n c)
  rw [revB_rev n c hc] at h1
  have h2 := revB_mod 9 (revB n c)
  have h3 : revB 9 (revB 9 (revB n c % 2 ^ 9)) = revB n c % 2 ^ 9 := revB_rev 9 _ (Nat.mod_lt _ (by decide))
  rw [h2, ← h1] at h3
  rw [show (512 : Nat) = 2 ^ 9 from rfl, ← h3]

/-- The place that leads on, with the bits behind. -/
theorem mat_long (hf : FitL lens mx) {s q : Nat} (h1 : 9 < lenOf lens s) (h2 : q % 2 ^ (lenOf lens s - 9) = revB (lenOf lens s) (codeOf lens s) / 512) : Mat lens s (revB 9 (codeOf lens s / 2 ^ (lenOf lens s - 9)) + 512 * q) := by
  have hc := codeOf_bound hf (i := s) (by omega)
  refine mat_of_mod hf (by omega) ?_
  have e := rev_parts (by omega : 9 ≤ lenOf lens s) hc
  have hb := revB_lt 9 (codeOf lens s / 2 ^ (lenOf lens s - 9))
  have h5 : (2 : Nat) ^ 9 = 512 := rfl
  rw [show lenOf lens s = 9 + (lenOf lens s - 9) by omega, mod_add_pow, h5, show 9 + (lenOf lens s - 9) = lenOf lens s by omega]
  have e1 : (revB 9 (codeOf lens s / 2 ^ (lenOf lens s - 9)) + 512 * q) % 512 = revB 9 (codeOf lens s / 2 ^ (lenOf lens s - 9)) := by omega
  have e2 : (revB 9 (codeOf lens s / 2 ^ (lenOf lens s - 9)) + 512 * q) / 512 = q := by omega
  rw [e1, e2, h2, ← e]
  omega

theorem hi_ge (hk : lk = firstC lens 9 + cntL lens 9) {s : Nat} (h1 : 9 < lenOf lens s) : lk ≤ codeOf lens s / 2 ^ (lenOf lens s - 9) := by
  rw [Nat.le_div_iff_mul_le (Nat.pow_pos (by omega)), hk]
  have := firstC_lt lens h1
  rw [codeOf]; omega

theorem TabP.addLong (hf : FitL lens mx) (hk : lk = firstC lens 9 + cntL lens 9) (h : TabP lens mx lk nk k f g) (h9 : 9 < lenOf lens k) {g' : Nat → Nat → Nat}
    (hy : ∀ q, q < nk → q % 2 ^ (lenOf lens k - 9) = revB (lenOf lens k) (codeOf lens k) / 512 → g' (codeOf lens k / 2 ^ (lenOf lens k - 9) - lk) q = k * 16 + lenOf lens k)
    (hn : ∀ a q, a ≠ codeOf lens k / 2 ^ (lenOf lens k - 9) - lk ∨ q % 2 ^ (lenOf lens k - 9) ≠ revB (lenOf lens k) (codeOf lens k) / 512 → g' a q = g a q) : TabP lens mx lk nk (k + 1) f g' := by
  refine ⟨fun o s ho hs h1 h2 h3 => ?_, fun o ho hno => ?_, fun s q hq hs h1 h2 => ?_⟩
  · rcases Nat.lt_or_ge s k with h4 | h4
    · exact h.short o s ho h4 h1 h2 h3
    · have : s = k := by omega
      subst this; omega
  · exact h.rest o ho fun s hs => hno s (by omega)
  · rcases Nat.lt_or_ge s k with h4 | h4
    · rw [hn]
      · exact h.long s q hq h4 h1 h2
      · by_cases ha : codeOf lens s / 2 ^ (lenOf lens s - 9) - lk = codeOf lens k / 2 ^ (lenOf lens k - 9) - lk
        · right
          intro hq2
          have g1 := hi_ge hk h1
          have g2 := hi_ge hk h9
          have e : codeOf lens s / 2 ^ (lenOf lens s - 9) = codeOf lens k / 2 ^ (lenOf lens k - 9) := by omega
          have m1 := mat_long hf h1 h2
          have m2 := mat_long hf h9 hq2
          rw [e] at m1
          have := mat_unique m1 m2
          omega
        · exact .inl ha
    · have : s = k := by omega
      subst this; exact hy q hq h2

/-- The table tells the symbol that a number begins with. -/
structure TabOK (lens : List Nat) (f : Nat → Nat) (g : Nat → Nat → Nat) (nt nk : Nat) : Prop where
  yes : ∀ s b, Mat lens s b → lookT f g nk b = s * 16 + lenOf lens s
  no : ∀ b, (∀ s, ¬ Mat lens s b) → lookT f g nk b % 16 = 0
  lt : ∀ o, o < 512 → 9 < f o % 16 → f o / 16 < nt

theorem tab_ok (hf : FitL lens mx) (hm : mx = maxL lens) (hk : lk = firstC lens 9 + cntL lens 9) (hfull : firstC lens mx + cntL lens mx = 2 ^ mx ∨ mx = 1) (h16 : mx ≤ 15) (hnk : nk = 2 ^ (mx - 9)) (h : TabP lens mx lk nk lens.length f g) : TabOK lens f g (512 - lk) nk := by
  subst hnk
  have hlt : ∀ {s b}, Mat lens s b → s < lens.length := fun h => lenOf_lt h.1
  have hlm : ∀ s, lenOf lens s ≤ mx := fun s => by rw [hm]; exact lenOf_le_max lens s
  have m512 : ∀ {n b : Nat}, n ≤ 9 → b % 512 % 2 ^ n = b % 2 ^ n := fun {n b} hn => Nat.mod_mod_of_dvd _ (by
    rw [show (512 : Nat) = 2 ^ 9 from rfl]; exact Nat.pow_dvd_pow 2 hn)
  refine ⟨fun s b hb => ?_, fun b hno => ?_, fun o ho h9 => ?_⟩
  · rcases Nat.lt_or_ge 9 (lenOf lens s) with hl | hl
    · have e1 : f (b % 512) = link0 mx lk (b % 512) := by
        refine h.rest _ (Nat.mod_lt _ (by decide)) fun t ht hh => ?_
        obtain ⟨h1, h2, h3⟩ := hh
        rw [m512 h2] at h3
        have := mat_unique (mat_of_mod hf h1 h3) hb
        subst this; omega
      have e2 : revB 9 (b % 512) = codeOf lens s / 2 ^ (lenOf lens s - 9) := by
        rw [show (512 : Nat) = 2 ^ 9 from rfl, revB_mod, ← revB_prefix (by omega : 9 ≤ lenOf lens s) b, hb.2]
      have e3 := hi_ge hk hl
      have e4 : link0 mx lk (b % 512) = (codeOf lens s / 2 ^ (lenOf lens s - 9) - lk) * 16 + 10 := by
        rw [link0, e2, if_pos ⟨by have := hlm s; omega, e3⟩]
      unfold lookT
      rw [e1, e4, if_pos (by omega), show ((codeOf lens s / 2 ^ (lenOf lens s - 9) - lk) * 16 + 10) / 16 = codeOf lens s / 2 ^ (lenOf lens s - 9) - lk by omega]
      refine h.long s _ (Nat.mod_lt _ (Nat.pow_pos (by omega))) (hlt hb) hl ?_
      have h5 := mod_of_mat hf hb
      have h6 := hlm s
      rw [Nat.mod_mod_of_dvd _ (Nat.pow_dvd_pow 2 (by omega)), ← h5]
      rw [show (2 : Nat) ^ lenOf lens s = 512 * 2 ^ (lenOf lens s - 9) by rw [show (512 : Nat) = 2 ^ 9 from rfl, ← Nat.pow_add]; congr 1; omega]
      exact (Nat.mod_mul_right_div_self b 512 _).symm
    · have e1 := h.short (b % 512) s (Nat.mod_lt _ (by decide)) (hlt hb) hb.1 hl (by rw [m512 hl]; exact mod_of_mat hf hb)
      unfold lookT
      rw [e1, if_neg (by omega)]
  · have e1 : f (b % 512) = link0 mx lk (b % 512) := by
      refine h.rest _ (Nat.mod_lt _ (by decide)) fun t ht hh => ?_
      obtain ⟨h1, h2, h3⟩ := hh
      rw [m512 h2] at h3
      exact hno t (mat_of_mod hf h1 h3)
    rcases hfull with h1 | h1
    · obtain ⟨i, hi, _⟩ := mat_some h1 b
      exact absurd hi (hno i)
    · have e2 : link0 mx lk (b % 512) = 0 := by rw [link0, if_neg (by omega)]
      unfold lookT
      rw [e1, e2]; simp
  · by_cases hs : ∃ s, s < lens.length ∧ 0 < lenOf lens s ∧ lenOf lens s ≤ 9 ∧ o % 2 ^ lenOf lens s = revB (lenOf lens s) (codeOf lens s)
    · obtain ⟨s, h1, h2, h3, h4⟩ := hs
      rw [h.short o s ho h1 h2 h3 h4] at h9
      omega
    · have e1 := h.rest o ho fun s hs' hh => hs ⟨s, hs', hh⟩
      have hr := revB_lt 9 o
      rw [show (2 : Nat) ^ 9 = 512 from rfl] at hr
      rw [e1] at h9 ⊢
      unfold link0 at h9 ⊢
      split at h9
      · rename_i hc
        rw [if_pos hc]; omega
      · simp at h9

theorem tab_empty (hm : maxL lens = 0) : TabOK lens (fun _ => 0) (fun _ _ => 0) 0 1 := by
  refine ⟨fun s b hb => ?_, fun b _ => by simp [lookT], fun o _ h => by simp at h⟩
  have := max_zero hm s
  have := hb.1
  omega
end

section
variable {lens : List Nat} {mx lk nk k : Nat} {f : Nat → Nat} {g : Nat → Nat → Nat}
theorem tab_small (hf : FitL lens mx) (hm : mx = maxL lens) (hfull : firstC lens mx + cntL lens mx = 2 ^ mx ∨ mx = 1) (h9 : mx ≤ 9) (h : TabP lens mx lk nk lens.length f g) : TabOK lens f g 0 1 := by
  have hlm : ∀ s, lenOf lens s ≤ mx := fun s => by rw [hm]; exact lenOf_le_max lens s
  have h2 : TabP lens mx (firstC lens 9 + cntL lens 9) 1 lens.length f g := by
    refine ⟨h.short, fun o ho hn => ?_, fun s q _ _ hl => ?_⟩
    · rw [h.rest o ho hn, link0, link0, if_neg (by omega), if_neg (by omega)]
    · have := hlm s; omega
  have h3 := tab_ok hf hm rfl hfull (by omega) (by rw [show mx - 9 = 0 by omega]) h2
  refine ⟨h3.yes, h3.no, fun o ho hlt => ?_⟩
  exfalso
  by_cases hs : ∃ s, s < lens.length ∧ 0 < lenOf lens s ∧ lenOf lens s ≤ 9 ∧ o % 2 ^ lenOf lens s = revB (lenOf lens s) (codeOf lens s)
  · obtain ⟨s, h1, h4, h5, h6⟩ := hs
    rw [h.short o s ho h1 h4 h5 h6] at hlt
    omega
  · rw [h.rest o ho fun s hs' hh => hs ⟨s, hs', hh⟩, link0, if_neg (by omega)] at hlt
    simp at hlt

theorem TabP.at_link (hf : FitL lens mx) (hk : lk = firstC lens 9 + cntL lens 9) (h : TabP lens mx lk nk k f g) (h9 : 9 < lenOf lens k) :
    f (revB 9 (codeOf lens k / 2 ^ (lenOf lens k - 9))) = (codeOf lens k / 2 ^ (lenOf lens k - 9) - lk) * 16 + 10 ∧ codeOf lens k / 2 ^ (lenOf lens k - 9) < 512 ∧ revB (lenOf lens k) (codeOf lens k) / 512 < 2 ^ (lenOf lens k - 9) := by
  have hc := codeOf_bound hf (i := k) (by omega)
  have hp : (2 : Nat) ^ lenOf lens k = 512 * 2 ^ (lenOf lens k - 9) := by rw [show (512 : Nat) = 2 ^ 9 from rfl, ← Nat.pow_add]; congr 1; omega
  have hhi : codeOf lens k / 2 ^ (lenOf lens k - 9) < 512 := by rw [Nat.div_lt_iff_lt_mul (Nat.pow_pos (by omega)), ← hp]; exact hc
  have hq : revB (lenOf lens k) (codeOf lens k) / 512 < 2 ^ (lenOf lens k - 9) := by
    rw [Nat.div_lt_iff_lt_mul (by omega), Nat.mul_comm, ← hp]; exact revB_lt _ _
  refine ⟨?_, hhi, hq⟩
  have hr := revB_lt 9 (codeOf lens k / 2 ^ (lenOf lens k - 9))
  rw [show (2 : Nat) ^ 9 = 512 from rfl] at hr
  have hm := mat_long hf h9 (q := revB (lenOf lens k) (codeOf lens k) / 512) (Nat.mod_eq_of_lt hq)
  rw [h.rest _ hr fun s hs hh => ?_]
  · have := hf.top k
    rw [link0, revB_rev 9 _ (by rw [show (2 : Nat) ^ 9 = 512 from rfl]; exact hhi), if_pos ⟨by omega, hi_ge hk h9⟩]
  · obtain ⟨h1, h2, h3⟩ := hh
    have m1 := mat_of_mod hf h1 h3
    have m2 : Mat lens s (revB 9 (codeOf lens k / 2 ^ (lenOf lens k - 9)) + 512 * (revB (lenOf lens k) (codeOf lens k) / 512)) := by
      refine ⟨h1, ?_⟩
      rw [← m1.2]
      refine revB_agree (n := 9) ?_ h2
      rw [show (2 : Nat) ^ 9 = 512 from rfl]; omega
    have := mat_unique m2 hm
    omega
end

theorem maxL_le {l : List Nat} {m : Nat} (h : ∀ x ∈ l, x ≤ m) : maxL l ≤ m := by
  have key : ∀ (r : List Nat) (a : Nat), a ≤ m → (∀ x ∈ r, x ≤ m) → r.foldl max a ≤ m := by
    intro r
    induction r with
    | nil => intro a ha _; exact ha
    | cons x r ih =>
      intro a ha hr
      rw [List.foldl_cons]
      have := hr x (List.mem_cons_self ..)
      exact ih _ (by omega) fun y hy => hr y (List.mem_cons_of_mem _ hy)
  exact key l 0 (Nat.zero_le _) h

theorem or16 (x y : Nat) (h : y < 16) : x * 16 ||| y = x * 16 + y := by
  have := Nat.shiftLeft_add_eq_or_of_lt (b := y) (i := 4) (by omega) x
  rw [Nat.shiftLeft_eq] at this
  exact this.symm

/-- The codes that init takes have room. -/
theorem fit_of_ok {lens : List Nat} (h : okLens lens) : FitL lens (maxL lens) := by
  refine ⟨lenOf_le_max lens, ?_⟩
  rcases h with h | h | h
  · rw [h]; simp [firstC, cntL]
  · omega
  · rw [h.1]; omega
end Go.Eng
namespace Go.Eng
open Go Go.Proofs
set_option maxRecDepth 100000

section
variable {P : Program} {K : Known} {n : Nat} {env : Env} {L : Frags}
/-- A guarded operation whose guard was not asked for itself. -/
theorem E.guardUndef {ops : Array Oper} {dst : Option Nat} {op : Op} {ty : TypeId} {pos : String} {af : Array Edge} {j : Nat} {b : Bool} {rest : List Oper} {N : Post}
    (t : Nat) (ht : (ops[j]?).bind (·.dst) = some t) (hv : get? env t = some undef) (hd : dstOk dst n = true) (k : wpE P K n ops rest (ext dst undef env) L N) :
    wpE P K n ops (⟨dst, op, ty, pos, af, some (j, b)⟩ :: rest) env L N := by
  intro a w hf hw Q hq
  have hy : yielded ops a.tmps j = none := by
    have := hf.val t _ hv
    unfold yielded
    rw [ht]
    simp only [Option.bind_some]
    rw [Array.getD_eq_getD_getElem?] at this
    cases hx : a.tmps[t]? with
    | none => rfl
    | some x => rw [hx] at this; simp only [Option.getD_some] at this; subst this; rfl
  have hne : ((none : Option Bool) == some b) = false := by cases b <;> rfl
  simp only [wpList, Region.wanted, hy, hne, Bool.false_eq_true, if_false]
  exact k _ w (hf.ext hd undef) hw Q hq
end

def rev8tab : ByteArray := ⟨#[0, 128, 64, 192, 32, 160, 96, 224, 16, 144, 80, 208, 48, 176, 112, 240, 8, 136, 72, 200, 40, 168, 104, 232, 24, 152, 88, 216, 56, 184, 120, 248, 4, 132, 68, 196, 36, 164, 100, 228, 20, 148, 84, 212, 52, 180, 116, 244, 12, 140, 76, 204, 44, 172, 108, 236, 28, 156, 92, 220, 60, 188, 124, 252, 2, 130, 66, 194, 34, 162, 98, 226, 18, 146, 82, 210, 50, 178, 114, 242, 10, 138, 74, 202, 42, 170, 106, 234, 26, 154, 90, 218, 58, 186, 122, 250, 6, 134, 70, 198, 38, 166, 102, 230, 22, 150, 86, 214, 54, 182, 118, 246, 14, 142, 78, 206, 46, 174, 110, 238, 30, 158, 94, 222, 62, 190, 126, 254, 1, 129, 65, 193, 33, 161, 97, 225, 17, 145, 81, 209, 49, 177, 113, 241, 9, 137, 73, 201, 41, 169, 105, 233, 25, 153, 89, 217, 57, 185, 121, 249, 5, 133, 69, 197, 37, 165, 101, 229, 21, 149, 85, 213, 53, 181, 117, 245, 13, 141, 77, 205, 45, 173, 109, 237, 29, 157, 93, 221, 61, 189, 125, 253, 3, 131, 67, 195, 35, 163, 99, 227, 19, 147, 83, 211, 51, 179, 115, 243, 11, 139, 75, 203, 43, 171, 107, 235, 27, 155, 91, 219, 59, 187, 123, 251, 7, 135, 71, 199, 39, 167, 103, 231, 23, 151, 87, 215, 55, 183, 119, 247, 15, 143, 79, 207, 47, 175, 111, 239, 31, 159, 95, 223, 63, 191, 127, 255]⟩
theorem rev8_all : ∀ i : Fin 256, rev8tab[i.val]? = some (UInt8.ofNat (revB 8 i.val)) := by decide +kernel
theorem rev8_get {i : Nat} (h : i < 256) : rev8tab[i]? = some (UInt8.ofNat (revB 8 i)) := rev8_all ⟨i, h⟩
theorem rev8_val (i : Nat) : (UInt8.ofNat (revB 8 i)).toNat = revB 8 i := by
  have := revB_lt 8 i
  rw [UInt8.toNat_ofNat']; exact Nat.mod_eq_of_lt this
theorem rev16_or (x : Nat) (hx : x < 65536) : revB 8 (x >>> 8) ||| (revB 8 (x &&& 255) <<< 8) % 65536 = revB 16 x := by
  have h1 := revB_lt 8 (x >>> 8)
  have h2 := revB_lt 8 (x &&& 255)
  have h3 : (revB 8 (x &&& 255) <<< 8) % 65536 = revB 8 (x &&& 255) <<< 8 := by rw [Nat.shiftLeft_eq]; omega
  rw [h3, Nat.or_comm, ← Nat.shiftLeft_add_eq_or_of_lt h1, Nat.shiftLeft_eq, revB16, Nat.shiftRight_eq_div_pow, show x &&& 255 = x % 256 from Nat.and_two_pow_sub_one_eq_mod x 8]

/-- n numbers of a kind. -/
def cellsU (n : Nat) (f : Nat → Nat) : List Value := (List.range n).map fun o => Value.int .u32 ((f o : Nat) : Int)
def cellsI (n : Nat) (f : Nat → Nat) : List Value := (List.range n).map fun o => Value.int .i64 ((f o : Nat) : Int)
theorem cellsU_length (n : Nat) (f : Nat → Nat) : (cellsU n f).length = n := by simp [cellsU]
theorem cellsI_length (n : Nat) (f : Nat → Nat) : (cellsI n f).length = n := by simp [cellsI]
theorem cellsU_get {n k : Nat} {f : Nat → Nat} (h : k < n) : (cellsU n f)[k * 1]? = some (.int .u32 ((f k : Nat) : Int)) := by rw [Nat.mul_one, cellsU, List.getElem?_map, List.getElem?_range h]; rfl
theorem cellsI_get {n k : Nat} {f : Nat → Nat} (h : k < n) : (cellsI n f)[k * 1]? = some (.int .i64 ((f k : Nat) : Int)) := by rw [Nat.mul_one, cellsI, List.getElem?_map, List.getElem?_range h]; rfl
theorem map_set {n k : Nat} {F G : Nat → Value} {v : Value} (hk : G k = v) (hn : ∀ o, o < n → o ≠ k → G o = F o) : ((List.range n).map F).set (k * 1) v = (List.range n).map G := by
  rw [Nat.mul_one]
  apply List.ext_getElem?
  intro i
  rw [List.getElem?_set, List.getElem?_map, List.getElem?_map]
  by_cases hi : i < n
  · rw [List.getElem?_range hi]
    by_cases hik : k = i
    · subst hik
      rw [if_pos rfl, if_pos (by simpa using hi), ← hk]; rfl
    · rw [if_neg hik]
      simp only [Option.map_some]
      rw [hn i hi (fun e => hik e.symm)]
  · rw [List.getElem?_eq_none (by simpa using hi)]
    simp only [Option.map_none]
    split
    · rw [if_neg (by rw [List.length_map, List.length_range]; omega)]
    · rfl
theorem cellsU_set {n k v : Nat} {f g : Nat → Nat} (hk : g k = v) (hn : ∀ o, o < n → o ≠ k → g o = f o) : (cellsU n f).set (k * 1) (.int .u32 ((v : Nat) : Int)) = cellsU n g :=
  map_set (by rw [hk]) fun o h1 h2 => by rw [hn o h1 h2]
theorem cellsI_set {n k v : Nat} {f g : Nat → Nat} (hk : g k = v) (hn : ∀ o, o < n → o ≠ k → g o = f o) : (cellsI n f).set (k * 1) (.int .i64 ((v : Nat) : Int)) = cellsI n g :=
  map_set (by rw [hk]) fun o h1 h2 => by rw [hn o h1 h2]
theorem cellsI_congr {n : Nat} {f g : Nat → Nat} (h : ∀ o, o < n → f o = g o) : cellsI n f = cellsI n g := by
  unfold cellsI
  exact List.map_congr_left fun o ho => by rw [h o (List.mem_range.1 ho)]
theorem cellsU_congr {n : Nat} {f g : Nat → Nat} (h : ∀ o, o < n → f o = g o) : cellsU n f = cellsU n g := by
  unfold cellsU
  exact List.map_congr_left fun o ho => by rw [h o (List.mem_range.1 ho)]
def intsV (l : List Nat) : List Value := l.map fun n => Value.int .i64 ((n : Nat) : Int)
theorem intsV_length (l : List Nat) : (intsV l).length = l.length := by simp [intsV]
theorem intsV_get {l : List Nat} {vs : List Value} {i : Nat} (h : i < l.length) : (intsV l ++ vs)[i * 1]? = some (.int .i64 ((l[i] : Nat) : Int)) := by
  rw [Nat.mul_one, List.getElem?_append_left (by rw [intsV_length]; exact h), intsV, List.getElem?_map, List.getElem?_eq_getElem h]; rfl
theorem and15 (x : Nat) : x &&& 15 = x % 16 := Nat.and_two_pow_sub_one_eq_mod x 4
theorem and511 (x : Nat) : x &&& 511 = x % 512 := Nat.and_two_pow_sub_one_eq_mod x 9

theorem reverse8_spec {K : Known} (x : Nat) (hx : x < 256) : Fn Tryd.prog K 84 #[.int .u8 ((x : Nat) : Int)] ([]) (fun r L => r = .int .u8 ((revB 8 x : Nat) : Int) ∧ L = []) := by
 refine Fn.intro (args := [.int .u8 ((x : Nat) : Int)]) (RR := Ret1 2 _) Tryd.func84 rfl rfl Tryd.ntmps84 (res1 Tryd.results84) ?_
 refine C.reenv (env2 := [(0, .int .u8 ((x : Nat) : Int))]) rfl ?_
 refine C.seq ?_
 refine C.region ?_
 refine E.pure (S.assign rfl) rfl ?_
 refine E.keep [0, 2] (env1 := [(0, _), (2, _)]) rfl ?_
 refine C.seq ?_
 refine C.region ?_
 refine E.pure (S.move rfl) rfl ?_
 refine E.pure (S.ixStr rfl rfl (rev8_get hx) Tryd.underlying9) rfl ?_
 refine E.reslot (v := .int .u8 ((revB 8 x : Nat) : Int)) (by rw [rev8_val]) ?_
 refine E.pure (S.assign rfl) rfl ?_
 refine E.keep [2] (env1 := [(2, _)]) rfl ?_
 refine C.ret ?_
 exact ⟨_, rfl, rfl, rfl⟩
theorem reverse16_spec {K : Known} (x : Nat) (hx : x < 65536) : Fn Tryd.prog K 91 #[.int .u16 ((x : Nat) : Int)] ([]) (fun r L => r = .int .u16 ((revB 16 x : Nat) : Int) ∧ L = []) := by
 refine Fn.intro (args := [.int .u16 ((x : Nat) : Int)]) (RR := Ret1 2 _) Tryd.func91 rfl rfl Tryd.ntmps91 (res1 Tryd.results91) ?_
 refine C.reenv (env2 := [(0, .int .u16 ((x : Nat) : Int))]) rfl ?_
 refine C.seq ?_
 refine C.region ?_
 refine E.pure (S.assign rfl) rfl ?_
 refine E.keep [0, 2] (env1 := [(0, _), (2, _)]) rfl ?_
 refine C.seq ?_
 refine C.draw [0, 1, 2, 4, 0, 16, 32, 64, 128, 264, 1023] (.pure 0 496 (.pure 1 497 (.pure 2 499 (.pure 3 503 (.pure 4 15 (.pure 5 31 (.pure 6 63 (.pure 7 127 (.pure 8 255 (.pure 9 511 (.pure 10 1023 .done))))))))))) mixed (by decide +kernel) ?_
 have hr1 := revB_lt 8 (x >>> 8)
 have hr2 := revB_lt 8 (x &&& 255)
 refine D.pure rfl (S.move rfl) rfl ?_
 refine D.pure rfl (S.shr (b := ((8 : Nat) : Int)) rfl rfl (by omega) (N.shr_u16 (by omega) _)) rfl ?_
 refine D.pure rfl (S.ixStr rfl rfl (rev8_get (by rw [Nat.shiftRight_eq_div_pow]; omega)) Tryd.underlying9) rfl ?_
 refine D.reslot (v := .int .u8 ((revB 8 (x >>> 8) : Nat) : Int)) (by rw [rev8_val]) ?_
 refine D.pure rfl (S.conv rfl Tryd.underlying5 Tryd.underlying120 (N.in_u16 (by omega))) rfl ?_
 refine D.pure rfl (S.move rfl) rfl ?_
 refine D.pure rfl (S.and (b := ((255 : Nat) : Int)) rfl rfl (N.and_u16 (by omega) (by omega))) rfl ?_
 refine D.pure rfl (S.ixStr rfl rfl (rev8_get (by have := Nat.and_le_right (n := x) (m := 255); omega)) Tryd.underlying9) rfl ?_
 refine D.reslot (v := .int .u8 ((revB 8 (x &&& 255) : Nat) : Int)) (by rw [rev8_val]) ?_
 refine D.pure rfl (S.conv rfl Tryd.underlying5 Tryd.underlying120 (N.in_u16 (by omega))) rfl ?_
 refine D.pure rfl (S.shl (b := ((8 : Nat) : Int)) rfl rfl (by omega) (N.shl_u16 _ _)) rfl ?_
 refine D.pure rfl (S.or rfl rfl (N.or_u16 (by omega) (Nat.mod_lt _ (by decide)))) rfl ?_
 refine D.reslot (v := .int .u16 ((revB 16 x : Nat) : Int)) (by rw [rev16_or x hx]) ?_
 refine D.pure rfl (S.assign rfl) rfl ?_
 refine D.keep [2] (env1 := [(2, _)]) rfl ?_
 refine C.ret ?_
 exact ⟨_, rfl, rfl, rfl⟩
end Go.Eng
namespace Go.Eng
open Go Go.Proofs
set_option maxRecDepth 100000

set_option maxHeartbeats 1000000
def hufZ : List Value := [.int .i64 0] ++ (cellsU 512 (fun _ => 0) ++ [.slice none 0 0, .int .u32 0])
theorem zcHuf : (Value.agg Tryd.zeroCells144).cells = hufZ.toArray := by kernel_rfl
theorem hufBuild (w : World) : (Instr.build 144 [].toArray).run Tryd.prog w = .ok (.agg hufZ.toArray) w := by
  simp [Instr.build, Tryd.zeroValue144]
  rw [fill_nil]; simp [zcHuf]
theorem cellsU_one (n : Nat) (f : Nat → Nat) : (cellsU n f).all one = true := by
  rw [List.all_eq_true]; intro v hv
  obtain ⟨o, _, rfl⟩ := List.mem_map.1 hv; rfl
theorem hufZ_one : hufZ.all one = true := by
  unfold hufZ
  rw [List.all_append, List.all_append, cellsU_one]; rfl
theorem hufZ_len : hufZ.length = 515 := by unfold hufZ; rw [List.length_append, List.length_append, cellsU_length]; rfl
theorem infoU32 : Tryd.prog.info? 52 = some Tryd.t52 := by kernel_rfl
theorem infoSlU : Tryd.prog.info? 178 = some Tryd.t178 := by kernel_rfl

theorem minL_take {l : List Nat} {i : Nat} (h : i < l.length) : minL (l.take (i + 1)) = if l[i] = 0 then minL (l.take i) else if minL (l.take i) = 0 ∨ l[i] < minL (l.take i) then l[i] else minL (l.take i) := by rw [take_snoc h, minL_snoc]
theorem maxL_take {l : List Nat} {i : Nat} (h : i < l.length) : maxL (l.take (i + 1)) = max (maxL (l.take i)) l[i] := by rw [take_snoc h, maxL_snoc]
theorem cntL_zero {l : List Nat} {i : Nat} (h : i < l.length) (h0 : l[i] = 0) : cntL (l.take (i + 1)) = cntL (l.take i) := by
  funext k; rw [take_snoc h, cntL_snoc, h0, if_neg (by omega)]; rfl
theorem cntL_more {l : List Nat} {i : Nat} (h : i < l.length) (h0 : l[i] ≠ 0) : (cellsI 16 (cntL (l.take i))).set (l[i] * 1) (.int .i64 ((cntL (l.take i) l[i] + 1 : Nat) : Int)) = cellsI 16 (cntL (l.take (i + 1))) :=
  cellsI_set (by rw [take_snoc h, cntL_snoc, if_pos ⟨h0, rfl⟩]) fun o _ hne => by rw [take_snoc h, cntL_snoc, if_neg (fun h => hne h.2.symm)]; rfl
theorem cntL_le (l : List Nat) (k : Nat) : cntL l k ≤ l.length := by unfold cntL; split; omega; exact List.count_le_length
theorem first_le {l : List Nat} {k : Nat} (hl : l.length ≤ 320) (hk : k ≤ 15) : firstC l k + cntL l k ≤ 20971520 := by
  have h1 := first_bound l k
  have h2 : (2 : Nat) ^ (k + 1) ≤ 2 ^ 16 := Nat.pow_le_pow_right (by omega) (by omega)
  have h3 : l.length * 2 ^ (k + 1) ≤ 320 * 2 ^ 16 := Nat.mul_le_mul hl h2
  omega
/-- The first codes of the lengths from mn on, below i. -/
def nextF (lens : List Nat) (mn i l : Nat) : Nat := if mn ≤ l ∧ l < i then firstC lens l else 0
/-- .. and how far they have got behind k symbols. -/
def nextK (lens : List Nat) (mn mx k l : Nat) : Nat := if mn ≤ l ∧ l ≤ mx then firstC lens l + (lens.take k).count l else 0
theorem next_set {lens : List Nat} {mn i : Nat} (h : mn ≤ i) : (cellsI 16 (nextF lens mn i)).set (i * 1) (.int .i64 ((firstC lens i : Nat) : Int)) = cellsI 16 (nextF lens mn (i + 1)) :=
  cellsI_set (by unfold nextF; rw [if_pos (by omega)]) fun o _ hne => by
    unfold nextF
    by_cases h1 : mn ≤ o ∧ o < i
    · rw [if_pos h1, if_pos (by omega)]
    · rw [if_neg h1, if_neg (by omega)]
theorem next_done (lens : List Nat) (mn mx : Nat) : nextF lens mn (mx + 1) = nextK lens mn mx 0 := by
  funext l
  unfold nextF nextK
  by_cases h1 : mn ≤ l ∧ l ≤ mx
  · rw [if_pos (by omega), if_pos h1]; simp
  · rw [if_neg (by omega), if_neg h1]
theorem nextK_zero {lens : List Nat} {mn mx k : Nat} (h : k < lens.length) (h0' : lenOf lens k = 0) (hm : 0 < mn) : nextK lens mn mx (k + 1) = nextK lens mn mx k := by
  have h0 : lens[k] = 0 := by rw [← lenOf_get h]; exact h0'
  funext l
  unfold nextK
  split
  · rw [take_snoc h, h0, List.count_append, List.count_cons_of_ne (by omega)]; simp
  · rfl
theorem nextK_more {lens : List Nat} {mn mx k : Nat} (h : k < lens.length) (h1 : mn ≤ lenOf lens k) (h2 : lenOf lens k ≤ mx) : (cellsI 16 (nextK lens mn mx k)).set (lenOf lens k * 1) (.int .i64 ((codeOf lens k + 1 : Nat) : Int)) = cellsI 16 (nextK lens mn mx (k + 1)) :=
  cellsI_set (by unfold nextK; rw [if_pos ⟨h1, h2⟩, take_snoc h, List.count_append, codeOf, lenOf_get h, List.count_cons_self]; simp; omega) fun o _ hne => by
    unfold nextK
    split
    · rw [take_snoc h, List.count_append, List.count_cons_of_ne (fun e => hne (by rw [lenOf_get h]; exact e.symm))]; simp
    · rfl
theorem nextK_at {lens : List Nat} {mn mx k : Nat} (h1 : mn ≤ lenOf lens k) (h2 : lenOf lens k ≤ mx) : nextK lens mn mx k (lenOf lens k) = codeOf lens k := by
  unfold nextK; rw [if_pos ⟨h1, h2⟩, codeOf]

/-- The tables that links lead to. -/
def LkF (c : Nat) (lb : Nat → Nat) (g : Nat → Nat → Nat) (nk : Nat) : Frags := (List.range c).map fun a => (⟨lb a, 0, cellsU nk (g a)⟩ : Frag)
def lkCells (c : Nat) (lb : Nat → Nat) (nk : Nat) : List Value := (List.range c).map fun a => Value.slice (some ⟨lb a, 0, none⟩) nk nk
theorem LkF_get {c a nk : Nat} {lb : Nat → Nat} {g : Nat → Nat → Nat} (h : a < c) : (LkF c lb g nk)[a]? = some ⟨lb a, 0, cellsU nk (g a)⟩ := by rw [LkF, List.getElem?_map, List.getElem?_range h]; rfl
theorem lk_get {c a nk : Nat} {lb : Nat → Nat} (h : a < c) : (lkCells c lb nk)[a * 1]? = some (.slice (some ⟨lb a, 0, none⟩) nk nk) := by rw [Nat.mul_one, lkCells, List.getElem?_map, List.getElem?_range h]; rfl
theorem LkF_set {c a nk : Nat} {lb : Nat → Nat} {g g' : Nat → Nat → Nat} {cs : List Value} (ha : cellsU nk (g' a) = cs) (hn : ∀ x, x ≠ a → g' x = g x) : (LkF c lb g nk).set a ⟨lb a, 0, cs⟩ = LkF c lb g' nk := by
  apply List.ext_getElem?
  intro i
  rw [List.getElem?_set, LkF, LkF, List.getElem?_map, List.getElem?_map]
  by_cases hi : i < c
  · rw [List.getElem?_range hi]
    by_cases hik : a = i
    · subst hik
      rw [if_pos rfl, if_pos (by simpa using hi), ← ha]; rfl
    · rw [if_neg hik]
      simp only [Option.map_some]
      rw [hn i (fun e => hik e.symm)]
  · rw [List.getElem?_eq_none (by simpa using hi)]
    simp only [Option.map_none]
    split
    · rw [if_neg (by rw [List.length_map, List.length_range]; omega)]
    · rfl

/-- What init leaves of a code that it takes. -/
def HufT (lens : List Nat) (mn hb o : Nat) (L : Frags) : Prop :=
  ∃ f g nt nk lv T, TabOK lens f g nt nk ∧ (∀ x, x < 512 → f x < 65536) ∧ (∀ a q, g a q < 65536) ∧ 0 < nk ∧ nk ≤ 64 ∧ (∃ e, nk = 2 ^ e) ∧ (mn = 0 → (∀ x, x < 512 → f x = 0) ∧ lv = .slice none 0 0 ∧ nk = 1) ∧ L = [⟨hb, o, [.int .i64 ((mn : Nat) : Int)]⟩, ⟨hb, o + 1, cellsU 512 f⟩, ⟨hb, o + 513, [lv, .int .u32 ((nk - 1 : Nat) : Int)]⟩] ++ T ∧
    ((nt = 0 ∧ T = [] ∧ lv = .slice none 0 0) ∨ ∃ kb lb, lv = .slice (some ⟨kb, 0, none⟩) nt nt ∧ T = ⟨kb, 0, lkCells nt lb nk⟩ :: LkF nt lb g nk)

theorem link_none {lens : List Nat} {lk nk : Nat} {g : Nat → Nat → Nat} (h : ¬ ((9 : Nat) : Int) < ((maxL lens : Nat) : Int)) : TabP lens (maxL lens) lk nk 0 (fun _ => 0) g := by
  have : (fun _ => 0) = link0 (maxL lens) lk := by funext x; rw [link0, if_neg (by omega)]
  rw [this]; exact TabP.zero
theorem link_full {lens : List Nat} {lk nk : Nat} {g : Nat → Nat → Nat} (h512 : lk ≤ 512) (h : ((9 : Nat) : Int) < ((maxL lens : Nat) : Int)) : TabP lens (maxL lens) lk nk 0 (fun x => if lk ≤ revB 9 x ∧ revB 9 x < 512 then (revB 9 x - lk) * 16 + 10 else 0) g := by
  have : (fun x => if lk ≤ revB 9 x ∧ revB 9 x < 512 then (revB 9 x - lk) * 16 + 10 else 0) = link0 (maxL lens) lk := by
    funext x
    have := revB_lt 9 x
    rw [link0]
    by_cases h1 : lk ≤ revB 9 x
    · rw [if_pos ⟨h1, this⟩, if_pos ⟨by omega, h1⟩]
    · rw [if_neg (by omega), if_neg (by omega)]
  rw [this]; exact TabP.zero
theorem link_lt {lk : Nat} (h512 : lk ≤ 512) : ∀ x, x < 512 → (fun x => if lk ≤ revB 9 x ∧ revB 9 x < 512 then (revB 9 x - lk) * 16 + 10 else 0) x < 65536 := fun x _ => by
  have := revB_lt 9 x
  rw [show (2 : Nat) ^ 9 = 512 from rfl] at this
  simp only
  split <;> omega
theorem fill_zero {k n c : Nat} {f : Nat → Nat} (r : Nat) (hr : r = revB n c) : cellsU 512 (fun x => if x < r ∧ x % 2 ^ n = revB n c then k * 16 + n else f x) = cellsU 512 f :=
  cellsU_congr fun x _ => by
    rw [if_neg]
    rintro ⟨h1, h2⟩
    have h3 := revB_lt n c
    rw [Nat.mod_eq_of_lt (by omega)] at h2
    omega
theorem fill_next {n c off : Nat} {f : Nat → Nat} {v : Nat} (h : off % 2 ^ n = revB n c) : (cellsU 512 (fun x => if x < off ∧ x % 2 ^ n = revB n c then v else f x)).set (off * 1) (.int .u32 ((v : Nat) : Int)) = cellsU 512 (fun x => if x < off + 2 ^ n ∧ x % 2 ^ n = revB n c then v else f x) :=
  cellsU_set (by rw [if_pos ⟨by have := Nat.pow_pos (n := n) (show 0 < 2 by omega); omega, h⟩]) fun x _ hne => by
    by_cases h1 : x < off + 2 ^ n ∧ x % 2 ^ n = revB n c
    · rw [if_pos h1, if_pos]
      refine ⟨?_, h1.2⟩
      rcases Nat.lt_or_ge x off with h2 | h2
      · exact h2
      · exfalso
        obtain ⟨d, rfl⟩ := Nat.exists_eq_add_of_le h2
        have hd : d < 2 ^ n := by omega
        have h3 : (off + d) % 2 ^ n = off % 2 ^ n := by rw [h1.2, h]
        have h4 : d % 2 ^ n = 0 := by
          have h5 := Nat.sub_mod_eq_zero_of_mod_eq h3
          rwa [Nat.add_sub_cancel_left] at h5
        rw [Nat.mod_eq_of_lt hd] at h4
        exact hne (by omega)
    · rw [if_neg h1, if_neg (fun h2 => h1 ⟨by omega, h2.2⟩)]

theorem next_start (lens : List Nat) (mn : Nat) : cellsI 16 (nextF lens mn mn) = cellsI 16 (fun _ => 0) := cellsI_congr fun o _ => by unfold nextF; rw [if_neg (by omega)]
theorem next_ten {lens : List Nat} {mx : Nat} (h : 10 ≤ mx) : nextK lens (minL lens) mx 0 10 = 2 * (firstC lens 9 + cntL lens 9) := by
  unfold nextK
  by_cases h1 : minL lens ≤ 10
  · rw [if_pos ⟨h1, h⟩]; rfl
  · rw [if_neg (by omega)]
    have h2 := first_min lens 10 (by omega)
    exact h2.symm
theorem lnk_start (lk : Nat) : cellsU 512 (fun x => if lk ≤ revB 9 x ∧ revB 9 x < lk then (revB 9 x - lk) * 16 + 10 else 0) = cellsU 512 (fun _ => 0) := cellsU_congr fun o _ => by rw [if_neg (by omega)]
theorem lnk_next {lk j : Nat} (h1 : lk ≤ j) (h2 : j < 512) : (cellsU 512 (fun x => if lk ≤ revB 9 x ∧ revB 9 x < j then (revB 9 x - lk) * 16 + 10 else 0)).set (revB 9 j * 1) (.int .u32 (((j - lk) * 16 + 10 : Nat) : Int)) = cellsU 512 (fun x => if lk ≤ revB 9 x ∧ revB 9 x < (j + 1) then (revB 9 x - lk) * 16 + 10 else 0) := by
  have hj : revB 9 (revB 9 j) = j := revB_rev 9 j h2
  refine cellsU_set (by rw [hj, if_pos (by omega)]) fun o ho hne => ?_
  have : revB 9 o ≠ j := fun e => hne (by rw [← e, revB_rev 9 o ho])
  by_cases h3 : lk ≤ revB 9 o ∧ revB 9 o < j
  · rw [if_pos (by omega), if_pos h3]
  · rw [if_neg (by omega), if_neg h3]
theorem kb_start (lk nk : Nat) (lb : Nat → Nat) : ((List.range (512 - lk)).map fun a => if a < lk - lk then Value.slice (some ⟨lb a, 0, none⟩) nk nk else .slice none 0 0) = List.replicate (512 - lk) (.slice none 0 0) := by
  rw [List.eq_replicate_iff]
  refine ⟨by simp, fun v hv => ?_⟩
  obtain ⟨a, _, rfl⟩ := List.mem_map.1 hv
  rw [if_neg (by omega)]
def lbNext (lb : Nat → Nat) (a nb : Nat) : Nat → Nat := fun x => if x = a then nb else lb x
theorem kb_next {lk j nk nb : Nat} {lb : Nat → Nat} (h1 : lk ≤ j) : (((List.range (512 - lk)).map fun a => if a < j - lk then Value.slice (some ⟨lb a, 0, none⟩) nk nk else .slice none 0 0)).set ((j - lk) * 1) (.slice (some ⟨nb, 0, none⟩) nk nk) = ((List.range (512 - lk)).map fun a => if a < (j + 1) - lk then Value.slice (some ⟨(lbNext lb (j - lk) nb) a, 0, none⟩) nk nk else .slice none 0 0) := by
  refine map_set (by rw [if_pos (by omega), lbNext, if_pos rfl]) fun o ho hne => ?_
  rw [lbNext, if_neg hne]
  by_cases h3 : o < j - lk
  · rw [if_pos (by omega), if_pos h3]
  · rw [if_neg (by omega), if_neg h3]
theorem kb_end {lk nk : Nat} (lb : Nat → Nat) : ((List.range (512 - lk)).map fun a => if a < 512 - lk then Value.slice (some ⟨lb a, 0, none⟩) nk nk else .slice none 0 0) = lkCells (512 - lk) lb nk := by
  unfold lkCells
  exact List.map_congr_left fun a ha => by rw [if_pos (List.mem_range.1 ha)]
theorem LkF_more {c nb nk : Nat} {lb : Nat → Nat} : LkF (c + 1) (lbNext lb c nb) (fun _ _ => 0) nk = LkF c lb (fun _ _ => 0) nk ++ [⟨nb, 0, cellsU nk (fun _ => 0)⟩] := by
  unfold LkF
  rw [List.range_succ, List.map_append]
  congr 1
  · exact List.map_congr_left fun a ha => by rw [lbNext, if_neg (by have := List.mem_range.1 ha; omega)]
  · simp [lbNext]
theorem cellsU_zero (n : Nat) : List.replicate n (Value.int .u32 0) = cellsU n (fun _ => 0) := by
  symm; unfold cellsU
  rw [List.eq_replicate_iff]
  refine ⟨by simp, fun v hv => ?_⟩
  obtain ⟨a, _, rfl⟩ := List.mem_map.1 hv
  rfl
theorem revB_sh7 (j : Nat) : revB 16 j >>> 7 = revB 9 j := by rw [Nat.shiftRight_eq_div_pow]; exact revB_prefix (by decide : 9 ≤ 16) j
theorem revB_sh {n : Nat} (c : Nat) (h : n ≤ 16) : revB 16 c >>> (16 - n) = revB n c := by rw [Nat.shiftRight_eq_div_pow]; exact revB_prefix h c
theorem filll_zero {c lk nk n r v h : Nat} {lb : Nat → Nat} {g : Nat → Nat → Nat} (hr : r < 2 ^ n) : LkF c lb (fun a q => if a = h ∧ q < r ∧ q % 2 ^ n = r then v else g a q) nk = LkF c lb g nk := by
  unfold LkF
  refine List.map_congr_left fun a _ => ?_
  rw [cellsU_congr fun x _ => if_neg ?_]
  rintro ⟨_, h1, h2⟩
  rw [Nat.mod_eq_of_lt (by omega)] at h2
  omega
theorem filll_next {c nk n off r v h : Nat} {lb : Nat → Nat} {g : Nat → Nat → Nat} (ho : off % 2 ^ n = r) : (LkF c lb (fun a q => if a = h ∧ q < off ∧ q % 2 ^ n = r then v else g a q) nk).set h ⟨lb h, 0, (cellsU nk ((fun a q => if a = h ∧ q < off ∧ q % 2 ^ n = r then v else g a q) h)).set (off * 1) (.int .u32 ((v : Nat) : Int))⟩ =
    LkF c lb (fun a q => if a = h ∧ q < off + 2 ^ n ∧ q % 2 ^ n = r then v else g a q) nk := by
  refine LkF_set (cellsU_set ?_ fun x _ hne => ?_).symm fun x hx => ?_
  · rw [if_pos ⟨rfl, by have := Nat.pow_pos (n := n) (show 0 < 2 by omega); omega, ho⟩]
  · dsimp only
    by_cases h1 : x < off + 2 ^ n ∧ x % 2 ^ n = r
    · rw [if_pos ⟨rfl, h1⟩, if_pos]
      refine ⟨rfl, ?_, h1.2⟩
      rcases Nat.lt_or_ge x off with h2 | h2
      · exact h2
      · exfalso
        obtain ⟨d, rfl⟩ := Nat.exists_eq_add_of_le h2
        have h3 : (off + d) % 2 ^ n = off % 2 ^ n := by rw [h1.2, ho]
        have h4 : d % 2 ^ n = 0 := by
          have h5 := Nat.sub_mod_eq_zero_of_mod_eq h3
          rwa [Nat.add_sub_cancel_left] at h5
        rw [Nat.mod_eq_of_lt (by omega)] at h4
        exact hne (by omega)
    · rw [if_neg (fun h2 => h1 h2.2), if_neg (fun h2 => h1 ⟨by omega, h2.2.2⟩)]
  · funext q
    rw [if_neg (fun h2 => hx h2.1), if_neg (fun h2 => hx h2.1)]

/-- How init ends. -/
def InitEnd (lens : List Nat) (hb o : Nat) (Fv : Frag) (r : Value) (L : Frags) : Prop :=
  (okLens lens ∧ r = .bool true ∧ ∃ L1 J, HufT lens (minL lens) hb o L1 ∧ Same L (Fv :: L1 ++ J)) ∨ (¬ okLens lens ∧ r = .bool false ∧ ∃ hz J, hz.length = 515 ∧ Same L (Fv :: [⟨hb, o, hz⟩] ++ J))
theorem huf_join (hb o : Nat) (F : Frags) : Same (⟨hb, o, [.int .i64 0]⟩ :: ⟨hb, o + 1, cellsU 512 (fun _ => 0)⟩ :: ⟨hb, o + 513, [.slice none 0 0, .int .u32 0]⟩ :: F) (⟨hb, o, hufZ⟩ :: F) :=
  (Same.chunks hb F [(o, [.int .i64 0]), (o + 1, cellsU 512 (fun _ => 0)), (o + 513, [.slice none 0 0, .int .u32 0])] o (by simp [chunksOk, cellsU_length])).symm

theorem empty_res {lens : List Nat} {hb o : Nat} (h : maxL lens = 0) : HufT lens (minL lens) hb o [⟨hb, o, [.int .i64 ((0 : Nat) : Int)]⟩, ⟨hb, o + 1, cellsU 512 (fun _ => 0)⟩, ⟨hb, o + 513, [.slice none 0 0, .int .u32 0]⟩] := by
  have hm : minL lens = 0 := by
    by_cases h0 : minL lens = 0
    · exact h0
    · have := (minL_spec lens).2.2 h0
      have := le_maxL this
      omega
  refine ⟨fun _ => 0, fun _ _ => 0, 0, 1, _, [], tab_empty h, fun _ _ => (by decide : 0 < 65536), fun _ _ => (by decide : 0 < 65536), by decide, by decide, ⟨0, rfl⟩, fun _ => ⟨fun _ _ => rfl, rfl, rfl⟩, ?_, .inl ⟨rfl, rfl, rfl⟩⟩
  rw [hm]; rfl
theorem small_res {lens : List Nat} {hb o : Nat} {f : Nat → Nat} (h : TabOK lens f (fun _ _ => 0) 0 1) (hf : ∀ x, x < 512 → f x < 65536) (hp : 0 < minL lens) : HufT lens (minL lens) hb o [⟨hb, o, [.int .i64 ((minL lens : Nat) : Int)]⟩, ⟨hb, o + 1, cellsU 512 f⟩, ⟨hb, o + 513, [.slice none 0 0, .int .u32 0]⟩] :=
  ⟨f, fun _ _ => 0, 0, 1, _, [], h, hf, fun _ _ => (by decide : 0 < 65536), by decide, by decide, ⟨0, rfl⟩, fun h => by omega, rfl, .inl ⟨rfl, rfl, rfl⟩⟩
theorem big_res {lens : List Nat} {hb o lk nk kb : Nat} {lb : Nat → Nat} {f : Nat → Nat} {g : Nat → Nat → Nat} (h : TabOK lens f g (512 - lk) nk) (hf : ∀ x, x < 512 → f x < 65536) (hg : ∀ a q, g a q < 65536) (h0 : 0 < nk) (h64 : nk ≤ 64) (h2 : ∃ e, nk = 2 ^ e) (hp : 0 < minL lens) :
    HufT lens (minL lens) hb o ([⟨hb, o, [.int .i64 ((minL lens : Nat) : Int)]⟩, ⟨hb, o + 1, cellsU 512 f⟩, ⟨hb, o + 513, [.slice (some ⟨kb, 0, none⟩) ((512 - lk)) (512 - lk), .int .u32 ((nk - 1 : Nat) : Int)]⟩] ++ (⟨kb, 0, lkCells (512 - lk) lb nk⟩ :: LkF (512 - lk) lb g nk)) :=
  ⟨f, g, 512 - lk, nk, _, _, h, hf, hg, h0, h64, h2, fun h => by omega, rfl, .inr ⟨kb, lb, rfl, rfl⟩⟩

theorem init_walk {K : Known} (hb o vb vo vc mn0 : Nat) (rest vs : List Value) (lens : List Nat) (hrl : rest.length = 514) (hz : mn0 = 0 → rest = cellsU 512 (fun _ => 0) ++ [.slice none 0 0, .int .u32 0]) (h15 : ∀ x ∈ lens, x ≤ 15) (hll : lens.length ≤ 320) : Fn Tryd.prog K 80 #[.pointer (some ⟨hb, o, none⟩), .slice (some ⟨vb, vo, none⟩) lens.length vc] ([⟨hb, o, .int .i64 ((mn0 : Nat) : Int) :: rest⟩, ⟨vb, vo, intsV lens ++ vs⟩]) (InitEnd lens hb o ⟨vb, vo, intsV lens ++ vs⟩) := by
 refine Fn.intro (args := [.pointer (some ⟨hb, o, none⟩), .slice (some ⟨vb, vo, none⟩) lens.length vc]) (RR := Ret1 4 _) Tryd.func80 rfl rfl Tryd.ntmps80 (res1 Tryd.results80) ?_
 refine C.reenv (env2 := [(0, .pointer (some ⟨hb, o, none⟩)), (1, .slice (some ⟨vb, vo, none⟩) lens.length vc)]) rfl ?_
 refine C.seq ?_
 refine C.region ?_
 refine E.pure (S.assign rfl) rfl ?_
 refine E.keep [0, 1, 4] (env1 := [(0, _), (1, _), (4, _)]) rfl ?_
 refine C.cut (M := fun ee ll => keeps ee [0, 1] = some [(0, .pointer (some ⟨hb, o, none⟩)), (1, .slice (some ⟨vb, vo, none⟩) lens.length vc)] ∧ ll = [⟨hb, o, hufZ⟩, ⟨vb, vo, intsV lens ++ vs⟩]) ?_ ?_
 ·
  refine C.seq ?_
  refine C.region ?_
  refine E.pure (S.move rfl) rfl ?_
  refine E.pure (S.nilPtr rfl) rfl ?_
  refine E.pure (S.field rfl fa144_0) rfl ?_
  refine E.still (S.load 0 (k := 0) rfl rfl rfl Tryd.isAgg3) rfl ?_
  refine E.pure (S.ne (b := ((0 : Nat) : Int)) rfl rfl) rfl ?_
  refine E.keep [0, 1, 4, 38] (env1 := [(0, _), (1, _), (4, _), (38, _)]) rfl ?_
  refine C.ifp rfl (fun h38 => ?_) (fun h38 => ?_)
  ·
   refine C.region ?_
   refine E.pure (S.move rfl) rfl ?_
   refine E.pure (S.buildV (v := .agg hufZ.toArray) [] rfl hufBuild) rfl ?_
   refine E.pure (S.nilPtr rfl) rfl ?_
   refine E.loud0 (X.storeA 0 (k := 0) rfl rfl rfl hufZ_one hufZ_len (by rw [List.length_cons, hrl]; rfl) Tryd.sizeOf144 rfl) ?_
   rintro _ _ ⟨rfl, rfl⟩
   refine E.relist (L2 := [⟨hb, o, hufZ⟩, ⟨vb, vo, intsV lens ++ vs⟩]) (by rw [List.take_zero, List.nil_append, List.drop_eq_nil_of_le (by rw [List.length_cons, hrl]; decide), List.append_nil]; rfl) ?_
   refine E.keep [0, 1, 4, 38] (env1 := [(0, _), (1, _), (4, _), (38, _)]) rfl ?_
   exact ⟨rfl, rfl⟩
  ·
   have hm0 : mn0 = 0 := by omega
   subst hm0
   have hr0 := hz rfl
   subst hr0
   refine C.skip ?_
   exact ⟨rfl, rfl⟩
 ·
  rintro _ _ ⟨hq3, rfl⟩
  refine C.weaken _ hq3 ?_
  refine C.seq ?_
  refine C.same (Same.chunks hb [⟨vb, vo, intsV lens ++ vs⟩] [(o, [.int .i64 0]), (o + 1, cellsU 512 (fun _ => 0)), (o + 513, [.slice none 0 0, .int .u32 0])] o (by simp [chunksOk, cellsU_length])) ?_
  refine C.relist (L2 := [⟨hb, o, [.int .i64 ((0 : Nat) : Int)]⟩, ⟨hb, o + 1, cellsU 512 (fun _ => 0)⟩, ⟨hb, o + 513, [.slice none 0 0, .int .u32 0]⟩, ⟨vb, vo, intsV lens ++ vs⟩]) rfl ?_
  refine C.region ?_
  refine E.loud1 (X.alloc Tryd.zeroValue176) rfl ?_; rintro _ _ ⟨b5, rfl, rfl⟩; refine E.relist (L2 := [_, _, _, _, _]) rfl ?_
  refine E.relist (L2 := [⟨b5, 0, cellsI 16 (cntL (lens.take 0))⟩, ⟨hb, o, [.int .i64 ((0 : Nat) : Int)]⟩, ⟨hb, o + 1, cellsU 512 (fun _ => 0)⟩, ⟨hb, o + 513, [.slice none 0 0, .int .u32 0]⟩, ⟨vb, vo, intsV lens ++ vs⟩]) rfl ?_
  refine E.keep [0, 1, 5] (env1 := [(0, _), (1, _), (5, _)]) rfl ?_
  refine C.seq ?_
  refine C.region ?_
  refine E.pure (S.assign rfl) rfl ?_
  refine E.pure (S.assign rfl) rfl ?_
  refine E.keep [0, 1, 5, 6, 7] (env1 := [(0, _), (1, _), (5, _), (6, _), (7, _)]) rfl ?_
  refine C.seq ?_
  refine C.seq ?_
  refine C.region ?_
  refine E.pure (S.move rfl) rfl ?_
  refine E.pure (S.lenSl rfl Tryd.underlying39) rfl ?_
  refine E.pure (S.move rfl) rfl ?_
  refine E.keep [0, 1, 5, 6, 7, 42, 43, 44] (env1 := [(0, _), (1, _), (5, _), (6, _), (7, _), (42, _), (43, _), (44, _)]) rfl ?_
  refine C.block ?_
  refine C.loop (fun mm ee ll => ∃ (i : Nat), ∃ (mn : Nat), ∃ (mx : Nat), keeps ee [0, 1, 5, 6, 7, 42, 43, 44] = some [(0, .pointer (some ⟨hb, o, none⟩)), (1, .slice (some ⟨vb, vo, none⟩) lens.length vc), (5, .pointer (some ⟨b5, 0, none⟩)), (6, .int .i64 ((mn : Nat) : Int)), (7, .int .i64 ((mx : Nat) : Int)), (42, .slice (some ⟨vb, vo, none⟩) lens.length vc), (43, .int .i64 ((lens.length : Nat) : Int)), (44, .int .i64 ((i : Nat) : Int))] ∧ ll = [⟨b5, 0, cellsI 16 (cntL (lens.take i))⟩, ⟨hb, o, [.int .i64 ((0 : Nat) : Int)]⟩, ⟨hb, o + 1, cellsU 512 (fun _ => 0)⟩, ⟨hb, o + 513, [.slice none 0 0, .int .u32 0]⟩, ⟨vb, vo, intsV lens ++ vs⟩] ∧ (i ≤ lens.length) ∧ (mn = minL (lens.take i)) ∧ (mx = maxL (lens.take i)) ∧ mm = lens.length - i) (_) ⟨0, 0, 0, rfl, rfl, by omega, rfl, rfl, rfl⟩ ?_
  rintro m0 _ _ ⟨i, mn, mx, hk0, rfl, hi, hmn, hmx, hm0⟩
  refine C.weaken _ hk0 ?_
  refine C.seq ?_
  refine C.region ?_
  refine E.pure (S.lt rfl rfl) rfl ?_
  refine E.keep [0, 1, 5, 6, 7, 42, 43, 44, 45] (env1 := [(0, _), (1, _), (5, _), (6, _), (7, _), (42, _), (43, _), (44, _), (45, _)]) rfl ?_
  refine C.seq ?_
  refine C.ifp rfl (fun h45 => ?_) (fun h45 => ?_)
  ·
   have hi2 : i < lens.length := by omega
   have hn15 : lens[i] ≤ 15 := h15 _ (List.getElem_mem hi2)
   have hcl := cntL_le (lens.take i) lens[i]
   rw [List.length_take] at hcl
   refine C.skip ?_
   refine C.cut (M := fun ee ll => ∃ (mn2 : Nat), ∃ (mx2 : Nat), keeps ee [0, 1, 5, 6, 7, 42, 43, 44] = some [(0, .pointer (some ⟨hb, o, none⟩)), (1, .slice (some ⟨vb, vo, none⟩) lens.length vc), (5, .pointer (some ⟨b5, 0, none⟩)), (6, .int .i64 ((mn2 : Nat) : Int)), (7, .int .i64 ((mx2 : Nat) : Int)), (42, .slice (some ⟨vb, vo, none⟩) lens.length vc), (43, .int .i64 ((lens.length : Nat) : Int)), (44, .int .i64 ((i : Nat) : Int))] ∧ ll = [⟨b5, 0, cellsI 16 (cntL (lens.take (i + 1)))⟩, ⟨hb, o, [.int .i64 ((0 : Nat) : Int)]⟩, ⟨hb, o + 1, cellsU 512 (fun _ => 0)⟩, ⟨hb, o + 513, [.slice none 0 0, .int .u32 0]⟩, ⟨vb, vo, intsV lens ++ vs⟩] ∧ (mn2 = minL (lens.take (i + 1))) ∧ (mx2 = maxL (lens.take (i + 1)))) ?_ ?_
   ·
    refine C.block ?_
    refine C.seq ?_
    refine C.region ?_
    refine E.pure (S.ixSl rfl rfl (by omega) Tryd.underlying39 Tryd.sizeOf3) rfl ?_
    refine E.still (S.load 4 (k := i * 1) rfl rfl (intsV_get hi2) Tryd.isAgg3) rfl ?_
    refine E.pure (S.assign rfl) rfl ?_
    refine E.keep [0, 1, 5, 6, 7, 9, 42, 43, 44, 45] (env1 := [(0, _), (1, _), (5, _), (6, _), (7, _), (9, _), (42, _), (43, _), (44, _), (45, _)]) rfl ?_
    refine C.seq ?_
    refine C.seq ?_
    refine C.region ?_
    refine E.pure (S.move rfl) rfl ?_
    refine E.pure (S.eq (b := ((0 : Nat) : Int)) rfl rfl) rfl ?_
    refine E.keep [0, 1, 5, 6, 7, 9, 42, 43, 44, 45, 49] (env1 := [(0, _), (1, _), (5, _), (6, _), (7, _), (9, _), (42, _), (43, _), (44, _), (45, _), (49, _)]) rfl ?_
    refine C.ifp rfl (fun h49 => ?_) (fun h49 => ?_)
    ·
     refine C.exit rfl ?_
     exact ⟨mn, mx, rfl, by rw [cntL_zero hi2 (by omega)], by rw [minL_take hi2, if_pos (by omega)]; exact hmn, by rw [maxL_take hi2]; omega⟩
    ·
     refine C.skip ?_
     refine C.seq ?_
     refine C.seq ?_
     refine C.region ?_
     refine E.pure (S.move rfl) rfl ?_
     refine E.pure (S.eq (b := ((0 : Nat) : Int)) rfl rfl) rfl ?_
     refine E.pure (S.move rfl) rfl ?_
     refine E.fork (fun g52 => ?_) (fun g52 => ?_)
     ·
      refine E.guardNo 52 true rfl rfl rfl rfl ?_
      refine E.guardNo 52 true rfl rfl rfl rfl ?_
      refine E.guardNo 52 true rfl rfl rfl rfl ?_
      refine E.pure (S.pickT rfl rfl) rfl ?_
      refine E.keep [0, 1, 5, 6, 7, 9, 42, 43, 44, 45, 49, 56] (env1 := [(0, _), (1, _), (5, _), (6, _), (7, _), (9, _), (42, _), (43, _), (44, _), (45, _), (49, _), (56, _)]) rfl ?_
      refine C.yes rfl (rfl) ?_
      refine C.region ?_
      refine E.pure (S.move rfl) rfl ?_
      refine E.pure (S.assign rfl) rfl ?_
      refine E.keep [0, 1, 5, 6, 7, 9, 42, 43, 44, 45, 49, 56] (env1 := [(0, _), (1, _), (5, _), (6, _), (7, _), (9, _), (42, _), (43, _), (44, _), (45, _), (49, _), (56, _)]) rfl ?_
      refine C.seq ?_
      refine C.seq ?_
      refine C.region ?_
      refine E.pure (S.move rfl) rfl ?_
      refine E.pure (S.move rfl) rfl ?_
      refine E.pure (S.gt rfl rfl) rfl ?_
      refine E.keep [0, 1, 5, 6, 7, 9, 42, 43, 44, 45, 49, 56, 60] (env1 := [(0, _), (1, _), (5, _), (6, _), (7, _), (9, _), (42, _), (43, _), (44, _), (45, _), (49, _), (56, _), (60, _)]) rfl ?_
      refine C.ifp rfl (fun h60 => ?_) (fun h60 => ?_)
      ·
       refine C.region ?_
       refine E.pure (S.move rfl) rfl ?_
       refine E.pure (S.assign rfl) rfl ?_
       refine E.keep [0, 1, 5, 6, 7, 9, 42, 43, 44, 45, 49, 56, 60] (env1 := [(0, _), (1, _), (5, _), (6, _), (7, _), (9, _), (42, _), (43, _), (44, _), (45, _), (49, _), (56, _), (60, _)]) rfl ?_
       refine C.region ?_
       refine E.pure (S.move rfl) rfl ?_
       refine E.pure (S.ixArr rfl rfl (by omega) Tryd.underlying176 Tryd.sizeOf3) rfl ?_
       refine E.still (S.load 0 (k := lens[i] * 1) rfl rfl (cellsI_get (by omega)) Tryd.isAgg3) rfl ?_
       refine E.pure (S.add (b := ((1 : Nat) : Int)) rfl rfl (N.add64 (by omega))) rfl ?_
       refine E.pure (S.ixArr rfl rfl (by omega) Tryd.underlying176 Tryd.sizeOf3) rfl ?_
       refine E.loud0 (X.store 0 (k := lens[i] * 1) rfl rfl rfl rfl (by rw [Nat.blt_eq, cellsI_length]; omega) Tryd.sizeOf3) ?_
       rintro _ _ ⟨rfl, rfl⟩
       refine E.relist (L2 := [⟨b5, 0, cellsI 16 (cntL (lens.take (i + 1)))⟩, ⟨hb, o, [.int .i64 ((0 : Nat) : Int)]⟩, ⟨hb, o + 1, cellsU 512 (fun _ => 0)⟩, ⟨hb, o + 513, [.slice none 0 0, .int .u32 0]⟩, ⟨vb, vo, intsV lens ++ vs⟩]) (congrArg (fun q => ([(⟨b5, 0, q⟩ : Frag), ⟨hb, o, [.int .i64 ((0 : Nat) : Int)]⟩, ⟨hb, o + 1, cellsU 512 (fun _ => 0)⟩, ⟨hb, o + 513, [.slice none 0 0, .int .u32 0]⟩, ⟨vb, vo, intsV lens ++ vs⟩] : Frags)) (cntL_more hi2 (by omega))) ?_
       refine E.keep [0, 1, 5, 6, 7, 9, 42, 43, 44, 45, 49, 56, 60] (env1 := [(0, _), (1, _), (5, _), (6, _), (7, _), (9, _), (42, _), (43, _), (44, _), (45, _), (49, _), (56, _), (60, _)]) rfl ?_
       first | exact ⟨mn, mx, rfl, by rw [cntL_zero hi2 (by omega)], by rw [minL_take hi2, if_pos (by omega)]; exact hmn, by rw [maxL_take hi2]; omega⟩ | exact ⟨_, _, rfl, rfl, by rw [minL_take hi2, if_neg (by omega), ← hmn]; split <;> omega, by rw [maxL_take hi2, ← hmx]; omega⟩
      ·
       refine C.skip ?_
       refine C.region ?_
       refine E.pure (S.move rfl) rfl ?_
       refine E.pure (S.ixArr rfl rfl (by omega) Tryd.underlying176 Tryd.sizeOf3) rfl ?_
       refine E.still (S.load 0 (k := lens[i] * 1) rfl rfl (cellsI_get (by omega)) Tryd.isAgg3) rfl ?_
       refine E.pure (S.add (b := ((1 : Nat) : Int)) rfl rfl (N.add64 (by omega))) rfl ?_
       refine E.pure (S.ixArr rfl rfl (by omega) Tryd.underlying176 Tryd.sizeOf3) rfl ?_
       refine E.loud0 (X.store 0 (k := lens[i] * 1) rfl rfl rfl rfl (by rw [Nat.blt_eq, cellsI_length]; omega) Tryd.sizeOf3) ?_
       rintro _ _ ⟨rfl, rfl⟩
       refine E.relist (L2 := [⟨b5, 0, cellsI 16 (cntL (lens.take (i + 1)))⟩, ⟨hb, o, [.int .i64 ((0 : Nat) : Int)]⟩, ⟨hb, o + 1, cellsU 512 (fun _ => 0)⟩, ⟨hb, o + 513, [.slice none 0 0, .int .u32 0]⟩, ⟨vb, vo, intsV lens ++ vs⟩]) (congrArg (fun q => ([(⟨b5, 0, q⟩ : Frag), ⟨hb, o, [.int .i64 ((0 : Nat) : Int)]⟩, ⟨hb, o + 1, cellsU 512 (fun _ => 0)⟩, ⟨hb, o + 513, [.slice none 0 0, .int .u32 0]⟩, ⟨vb, vo, intsV lens ++ vs⟩] : Frags)) (cntL_more hi2 (by omega))) ?_
       refine E.keep [0, 1, 5, 6, 7, 9, 42, 43, 44, 45, 49, 56, 60] (env1 := [(0, _), (1, _), (5, _), (6, _), (7, _), (9, _), (42, _), (43, _), (44, _), (45, _), (49, _), (56, _), (60, _)]) rfl ?_
       first | exact ⟨mn, mx, rfl, by rw [cntL_zero hi2 (by omega)], by rw [minL_take hi2, if_pos (by omega)]; exact hmn, by rw [maxL_take hi2]; omega⟩ | exact ⟨_, _, rfl, rfl, by rw [minL_take hi2, if_neg (by omega), ← hmn]; split <;> omega, by rw [maxL_take hi2, ← hmx]; omega⟩
     ·
      refine E.wanted 52 rfl rfl ?_
      refine E.pure (S.move rfl) rfl ?_
      refine E.wanted 52 rfl rfl ?_
      refine E.pure (S.move rfl) rfl ?_
      refine E.wanted 52 rfl rfl ?_
      refine E.pure (S.lt rfl rfl) rfl ?_
      refine E.pure (S.pickF rfl rfl) rfl ?_
      refine E.keep [0, 1, 5, 6, 7, 9, 42, 43, 44, 45, 49, 56] (env1 := [(0, _), (1, _), (5, _), (6, _), (7, _), (9, _), (42, _), (43, _), (44, _), (45, _), (49, _), (56, _)]) rfl ?_
      refine C.ifp rfl (fun h56 => ?_) (fun h56 => ?_)
      ·
       refine C.region ?_
       refine E.pure (S.move rfl) rfl ?_
       refine E.pure (S.assign rfl) rfl ?_
       refine E.keep [0, 1, 5, 6, 7, 9, 42, 43, 44, 45, 49, 56] (env1 := [(0, _), (1, _), (5, _), (6, _), (7, _), (9, _), (42, _), (43, _), (44, _), (45, _), (49, _), (56, _)]) rfl ?_
       refine C.seq ?_
       refine C.seq ?_
       refine C.region ?_
       refine E.pure (S.move rfl) rfl ?_
       refine E.pure (S.move rfl) rfl ?_
       refine E.pure (S.gt rfl rfl) rfl ?_
       refine E.keep [0, 1, 5, 6, 7, 9, 42, 43, 44, 45, 49, 56, 60] (env1 := [(0, _), (1, _), (5, _), (6, _), (7, _), (9, _), (42, _), (43, _), (44, _), (45, _), (49, _), (56, _), (60, _)]) rfl ?_
       refine C.ifp rfl (fun h60 => ?_) (fun h60 => ?_)
       ·
        refine C.region ?_
        refine E.pure (S.move rfl) rfl ?_
        refine E.pure (S.assign rfl) rfl ?_
        refine E.keep [0, 1, 5, 6, 7, 9, 42, 43, 44, 45, 49, 56, 60] (env1 := [(0, _), (1, _), (5, _), (6, _), (7, _), (9, _), (42, _), (43, _), (44, _), (45, _), (49, _), (56, _), (60, _)]) rfl ?_
        refine C.region ?_
        refine E.pure (S.move rfl) rfl ?_
        refine E.pure (S.ixArr rfl rfl (by omega) Tryd.underlying176 Tryd.sizeOf3) rfl ?_
        refine E.still (S.load 0 (k := lens[i] * 1) rfl rfl (cellsI_get (by omega)) Tryd.isAgg3) rfl ?_
        refine E.pure (S.add (b := ((1 : Nat) : Int)) rfl rfl (N.add64 (by omega))) rfl ?_
        refine E.pure (S.ixArr rfl rfl (by omega) Tryd.underlying176 Tryd.sizeOf3) rfl ?_
        refine E.loud0 (X.store 0 (k := lens[i] * 1) rfl rfl rfl rfl (by rw [Nat.blt_eq, cellsI_length]; omega) Tryd.sizeOf3) ?_
        rintro _ _ ⟨rfl, rfl⟩
        refine E.relist (L2 := [⟨b5, 0, cellsI 16 (cntL (lens.take (i + 1)))⟩, ⟨hb, o, [.int .i64 ((0 : Nat) : Int)]⟩, ⟨hb, o + 1, cellsU 512 (fun _ => 0)⟩, ⟨hb, o + 513, [.slice none 0 0, .int .u32 0]⟩, ⟨vb, vo, intsV lens ++ vs⟩]) (congrArg (fun q => ([(⟨b5, 0, q⟩ : Frag), ⟨hb, o, [.int .i64 ((0 : Nat) : Int)]⟩, ⟨hb, o + 1, cellsU 512 (fun _ => 0)⟩, ⟨hb, o + 513, [.slice none 0 0, .int .u32 0]⟩, ⟨vb, vo, intsV lens ++ vs⟩] : Frags)) (cntL_more hi2 (by omega))) ?_
        refine E.keep [0, 1, 5, 6, 7, 9, 42, 43, 44, 45, 49, 56, 60] (env1 := [(0, _), (1, _), (5, _), (6, _), (7, _), (9, _), (42, _), (43, _), (44, _), (45, _), (49, _), (56, _), (60, _)]) rfl ?_
        first | exact ⟨mn, mx, rfl, by rw [cntL_zero hi2 (by omega)], by rw [minL_take hi2, if_pos (by omega)]; exact hmn, by rw [maxL_take hi2]; omega⟩ | exact ⟨_, _, rfl, rfl, by rw [minL_take hi2, if_neg (by omega), ← hmn]; split <;> omega, by rw [maxL_take hi2, ← hmx]; omega⟩
       ·
        refine C.skip ?_
        refine C.region ?_
        refine E.pure (S.move rfl) rfl ?_
        refine E.pure (S.ixArr rfl rfl (by omega) Tryd.underlying176 Tryd.sizeOf3) rfl ?_
        refine E.still (S.load 0 (k := lens[i] * 1) rfl rfl (cellsI_get (by omega)) Tryd.isAgg3) rfl ?_
        refine E.pure (S.add (b := ((1 : Nat) : Int)) rfl rfl (N.add64 (by omega))) rfl ?_
        refine E.pure (S.ixArr rfl rfl (by omega) Tryd.underlying176 Tryd.sizeOf3) rfl ?_
        refine E.loud0 (X.store 0 (k := lens[i] * 1) rfl rfl rfl rfl (by rw [Nat.blt_eq, cellsI_length]; omega) Tryd.sizeOf3) ?_
        rintro _ _ ⟨rfl, rfl⟩
        refine E.relist (L2 := [⟨b5, 0, cellsI 16 (cntL (lens.take (i + 1)))⟩, ⟨hb, o, [.int .i64 ((0 : Nat) : Int)]⟩, ⟨hb, o + 1, cellsU 512 (fun _ => 0)⟩, ⟨hb, o + 513, [.slice none 0 0, .int .u32 0]⟩, ⟨vb, vo, intsV lens ++ vs⟩]) (congrArg (fun q => ([(⟨b5, 0, q⟩ : Frag), ⟨hb, o, [.int .i64 ((0 : Nat) : Int)]⟩, ⟨hb, o + 1, cellsU 512 (fun _ => 0)⟩, ⟨hb, o + 513, [.slice none 0 0, .int .u32 0]⟩, ⟨vb, vo, intsV lens ++ vs⟩] : Frags)) (cntL_more hi2 (by omega))) ?_
        refine E.keep [0, 1, 5, 6, 7, 9, 42, 43, 44, 45, 49, 56, 60] (env1 := [(0, _), (1, _), (5, _), (6, _), (7, _), (9, _), (42, _), (43, _), (44, _), (45, _), (49, _), (56, _), (60, _)]) rfl ?_
        first | exact ⟨mn, mx, rfl, by rw [cntL_zero hi2 (by omega)], by rw [minL_take hi2, if_pos (by omega)]; exact hmn, by rw [maxL_take hi2]; omega⟩ | exact ⟨_, _, rfl, rfl, by rw [minL_take hi2, if_neg (by omega), ← hmn]; split <;> omega, by rw [maxL_take hi2, ← hmx]; omega⟩
      ·
       refine C.skip ?_
       refine C.seq ?_
       refine C.seq ?_
       refine C.region ?_
       refine E.pure (S.move rfl) rfl ?_
       refine E.pure (S.move rfl) rfl ?_
       refine E.pure (S.gt rfl rfl) rfl ?_
       refine E.keep [0, 1, 5, 6, 7, 9, 42, 43, 44, 45, 49, 56, 60] (env1 := [(0, _), (1, _), (5, _), (6, _), (7, _), (9, _), (42, _), (43, _), (44, _), (45, _), (49, _), (56, _), (60, _)]) rfl ?_
       refine C.ifp rfl (fun h60 => ?_) (fun h60 => ?_)
       ·
        refine C.region ?_
        refine E.pure (S.move rfl) rfl ?_
        refine E.pure (S.assign rfl) rfl ?_
        refine E.keep [0, 1, 5, 6, 7, 9, 42, 43, 44, 45, 49, 56, 60] (env1 := [(0, _), (1, _), (5, _), (6, _), (7, _), (9, _), (42, _), (43, _), (44, _), (45, _), (49, _), (56, _), (60, _)]) rfl ?_
        refine C.region ?_
        refine E.pure (S.move rfl) rfl ?_
        refine E.pure (S.ixArr rfl rfl (by omega) Tryd.underlying176 Tryd.sizeOf3) rfl ?_
        refine E.still (S.load 0 (k := lens[i] * 1) rfl rfl (cellsI_get (by omega)) Tryd.isAgg3) rfl ?_
        refine E.pure (S.add (b := ((1 : Nat) : Int)) rfl rfl (N.add64 (by omega))) rfl ?_
        refine E.pure (S.ixArr rfl rfl (by omega) Tryd.underlying176 Tryd.sizeOf3) rfl ?_
        refine E.loud0 (X.store 0 (k := lens[i] * 1) rfl rfl rfl rfl (by rw [Nat.blt_eq, cellsI_length]; omega) Tryd.sizeOf3) ?_
        rintro _ _ ⟨rfl, rfl⟩
        refine E.relist (L2 := [⟨b5, 0, cellsI 16 (cntL (lens.take (i + 1)))⟩, ⟨hb, o, [.int .i64 ((0 : Nat) : Int)]⟩, ⟨hb, o + 1, cellsU 512 (fun _ => 0)⟩, ⟨hb, o + 513, [.slice none 0 0, .int .u32 0]⟩, ⟨vb, vo, intsV lens ++ vs⟩]) (congrArg (fun q => ([(⟨b5, 0, q⟩ : Frag), ⟨hb, o, [.int .i64 ((0 : Nat) : Int)]⟩, ⟨hb, o + 1, cellsU 512 (fun _ => 0)⟩, ⟨hb, o + 513, [.slice none 0 0, .int .u32 0]⟩, ⟨vb, vo, intsV lens ++ vs⟩] : Frags)) (cntL_more hi2 (by omega))) ?_
        refine E.keep [0, 1, 5, 6, 7, 9, 42, 43, 44, 45, 49, 56, 60] (env1 := [(0, _), (1, _), (5, _), (6, _), (7, _), (9, _), (42, _), (43, _), (44, _), (45, _), (49, _), (56, _), (60, _)]) rfl ?_
        first | exact ⟨mn, mx, rfl, by rw [cntL_zero hi2 (by omega)], by rw [minL_take hi2, if_pos (by omega)]; exact hmn, by rw [maxL_take hi2]; omega⟩ | exact ⟨_, _, rfl, rfl, by rw [minL_take hi2, if_neg (by omega), ← hmn]; split <;> omega, by rw [maxL_take hi2, ← hmx]; omega⟩
       ·
        refine C.skip ?_
        refine C.region ?_
        refine E.pure (S.move rfl) rfl ?_
        refine E.pure (S.ixArr rfl rfl (by omega) Tryd.underlying176 Tryd.sizeOf3) rfl ?_
        refine E.still (S.load 0 (k := lens[i] * 1) rfl rfl (cellsI_get (by omega)) Tryd.isAgg3) rfl ?_
        refine E.pure (S.add (b := ((1 : Nat) : Int)) rfl rfl (N.add64 (by omega))) rfl ?_
        refine E.pure (S.ixArr rfl rfl (by omega) Tryd.underlying176 Tryd.sizeOf3) rfl ?_
        refine E.loud0 (X.store 0 (k := lens[i] * 1) rfl rfl rfl rfl (by rw [Nat.blt_eq, cellsI_length]; omega) Tryd.sizeOf3) ?_
        rintro _ _ ⟨rfl, rfl⟩
        refine E.relist (L2 := [⟨b5, 0, cellsI 16 (cntL (lens.take (i + 1)))⟩, ⟨hb, o, [.int .i64 ((0 : Nat) : Int)]⟩, ⟨hb, o + 1, cellsU 512 (fun _ => 0)⟩, ⟨hb, o + 513, [.slice none 0 0, .int .u32 0]⟩, ⟨vb, vo, intsV lens ++ vs⟩]) (congrArg (fun q => ([(⟨b5, 0, q⟩ : Frag), ⟨hb, o, [.int .i64 ((0 : Nat) : Int)]⟩, ⟨hb, o + 1, cellsU 512 (fun _ => 0)⟩, ⟨hb, o + 513, [.slice none 0 0, .int .u32 0]⟩, ⟨vb, vo, intsV lens ++ vs⟩] : Frags)) (cntL_more hi2 (by omega))) ?_
        refine E.keep [0, 1, 5, 6, 7, 9, 42, 43, 44, 45, 49, 56, 60] (env1 := [(0, _), (1, _), (5, _), (6, _), (7, _), (9, _), (42, _), (43, _), (44, _), (45, _), (49, _), (56, _), (60, _)]) rfl ?_
        first | exact ⟨mn, mx, rfl, by rw [cntL_zero hi2 (by omega)], by rw [minL_take hi2, if_pos (by omega)]; exact hmn, by rw [maxL_take hi2]; omega⟩ | exact ⟨_, _, rfl, rfl, by rw [minL_take hi2, if_neg (by omega), ← hmn]; split <;> omega, by rw [maxL_take hi2, ← hmx]; omega⟩
   ·
    rintro _ _ ⟨mn2, mx2, hq14, rfl, hmn2, hmx2⟩
    refine C.weaken _ hq14 ?_
    refine C.region ?_
    refine E.pure (S.add (b := ((1 : Nat) : Int)) rfl rfl (N.add64 (by omega))) rfl ?_
    refine E.pure (S.move rfl) rfl ?_
    refine E.keep [0, 1, 5, 6, 7, 42, 43, 44] (env1 := [(0, _), (1, _), (5, _), (6, _), (7, _), (42, _), (43, _), (44, _)]) rfl ?_
    refine ⟨_, ?_, i + 1, mn2, mx2, rfl, rfl, by omega, hmn2, hmx2, rfl⟩; omega
  ·
   have hi2 : i = lens.length := by omega
   subst hi2
   rw [List.take_length] at hmn hmx
   subst hmn hmx
   refine C.relist (L2 := [⟨b5, 0, cellsI 16 (cntL lens)⟩, ⟨hb, o, [.int .i64 ((0 : Nat) : Int)]⟩, ⟨hb, o + 1, cellsU 512 (fun _ => 0)⟩, ⟨hb, o + 513, [.slice none 0 0, .int .u32 0]⟩, ⟨vb, vo, intsV lens ++ vs⟩]) (by rw [List.take_length]) ?_
   refine C.exit rfl ?_
   refine C.seq ?_
   refine C.seq ?_
   refine C.region ?_
   refine E.pure (S.move rfl) rfl ?_
   refine E.pure (S.eq (b := ((0 : Nat) : Int)) rfl rfl) rfl ?_
   refine E.keep [0, 1, 5, 6, 7, 42, 43, 44, 45, 69] (env1 := [(0, _), (1, _), (5, _), (6, _), (7, _), (42, _), (43, _), (44, _), (45, _), (69, _)]) rfl ?_
   refine C.ifp rfl (fun h69 => ?_) (fun h69 => ?_)
   ·
    have hm0 : maxL lens = 0 := by omega
    have hok : okLens lens := .inl hm0
    refine C.seq ?_
    refine C.region ?_
    refine E.pure (S.assign rfl) rfl ?_
    refine E.keep [0, 1, 4, 5, 6, 7, 42, 43, 44, 45, 69] (env1 := [(0, _), (1, _), (4, _), (5, _), (6, _), (7, _), (42, _), (43, _), (44, _), (45, _), (69, _)]) rfl ?_
    refine C.ret ?_
    exact ⟨_, rfl, .inl ⟨hok, rfl, _, [_], empty_res hm0, Same.perm (picks_perm (A := [_, _, _, _]) (F := [_]) (is := [4, 1, 1, 1]) rfl)⟩⟩
   ·
    have hmp := min_pos (l := lens) (by omega)
    have hm15 : maxL lens ≤ 15 := maxL_le h15
    have h2m : 2 ^ maxL lens ≤ 2 ^ 15 := Nat.pow_le_pow_right (by omega) hm15
    refine C.skip ?_
    refine C.seq ?_
    refine C.region ?_
    refine E.pure (S.assign rfl) rfl ?_
    refine E.keep [0, 1, 5, 6, 7, 10, 42, 43, 44, 45, 69] (env1 := [(0, _), (1, _), (5, _), (6, _), (7, _), (10, _), (42, _), (43, _), (44, _), (45, _), (69, _)]) rfl ?_
    refine C.seq ?_
    refine C.region ?_
    refine E.loud1 (X.alloc Tryd.zeroValue176) rfl ?_; rintro _ _ ⟨b11, rfl, rfl⟩; refine E.relist (L2 := [_, _, _, _, _, _]) rfl ?_
    refine E.relist (L2 := [⟨b11, 0, cellsI 16 (nextF lens (minL lens) (minL lens))⟩, ⟨b5, 0, cellsI 16 (cntL lens)⟩, ⟨hb, o, [.int .i64 ((0 : Nat) : Int)]⟩, ⟨hb, o + 1, cellsU 512 (fun _ => 0)⟩, ⟨hb, o + 513, [.slice none 0 0, .int .u32 0]⟩, ⟨vb, vo, intsV lens ++ vs⟩]) (by rw [next_start]; rfl) ?_
    refine E.keep [0, 1, 5, 6, 7, 10, 11, 42, 43, 44, 45, 69] (env1 := [(0, _), (1, _), (5, _), (6, _), (7, _), (10, _), (11, _), (42, _), (43, _), (44, _), (45, _), (69, _)]) rfl ?_
    refine C.seq ?_
    refine C.seq ?_
    refine C.region ?_
    refine E.pure (S.move rfl) rfl ?_
    refine E.pure (S.assign rfl) rfl ?_
    refine E.keep [0, 1, 5, 6, 7, 10, 11, 12, 42, 43, 44, 45, 69] (env1 := [(0, _), (1, _), (5, _), (6, _), (7, _), (10, _), (11, _), (12, _), (42, _), (43, _), (44, _), (45, _), (69, _)]) rfl ?_
    refine C.block ?_
    refine C.loop (fun mm ee ll => ∃ (code : Nat), ∃ (i : Nat), keeps ee [0, 1, 5, 6, 7, 11, 10, 12] = some [(0, .pointer (some ⟨hb, o, none⟩)), (1, .slice (some ⟨vb, vo, none⟩) lens.length vc), (5, .pointer (some ⟨b5, 0, none⟩)), (6, .int .i64 ((minL lens : Nat) : Int)), (7, .int .i64 ((maxL lens : Nat) : Int)), (11, .pointer (some ⟨b11, 0, none⟩)), (10, .int .i64 ((code : Nat) : Int)), (12, .int .i64 ((i : Nat) : Int))] ∧ ll = [⟨b11, 0, cellsI 16 (nextF lens (minL lens) i)⟩, ⟨b5, 0, cellsI 16 (cntL lens)⟩, ⟨hb, o, [.int .i64 ((0 : Nat) : Int)]⟩, ⟨hb, o + 1, cellsU 512 (fun _ => 0)⟩, ⟨hb, o + 513, [.slice none 0 0, .int .u32 0]⟩, ⟨vb, vo, intsV lens ++ vs⟩] ∧ (minL lens ≤ i) ∧ (i ≤ maxL lens + 1) ∧ (2 * code = firstC lens i) ∧ mm = maxL lens + 1 - i) (_) ⟨0, minL lens, rfl, rfl, Nat.le_refl _, by omega, by rw [first_min lens _ (Nat.le_refl _)], rfl⟩ ?_
    rintro m1 _ _ ⟨code, i, hk1, rfl, hi1, hi2, hc, hm1⟩
    refine C.weaken _ hk1 ?_
    refine C.seq ?_
    refine C.seq ?_
    refine C.region ?_
    refine E.pure (S.move rfl) rfl ?_
    refine E.pure (S.move rfl) rfl ?_
    refine E.pure (S.le rfl rfl) rfl ?_
    refine E.keep [0, 1, 5, 6, 7, 10, 11, 12, 73] (env1 := [(0, _), (1, _), (5, _), (6, _), (7, _), (10, _), (11, _), (12, _), (73, _)]) rfl ?_
    refine C.ifp rfl (fun h73 => ?_) (fun h73 => ?_)
    ·
     have hfl := first_le (l := lens) (k := i) hll (by omega)
     have hcl := cntL_le lens i
     refine C.skip ?_
     refine C.seq ?_
     refine C.block ?_
     refine C.seq ?_
     refine C.region ?_
     refine E.pure (S.move rfl) rfl ?_
     refine E.pure (S.shl (b := ((1 : Nat) : Int)) rfl rfl (by omega) (N.shl64 (by rw [Nat.shiftLeft_eq]; omega))) rfl ?_
     refine E.reslot (v := .int .i64 ((firstC lens i : Nat) : Int)) (congrArg (fun q : Nat => Value.int .i64 (q : Int)) (by rw [Nat.shiftLeft_eq]; omega)) ?_
     refine E.pure (S.assign rfl) rfl ?_
     refine E.keep [0, 1, 5, 6, 7, 10, 11, 12, 73] (env1 := [(0, _), (1, _), (5, _), (6, _), (7, _), (10, _), (11, _), (12, _), (73, _)]) rfl ?_
     refine C.seq ?_
     refine C.region ?_
     refine E.pure (S.move rfl) rfl ?_
     refine E.pure (S.move rfl) rfl ?_
     refine E.pure (S.ixArr rfl rfl (by omega) Tryd.underlying176 Tryd.sizeOf3) rfl ?_
     refine E.loud0 (X.store 0 (k := i * 1) rfl rfl rfl rfl (by rw [Nat.blt_eq, cellsI_length]; omega) Tryd.sizeOf3) ?_
     rintro _ _ ⟨rfl, rfl⟩
     refine E.relist (L2 := [⟨b11, 0, cellsI 16 (nextF lens (minL lens) (i + 1))⟩, ⟨b5, 0, cellsI 16 (cntL lens)⟩, ⟨hb, o, [.int .i64 ((0 : Nat) : Int)]⟩, ⟨hb, o + 1, cellsU 512 (fun _ => 0)⟩, ⟨hb, o + 513, [.slice none 0 0, .int .u32 0]⟩, ⟨vb, vo, intsV lens ++ vs⟩]) (congrArg (fun q => ([(⟨b11, 0, q⟩ : Frag), ⟨b5, 0, cellsI 16 (cntL lens)⟩, ⟨hb, o, [.int .i64 ((0 : Nat) : Int)]⟩, ⟨hb, o + 1, cellsU 512 (fun _ => 0)⟩, ⟨hb, o + 513, [.slice none 0 0, .int .u32 0]⟩, ⟨vb, vo, intsV lens ++ vs⟩] : Frags)) (next_set hi1)) ?_
     refine E.keep [0, 1, 5, 6, 7, 10, 11, 12, 73] (env1 := [(0, _), (1, _), (5, _), (6, _), (7, _), (10, _), (11, _), (12, _), (73, _)]) rfl ?_
     refine C.region ?_
     refine E.pure (S.move rfl) rfl ?_
     refine E.pure (S.move rfl) rfl ?_
     refine E.pure (S.ixArr rfl rfl (by omega) Tryd.underlying176 Tryd.sizeOf3) rfl ?_
     refine E.still (S.load 1 (k := i * 1) rfl rfl (cellsI_get (by omega)) Tryd.isAgg3) rfl ?_
     refine E.pure (S.add rfl rfl (N.add64 (by omega))) rfl ?_
     refine E.pure (S.assign rfl) rfl ?_
     refine E.keep [0, 1, 5, 6, 7, 10, 11, 12, 73] (env1 := [(0, _), (1, _), (5, _), (6, _), (7, _), (10, _), (11, _), (12, _), (73, _)]) rfl ?_
     refine C.region ?_
     refine E.pure (S.move rfl) rfl ?_
     refine E.pure (S.add (b := ((1 : Nat) : Int)) rfl rfl (N.add64 (by omega))) rfl ?_
     refine E.pure (S.assign rfl) rfl ?_
     refine E.keep [0, 1, 5, 6, 7, 10, 11, 12, 73] (env1 := [(0, _), (1, _), (5, _), (6, _), (7, _), (10, _), (11, _), (12, _), (73, _)]) rfl ?_
     refine ⟨_, ?_, firstC lens i + cntL lens i, i + 1, rfl, rfl, by omega, by omega, rfl, rfl⟩; omega
    ·
     have hi3 : i = maxL lens + 1 := by omega
     subst hi3
     have hcode : code = firstC lens (maxL lens) + cntL lens (maxL lens) := by
       have h : 2 * code = 2 * (firstC lens (maxL lens) + cntL lens (maxL lens)) := hc
       omega
     subst hcode
     have hfl := first_le (l := lens) (k := maxL lens) hll hm15
     refine C.relist (L2 := [⟨b11, 0, cellsI 16 (nextK lens (minL lens) (maxL lens) 0)⟩, ⟨b5, 0, cellsI 16 (cntL lens)⟩, ⟨hb, o, [.int .i64 ((0 : Nat) : Int)]⟩, ⟨hb, o + 1, cellsU 512 (fun _ => 0)⟩, ⟨hb, o + 513, [.slice none 0 0, .int .u32 0]⟩, ⟨vb, vo, intsV lens ++ vs⟩]) (by rw [next_done]) ?_
     refine C.exit rfl ?_
     refine C.cut (M := fun ee ll => keeps ee [0, 1, 5, 6, 7, 11] = some [(0, .pointer (some ⟨hb, o, none⟩)), (1, .slice (some ⟨vb, vo, none⟩) lens.length vc), (5, .pointer (some ⟨b5, 0, none⟩)), (6, .int .i64 ((minL lens : Nat) : Int)), (7, .int .i64 ((maxL lens : Nat) : Int)), (11, .pointer (some ⟨b11, 0, none⟩))] ∧ ll = [⟨b11, 0, cellsI 16 (nextK lens (minL lens) (maxL lens) 0)⟩, ⟨b5, 0, cellsI 16 (cntL lens)⟩, ⟨hb, o, [.int .i64 ((0 : Nat) : Int)]⟩, ⟨hb, o + 1, cellsU 512 (fun _ => 0)⟩, ⟨hb, o + 513, [.slice none 0 0, .int .u32 0]⟩, ⟨vb, vo, intsV lens ++ vs⟩] ∧ (firstC lens (maxL lens) + cntL lens (maxL lens) = 2 ^ maxL lens ∨ (maxL lens = 1 ∧ firstC lens 1 + cntL lens 1 = 1))) ?_ ?_
     ·
      refine C.seq ?_
      refine C.region ?_
      refine E.pure (S.move rfl) rfl ?_
      refine E.pure (S.move rfl) rfl ?_
      refine E.pure (S.conv rfl Tryd.underlying3 Tryd.underlying92 (N.in_u64 (by omega))) rfl ?_
      refine E.pure (S.shl (a := ((1 : Nat) : Int)) rfl rfl (by omega) (N.shl64 (by rw [Nat.one_shiftLeft]; omega))) rfl ?_
      refine E.reslot (v := .int .i64 ((2 ^ maxL lens : Nat) : Int)) (congrArg (fun q : Nat => Value.int .i64 (q : Int)) (by rw [Nat.one_shiftLeft])) ?_
      refine E.pure (S.ne rfl rfl) rfl ?_
      refine E.pure (S.move rfl) rfl ?_
      refine E.fork (fun g91 => ?_) (fun g91 => ?_)
      ·
       refine E.wanted 91 rfl rfl ?_
       refine E.pure (S.move rfl) rfl ?_
       refine E.wanted 91 rfl rfl ?_
       refine E.pure (S.eq (b := ((1 : Nat) : Int)) rfl rfl) rfl ?_
       refine E.wanted 91 rfl rfl ?_
       refine E.pure (S.move rfl) rfl ?_
       refine E.fork (fun g94 => ?_) (fun g94 => ?_)
       ·
        refine E.wanted 94 rfl rfl ?_
        refine E.pure (S.move rfl) rfl ?_
        refine E.wanted 94 rfl rfl ?_
        refine E.pure (S.eq (b := ((1 : Nat) : Int)) rfl rfl) rfl ?_
        refine E.wanted 91 rfl rfl ?_
        refine E.pure (S.pickT rfl rfl) rfl ?_
        refine E.wanted 91 rfl rfl ?_
        refine E.pure (S.notB rfl) rfl ?_
        refine E.pure (S.pickT rfl rfl) rfl ?_
        refine E.keep [0, 1, 5, 6, 7, 10, 11, 12, 73, 99] (env1 := [(0, _), (1, _), (5, _), (6, _), (7, _), (10, _), (11, _), (12, _), (73, _), (99, _)]) rfl ?_
        first | refine C.ifp rfl (fun h99 => ?_) (fun h99 => ?_) | refine C.cond rfl (fun h99 => ?_) (fun h99 => ?_)
        ·
         refine C.seq ?_
         have hno : ¬ okLens lens := by
           rintro (h | h | ⟨h, h2⟩)
           · omega
           · omega
           · have h3 : firstC lens (maxL lens) + cntL lens (maxL lens) = 1 := by rw [h]; exact h2
             first | omega | (simp at h99; omega)
         refine C.region ?_
         refine E.pure (S.assign rfl) rfl ?_
         refine E.keep [0, 1, 4, 5, 6, 7, 10, 11, 12, 73, 99] (env1 := [(0, _), (1, _), (4, _), (5, _), (6, _), (7, _), (10, _), (11, _), (12, _), (73, _), (99, _)]) rfl ?_
         refine C.ret ?_
         refine ⟨_, rfl, .inr ⟨hno, rfl, hufZ, [⟨b11, 0, cellsI 16 (nextK lens (minL lens) (maxL lens) 0)⟩, ⟨b5, 0, cellsI 16 (cntL lens)⟩], hufZ_len, ?_⟩⟩
         refine (Same.perm (picks_perm (A := [_, _, _, _, _, _]) (F := []) (is := [2, 2, 2, 2, 0, 0]) rfl)).trans ?_
         refine (huf_join hb o [_, _, _]).trans ?_
         exact Same.perm (List.Perm.swap _ _ _)
        ·
         refine C.skip ?_
         exact ⟨rfl, rfl, by first | exact .inl (by omega) | (have h1 : maxL lens = 1 := (by simp at h99; omega); exact .inr ⟨h1, by rw [h1] at g94; omega⟩)⟩
       ·
        refine E.guardNo 94 false rfl rfl rfl rfl ?_
        refine E.guardNo 94 false rfl rfl rfl rfl ?_
        refine E.wanted 91 rfl rfl ?_
        refine E.pure (S.pickF rfl rfl) rfl ?_
        refine E.wanted 91 rfl rfl ?_
        refine E.pure (S.notB rfl) rfl ?_
        refine E.pure (S.pickT rfl rfl) rfl ?_
        refine E.keep [0, 1, 5, 6, 7, 10, 11, 12, 73, 99] (env1 := [(0, _), (1, _), (5, _), (6, _), (7, _), (10, _), (11, _), (12, _), (73, _), (99, _)]) rfl ?_
        refine C.yes rfl (rfl) ?_
        refine C.seq ?_
        have hno : ¬ okLens lens := by
          rintro (h | h | ⟨h, h2⟩)
          · omega
          · omega
          · have h3 : firstC lens (maxL lens) + cntL lens (maxL lens) = 1 := by rw [h]; exact h2
            omega
        refine C.region ?_
        refine E.pure (S.assign rfl) rfl ?_
        refine E.keep [0, 1, 4, 5, 6, 7, 10, 11, 12, 73, 99] (env1 := [(0, _), (1, _), (4, _), (5, _), (6, _), (7, _), (10, _), (11, _), (12, _), (73, _), (99, _)]) rfl ?_
        refine C.ret ?_
        refine ⟨_, rfl, .inr ⟨hno, rfl, hufZ, [⟨b11, 0, cellsI 16 (nextK lens (minL lens) (maxL lens) 0)⟩, ⟨b5, 0, cellsI 16 (cntL lens)⟩], hufZ_len, ?_⟩⟩
        refine (Same.perm (picks_perm (A := [_, _, _, _, _, _]) (F := []) (is := [2, 2, 2, 2, 0, 0]) rfl)).trans ?_
        refine (huf_join hb o [_, _, _]).trans ?_
        exact Same.perm (List.Perm.swap _ _ _)
      ·
       refine E.guardNo 91 false rfl rfl rfl rfl ?_
       refine E.guardNo 91 false rfl rfl rfl rfl ?_
       refine E.guardNo 91 false rfl rfl rfl rfl ?_
       refine E.guardUndef 94 rfl rfl rfl ?_
       refine E.guardUndef 94 rfl rfl rfl ?_
       refine E.guardNo 91 false rfl rfl rfl rfl ?_
       refine E.guardNo 91 false rfl rfl rfl rfl ?_
       refine E.pure (S.pickF rfl rfl) rfl ?_
       refine E.keep [0, 1, 5, 6, 7, 10, 11, 12, 73, 99] (env1 := [(0, _), (1, _), (5, _), (6, _), (7, _), (10, _), (11, _), (12, _), (73, _), (99, _)]) rfl ?_
       refine C.no rfl (rfl) ?_
       refine C.skip ?_
       exact ⟨rfl, rfl, by first | exact .inl (by omega) | (have h1 : maxL lens = 1 := (by simp at h99; omega); exact .inr ⟨h1, by rw [h1] at g94; omega⟩)⟩
     ·
      rintro _ _ ⟨hq27, rfl, hfull⟩
      refine C.weaken _ hq27 ?_
      have hok : okLens lens := .inr hfull
      have hfit := fit_of_ok hok
      obtain ⟨lk, hlk⟩ : ∃ lk, lk = firstC lens 9 + cntL lens 9 := ⟨_, rfl⟩
      refine C.seq ?_
      refine C.region ?_
      refine E.pure (S.move rfl) rfl ?_
      refine E.pure (S.move rfl) rfl ?_
      refine E.pure (S.nilPtr rfl) rfl ?_
      refine E.pure (S.field rfl fa144_0) rfl ?_
      refine E.loud0 (X.store 2 (k := 0) rfl rfl rfl rfl rfl Tryd.sizeOf3) ?_; rintro _ _ ⟨rfl, rfl⟩; refine E.relist (L2 := [_, _, _, _, _, _]) rfl ?_
      refine E.keep [0, 1, 5, 6, 7, 11] (env1 := [(0, _), (1, _), (5, _), (6, _), (7, _), (11, _)]) rfl ?_
      refine C.seq ?_
      refine C.seq ?_
      refine C.region ?_
      refine E.pure (S.move rfl) rfl ?_
      refine E.pure (S.gt (b := ((9 : Nat) : Int)) rfl rfl) rfl ?_
      refine E.keep [0, 1, 5, 6, 7, 11, 105] (env1 := [(0, _), (1, _), (5, _), (6, _), (7, _), (11, _), (105, _)]) rfl ?_
      refine C.ifp rfl (fun h105 => ?_) (fun h105 => ?_)
      ·
       have hlk9 : lk ≤ 512 := by rw [hlk]; exact hfit.at (l := 9) (by omega)
       have hnk : 2 ^ (maxL lens - 9) ≤ 64 := Nat.pow_le_pow_right (by omega) (by omega : maxL lens - 9 ≤ 6)
       have hnk0 : 0 < 2 ^ (maxL lens - 9) := Nat.pow_pos (by omega)
       refine C.seq ?_
       refine C.region ?_
       refine E.pure (S.move rfl) rfl ?_
       refine E.pure (S.conv rfl Tryd.underlying3 Tryd.underlying92 (N.in_u64 (by omega))) rfl ?_
       refine E.pure (S.sub (b := ((9 : Nat) : Int)) rfl rfl (N.sub_u64 (by omega) (by omega))) rfl ?_
       refine E.pure (S.shl (a := ((1 : Nat) : Int)) rfl rfl (by omega) (N.shl64 (by rw [Nat.one_shiftLeft]; omega))) rfl ?_
       refine E.reslot (v := .int .i64 ((2 ^ (maxL lens - 9) : Nat) : Int)) (congrArg (fun q : Nat => Value.int .i64 (q : Int)) (by rw [Nat.one_shiftLeft])) ?_
       refine E.pure (S.assign rfl) rfl ?_
       refine E.keep [0, 1, 5, 6, 7, 11, 13, 105] (env1 := [(0, _), (1, _), (5, _), (6, _), (7, _), (11, _), (13, _), (105, _)]) rfl ?_
       refine C.seq ?_
       refine C.region ?_
       refine E.pure (S.move rfl) rfl ?_
       refine E.pure (S.move rfl) rfl ?_
       refine E.pure (S.sub (b := ((1 : Nat) : Int)) rfl rfl (N.sub64 (by omega) (by omega))) rfl ?_
       refine E.pure (S.conv rfl Tryd.underlying3 Tryd.underlying52 (N.in_u32 (by omega))) rfl ?_
       refine E.pure (S.nilPtr rfl) rfl ?_
       refine E.pure (S.field rfl fa144_3) rfl ?_
       refine E.loud0 (X.store 4 (k := 1) rfl rfl rfl rfl rfl Tryd.sizeOf52) ?_; rintro _ _ ⟨rfl, rfl⟩; refine E.relist (L2 := [_, _, _, _, _, _]) rfl ?_
       refine E.keep [0, 1, 5, 6, 7, 11, 13, 105] (env1 := [(0, _), (1, _), (5, _), (6, _), (7, _), (11, _), (13, _), (105, _)]) rfl ?_
       refine C.seq ?_
       refine C.region ?_
       refine E.pure (S.ixArr (i := 10) rfl rfl (by omega) Tryd.underlying176 Tryd.sizeOf3) rfl ?_
       refine E.still (S.load 0 (k := 10 * 1) rfl rfl (cellsI_get (by omega)) Tryd.isAgg3) rfl ?_
       refine E.pure (S.shr (b := ((1 : Nat) : Int)) rfl rfl (by omega) (N.shr64 (by rw [next_ten (by omega)]; omega) _)) rfl ?_
       refine E.reslot (v := .int .i64 ((lk : Nat) : Int)) (congrArg (fun q : Nat => Value.int .i64 (q : Int)) (by rw [next_ten (by omega), Nat.shiftRight_eq_div_pow]; omega)) ?_
       refine E.pure (S.assign rfl) rfl ?_
       refine E.keep [0, 1, 5, 6, 7, 11, 13, 14, 105] (env1 := [(0, _), (1, _), (5, _), (6, _), (7, _), (11, _), (13, _), (14, _), (105, _)]) rfl ?_
       refine C.seq ?_
       refine C.region ?_
       refine E.pure (S.move rfl) rfl ?_
       refine E.pure (S.move rfl) rfl ?_
       refine E.pure (S.sub (a := ((512 : Nat) : Int)) rfl rfl (N.sub64 (by omega) (by omega))) rfl ?_
       refine E.loud1 (X.make (l := 512 - lk) (c := 512 - lk) (bytes := 24) Tryd.underlying142 infoSlU (z := .slice none 0 0) rfl rfl rfl rfl rfl rfl (Nat.le_refl _) (by omega) (by omega)) rfl ?_; rintro _ _ ⟨kb, rfl, rfl⟩; refine E.relist (L2 := [_, _, _, _, _, _, _]) rfl ?_
       refine E.pure (S.nilPtr rfl) rfl ?_
       refine E.pure (S.field rfl fa144_2) rfl ?_
       refine E.loud0 (X.store 5 (k := 0) rfl rfl rfl rfl rfl Tryd.sizeOf142) ?_; rintro _ _ ⟨rfl, rfl⟩; refine E.relist (L2 := [_, _, _, _, _, _, _]) rfl ?_
       refine E.keep [0, 1, 5, 6, 7, 11, 13, 14, 105] (env1 := [(0, _), (1, _), (5, _), (6, _), (7, _), (11, _), (13, _), (14, _), (105, _)]) rfl ?_
       refine C.seq ?_
       refine C.region ?_
       refine E.pure (S.move rfl) rfl ?_
       refine E.pure (S.conv rfl Tryd.underlying3 Tryd.underlying92 (N.in_u64 (by omega))) rfl ?_
       refine E.pure (S.assign rfl) rfl ?_
       refine E.keep [0, 1, 5, 6, 7, 11, 13, 14, 15, 105] (env1 := [(0, _), (1, _), (5, _), (6, _), (7, _), (11, _), (13, _), (14, _), (15, _), (105, _)]) rfl ?_
       refine C.block ?_
       refine C.loop (fun mm ee ll => ∃ (j : Nat), ∃ (lb : Nat → Nat), keeps ee [0, 1, 6, 7, 11, 13, 14, 15] = some [(0, .pointer (some ⟨hb, o, none⟩)), (1, .slice (some ⟨vb, vo, none⟩) lens.length vc), (6, .int .i64 ((minL lens : Nat) : Int)), (7, .int .i64 ((maxL lens : Nat) : Int)), (11, .pointer (some ⟨b11, 0, none⟩)), (13, .int .i64 ((2 ^ (maxL lens - 9) : Nat) : Int)), (14, .int .i64 ((lk : Nat) : Int)), (15, .int .u64 ((j : Nat) : Int))] ∧ ll = [⟨kb, 0, ((List.range (512 - lk)).map fun a => if a < j - lk then Value.slice (some ⟨lb a, 0, none⟩) (2 ^ (maxL lens - 9)) (2 ^ (maxL lens - 9)) else .slice none 0 0)⟩, ⟨b11, 0, cellsI 16 (nextK lens (minL lens) (maxL lens) 0)⟩, ⟨b5, 0, cellsI 16 (cntL lens)⟩, ⟨hb, o, [.int .i64 ((minL lens : Nat) : Int)]⟩, ⟨hb, o + 1, cellsU 512 (fun x => if lk ≤ revB 9 x ∧ revB 9 x < j then (revB 9 x - lk) * 16 + 10 else 0)⟩, ⟨hb, o + 513, [.slice (some ⟨kb, 0, none⟩) ((512 - lk)) (512 - lk), .int .u32 ((2 ^ (maxL lens - 9) - 1 : Nat) : Int)]⟩, ⟨vb, vo, intsV lens ++ vs⟩] ++ LkF (j - lk) lb (fun _ _ => 0) (2 ^ (maxL lens - 9)) ∧ (lk ≤ j) ∧ (j ≤ 512) ∧ mm = 512 - j) (_) ⟨lk, fun _ => 0, rfl, (by rw [kb_start, lnk_start]; simp [LkF]), by omega, by omega, rfl⟩ ?_
       rintro m2 _ _ ⟨j, lb, hk2, rfl, hj1, hj2, hm2⟩
       refine C.weaken _ hk2 ?_
       refine C.seq ?_
       refine C.seq ?_
       refine C.region ?_
       refine E.pure (S.move rfl) rfl ?_
       refine E.pure (S.lt (b := ((512 : Nat) : Int)) rfl rfl) rfl ?_
       refine E.keep [0, 1, 6, 7, 11, 13, 14, 15, 128] (env1 := [(0, _), (1, _), (6, _), (7, _), (11, _), (13, _), (14, _), (15, _), (128, _)]) rfl ?_
       refine C.ifp rfl (fun h128 => ?_) (fun h128 => ?_)
       ·
        have hj9 : j < 512 := by omega
        have hr16 := revB_lt 16 j
        have hr9 := revB_lt 9 j
        rw [show (2 : Nat) ^ 9 = 512 from rfl] at hr9
        refine C.skip ?_
        refine C.seq ?_
        refine C.block ?_
        refine C.seq ?_
        refine C.region ?_
        refine E.pure (S.move rfl) rfl ?_
        refine E.pure (S.conv rfl Tryd.underlying92 Tryd.underlying120 (N.in_u16 (by omega))) rfl ?_
        refine E.loud1 (OpX.pick [] (F := (_ :: _ :: _ :: _ :: _ :: _ :: _ :: _)) rfl (X.call rfl Tryd.call91 (reverse16_spec _ (by omega)))) rfl ?_; rintro _ _ ⟨_, ⟨rfl, rfl⟩, rfl⟩; refine E.relist (L2 := (_ :: _ :: _ :: _ :: _ :: _ :: _ :: _)) rfl ?_
        refine E.pure (S.conv rfl Tryd.underlying120 Tryd.underlying3 (N.i64n (by omega))) rfl ?_
        refine E.pure (S.assign rfl) rfl ?_
        refine E.keep [0, 1, 6, 7, 11, 13, 14, 15, 16, 128] (env1 := [(0, _), (1, _), (6, _), (7, _), (11, _), (13, _), (14, _), (15, _), (16, _), (128, _)]) rfl ?_
        refine C.seq ?_
        refine C.region ?_
        refine E.pure (S.move rfl) rfl ?_
        refine E.pure (S.shr (b := ((7 : Nat) : Int)) rfl rfl (by omega) (N.shr64 (by omega) _)) rfl ?_
        refine E.reslot (v := .int .i64 ((revB 9 j : Nat) : Int)) (congrArg (fun q : Nat => Value.int .i64 (q : Int)) (by exact revB_sh7 j)) ?_
        refine E.pure (S.assign rfl) rfl ?_
        refine E.keep [0, 1, 6, 7, 11, 13, 14, 15, 16, 128] (env1 := [(0, _), (1, _), (6, _), (7, _), (11, _), (13, _), (14, _), (15, _), (16, _), (128, _)]) rfl ?_
        refine C.seq ?_
        refine C.region ?_
        refine E.pure (S.move rfl) rfl ?_
        refine E.pure (S.move rfl) rfl ?_
        refine E.pure (S.conv rfl Tryd.underlying3 Tryd.underlying92 (N.in_u64 (by omega))) rfl ?_
        refine E.pure (S.sub rfl rfl (N.sub_u64 (by omega) (by omega))) rfl ?_
        refine E.pure (S.assign rfl) rfl ?_
        refine E.keep [0, 1, 6, 7, 11, 13, 14, 15, 16, 17, 128] (env1 := [(0, _), (1, _), (6, _), (7, _), (11, _), (13, _), (14, _), (15, _), (16, _), (17, _), (128, _)]) rfl ?_
        refine C.seq ?_
        refine C.seq ?_
        refine C.region ?_
        refine E.pure (S.move rfl) rfl ?_
        refine E.guardNo 141 false rfl rfl rfl rfl ?_
        refine E.guardNo 141 false rfl rfl rfl rfl ?_
        refine E.guardNo 141 false rfl rfl rfl rfl ?_
        refine E.guardNo 141 false rfl rfl rfl rfl ?_
        refine E.guardNo 141 false rfl rfl rfl rfl ?_
        refine E.guardNo 141 false rfl rfl rfl rfl ?_
        refine E.guardNo 141 false rfl rfl rfl rfl ?_
        refine E.pure (S.pickF rfl rfl) rfl ?_
        refine E.keep [0, 1, 6, 7, 11, 13, 14, 15, 16, 17, 128, 149] (env1 := [(0, _), (1, _), (6, _), (7, _), (11, _), (13, _), (14, _), (15, _), (16, _), (17, _), (128, _), (149, _)]) rfl ?_
        refine C.no rfl (rfl) ?_
        refine C.skip ?_
        refine C.seq ?_
        refine C.region ?_
        refine E.pure (S.move rfl) rfl ?_
        refine E.pure (S.move rfl) rfl ?_
        refine E.pure (S.move rfl) rfl ?_
        refine E.pure (S.shl (b := ((4 : Nat) : Int)) rfl rfl (by omega) (N.shl_u64 _ _)) rfl ?_
        refine E.reslot (v := .int .u64 (((j - lk) * 16 : Nat) : Int)) (congrArg (fun q : Nat => Value.int .u64 (q : Int)) (by rw [Nat.shiftLeft_eq]; omega)) ?_
        refine E.pure (S.or (b := ((10 : Nat) : Int)) rfl rfl (N.or_u64 (by omega) (by omega))) rfl ?_
        refine E.reslot (v := .int .u64 (((j - lk) * 16 + 10 : Nat) : Int)) (congrArg (fun q : Nat => Value.int .u64 (q : Int)) (by exact or16 _ _ (by omega))) ?_
        refine E.pure (S.conv rfl Tryd.underlying92 Tryd.underlying52 (N.in_u32 (by omega))) rfl ?_
        refine E.pure (S.nilPtr rfl) rfl ?_
        refine E.pure (S.field rfl fa144_1) rfl ?_
        refine E.pure (S.ixArr rfl rfl (by omega) Tryd.underlying141 Tryd.sizeOf52) rfl ?_
        refine E.loud0 (X.store 4 (k := revB 9 j * 1) rfl rfl rfl rfl (by rw [Nat.blt_eq, cellsU_length]; omega) Tryd.sizeOf52) ?_
        rintro _ _ ⟨rfl, rfl⟩
        refine E.relist (L2 := (⟨kb, 0, ((List.range (512 - lk)).map fun a => if a < j - lk then Value.slice (some ⟨lb a, 0, none⟩) (2 ^ (maxL lens - 9)) (2 ^ (maxL lens - 9)) else .slice none 0 0)⟩ :: ⟨b11, 0, cellsI 16 (nextK lens (minL lens) (maxL lens) 0)⟩ :: ⟨b5, 0, cellsI 16 (cntL lens)⟩ :: ⟨hb, o, [.int .i64 ((minL lens : Nat) : Int)]⟩ :: ⟨hb, o + 1, cellsU 512 (fun x => if lk ≤ revB 9 x ∧ revB 9 x < (j + 1) then (revB 9 x - lk) * 16 + 10 else 0)⟩ :: ⟨hb, o + 513, [.slice (some ⟨kb, 0, none⟩) ((512 - lk)) (512 - lk), .int .u32 ((2 ^ (maxL lens - 9) - 1 : Nat) : Int)]⟩ :: ⟨vb, vo, intsV lens ++ vs⟩ :: LkF (j - lk) lb (fun _ _ => 0) (2 ^ (maxL lens - 9)))) (congrArg (fun q => ((⟨kb, 0, ((List.range (512 - lk)).map fun a => if a < j - lk then Value.slice (some ⟨lb a, 0, none⟩) (2 ^ (maxL lens - 9)) (2 ^ (maxL lens - 9)) else .slice none 0 0)⟩ :: ⟨b11, 0, cellsI 16 (nextK lens (minL lens) (maxL lens) 0)⟩ :: ⟨b5, 0, cellsI 16 (cntL lens)⟩ :: ⟨hb, o, [.int .i64 ((minL lens : Nat) : Int)]⟩ :: (⟨hb, o + 1, q⟩ : Frag) :: ⟨hb, o + 513, [.slice (some ⟨kb, 0, none⟩) ((512 - lk)) (512 - lk), .int .u32 ((2 ^ (maxL lens - 9) - 1 : Nat) : Int)]⟩ :: ⟨vb, vo, intsV lens ++ vs⟩ :: LkF (j - lk) lb (fun _ _ => 0) (2 ^ (maxL lens - 9))) : Frags)) (lnk_next hj1 hj9)) ?_
        refine E.keep [0, 1, 6, 7, 11, 13, 14, 15, 16, 17, 128, 149] (env1 := [(0, _), (1, _), (6, _), (7, _), (11, _), (13, _), (14, _), (15, _), (16, _), (17, _), (128, _), (149, _)]) rfl ?_
        refine C.draw [0, 1, 2, 4, 0, 0, 32, 127, 255] (.pure 0 112 (.pure 1 113 (.pure 2 115 (.pure 4 111 (.pure 5 31 (.alt 3 (.alt 6 (.pure 7 127 (.alt 8 .done .stop)) .stop) (.alt 6 (.seg [(3, 119), (7, 127)] (.alt 8 .done .stop)) .stop))))))) mixed (by decide +kernel) ?_
        refine D.pure rfl (S.move rfl) rfl ?_
        refine D.pure rfl (S.nilPtr rfl) rfl ?_
        refine D.pure rfl (S.field rfl fa144_2) rfl ?_
        refine D.pure rfl (S.move rfl) rfl ?_
        refine D.pure rfl (S.move rfl) rfl ?_
        refine D.alt ?_ ⟨?_, trivial⟩
        ·
         refine O.still rfl (S.load 5 (k := 0) rfl rfl rfl Tryd.isAgg142) rfl ?_
         refine D.one ?_
         refine O.loud1 rfl (X.make (l := 2 ^ (maxL lens - 9)) (c := 2 ^ (maxL lens - 9)) (bytes := 4) Tryd.underlying178 infoU32 (z := .int .u32 0) rfl rfl rfl rfl rfl rfl (Nat.le_refl _) (by omega) (by omega)) rfl ?_; rintro _ _ ⟨nb, rfl, rfl⟩; refine D.relist (L2 := (_ :: _ :: _ :: _ :: _ :: _ :: _ :: _ :: _)) rfl ?_
         refine D.pure rfl (S.ixSl rfl rfl (by omega) Tryd.underlying142 Tryd.sizeOf178) rfl ?_
         refine D.one ?_
         refine O.loud0 rfl (X.store 1 (k := (j - lk) * 1) rfl rfl rfl rfl (by rw [Nat.blt_eq, List.length_map, List.length_range]; omega) Tryd.sizeOf178) ?_
         rintro _ _ ⟨rfl, rfl⟩
         refine D.relist (L2 := (⟨nb, 0, List.replicate (2 ^ (maxL lens - 9)) (.int .u32 0)⟩ :: ⟨kb, 0, ((List.range (512 - lk)).map fun a => if a < (j + 1) - lk then Value.slice (some ⟨(lbNext lb (j - lk) nb) a, 0, none⟩) (2 ^ (maxL lens - 9)) (2 ^ (maxL lens - 9)) else .slice none 0 0)⟩ :: ⟨b11, 0, cellsI 16 (nextK lens (minL lens) (maxL lens) 0)⟩ :: ⟨b5, 0, cellsI 16 (cntL lens)⟩ :: ⟨hb, o, [.int .i64 ((minL lens : Nat) : Int)]⟩ :: ⟨hb, o + 1, cellsU 512 (fun x => if lk ≤ revB 9 x ∧ revB 9 x < (j + 1) then (revB 9 x - lk) * 16 + 10 else 0)⟩ :: ⟨hb, o + 513, [.slice (some ⟨kb, 0, none⟩) ((512 - lk)) (512 - lk), .int .u32 ((2 ^ (maxL lens - 9) - 1 : Nat) : Int)]⟩ :: ⟨vb, vo, intsV lens ++ vs⟩ :: LkF (j - lk) lb (fun _ _ => 0) (2 ^ (maxL lens - 9)))) (congrArg (fun q => ((⟨nb, 0, List.replicate (2 ^ (maxL lens - 9)) (.int .u32 0)⟩ :: (⟨kb, 0, q⟩ : Frag) :: ⟨b11, 0, cellsI 16 (nextK lens (minL lens) (maxL lens) 0)⟩ :: ⟨b5, 0, cellsI 16 (cntL lens)⟩ :: ⟨hb, o, [.int .i64 ((minL lens : Nat) : Int)]⟩ :: ⟨hb, o + 1, cellsU 512 (fun x => if lk ≤ revB 9 x ∧ revB 9 x < (j + 1) then (revB 9 x - lk) * 16 + 10 else 0)⟩ :: ⟨hb, o + 513, [.slice (some ⟨kb, 0, none⟩) ((512 - lk)) (512 - lk), .int .u32 ((2 ^ (maxL lens - 9) - 1 : Nat) : Int)]⟩ :: ⟨vb, vo, intsV lens ++ vs⟩ :: LkF (j - lk) lb (fun _ _ => 0) (2 ^ (maxL lens - 9))) : Frags)) (kb_next hj1)) ?_
         refine D.keep [0, 1, 6, 7, 11, 13, 14, 15, 16, 17, 128, 149] (env1 := [(0, _), (1, _), (6, _), (7, _), (11, _), (13, _), (14, _), (15, _), (16, _), (17, _), (128, _), (149, _)]) rfl ?_
         refine C.same (L2 := (⟨kb, 0, ((List.range (512 - lk)).map fun a => if a < (j + 1) - lk then Value.slice (some ⟨(lbNext lb (j - lk) nb) a, 0, none⟩) (2 ^ (maxL lens - 9)) (2 ^ (maxL lens - 9)) else .slice none 0 0)⟩ :: ⟨b11, 0, cellsI 16 (nextK lens (minL lens) (maxL lens) 0)⟩ :: ⟨b5, 0, cellsI 16 (cntL lens)⟩ :: ⟨hb, o, [.int .i64 ((minL lens : Nat) : Int)]⟩ :: ⟨hb, o + 1, cellsU 512 (fun x => if lk ≤ revB 9 x ∧ revB 9 x < (j + 1) then (revB 9 x - lk) * 16 + 10 else 0)⟩ :: ⟨hb, o + 513, [.slice (some ⟨kb, 0, none⟩) ((512 - lk)) (512 - lk), .int .u32 ((2 ^ (maxL lens - 9) - 1 : Nat) : Int)]⟩ :: ⟨vb, vo, intsV lens ++ vs⟩ :: LkF ((j + 1) - lk) (lbNext lb (j - lk) nb) (fun _ _ => 0) (2 ^ (maxL lens - 9)))) ?_ ?_
         · have e : LkF (j + 1 - lk) (lbNext lb (j - lk) nb) (fun _ _ => 0) (2 ^ (maxL lens - 9)) = LkF (j - lk) lb (fun _ _ => 0) (2 ^ (maxL lens - 9)) ++ [⟨nb, 0, List.replicate (2 ^ (maxL lens - 9)) (.int .u32 0)⟩] := by
             rw [show j + 1 - lk = (j - lk) + 1 by omega, LkF_more, cellsU_zero]
           rw [e]
           exact Same.perm (List.perm_append_singleton _ _).symm
         refine C.region ?_
         refine E.pure (S.move rfl) rfl ?_
         refine E.pure (S.add (b := ((1 : Nat) : Int)) rfl rfl (N.add_u64 (by omega))) rfl ?_
         refine E.pure (S.assign rfl) rfl ?_
         refine E.keep [0, 1, 6, 7, 11, 13, 14, 15, 16, 17, 128, 149] (env1 := [(0, _), (1, _), (6, _), (7, _), (11, _), (13, _), (14, _), (15, _), (16, _), (17, _), (128, _), (149, _)]) rfl ?_
         refine ⟨_, ?_, j + 1, _, rfl, rfl, by omega, by omega, rfl⟩; omega
        ·
         refine O.loud1 rfl (X.make (l := 2 ^ (maxL lens - 9)) (c := 2 ^ (maxL lens - 9)) (bytes := 4) Tryd.underlying178 infoU32 (z := .int .u32 0) rfl rfl rfl rfl rfl rfl (Nat.le_refl _) (by omega) (by omega)) rfl ?_; rintro _ _ ⟨nb, rfl, rfl⟩; refine D.relist (L2 := (_ :: _ :: _ :: _ :: _ :: _ :: _ :: _ :: _)) rfl ?_
         refine D.seg (by decide) ?_
         refine W.still rfl (S.load 6 (k := 0) rfl rfl rfl Tryd.isAgg142) rfl ?_
         refine W.pure rfl (S.ixSl rfl rfl (by omega) Tryd.underlying142 Tryd.sizeOf178) rfl ?_
         refine W.nil ?_
         refine D.one ?_
         refine O.loud0 rfl (X.store 1 (k := (j - lk) * 1) rfl rfl rfl rfl (by rw [Nat.blt_eq, List.length_map, List.length_range]; omega) Tryd.sizeOf178) ?_
         rintro _ _ ⟨rfl, rfl⟩
         refine D.relist (L2 := (⟨nb, 0, List.replicate (2 ^ (maxL lens - 9)) (.int .u32 0)⟩ :: ⟨kb, 0, ((List.range (512 - lk)).map fun a => if a < (j + 1) - lk then Value.slice (some ⟨(lbNext lb (j - lk) nb) a, 0, none⟩) (2 ^ (maxL lens - 9)) (2 ^ (maxL lens - 9)) else .slice none 0 0)⟩ :: ⟨b11, 0, cellsI 16 (nextK lens (minL lens) (maxL lens) 0)⟩ :: ⟨b5, 0, cellsI 16 (cntL lens)⟩ :: ⟨hb, o, [.int .i64 ((minL lens : Nat) : Int)]⟩ :: ⟨hb, o + 1, cellsU 512 (fun x => if lk ≤ revB 9 x ∧ revB 9 x < (j + 1) then (revB 9 x - lk) * 16 + 10 else 0)⟩ :: ⟨hb, o + 513, [.slice (some ⟨kb, 0, none⟩) ((512 - lk)) (512 - lk), .int .u32 ((2 ^ (maxL lens - 9) - 1 : Nat) : Int)]⟩ :: ⟨vb, vo, intsV lens ++ vs⟩ :: LkF (j - lk) lb (fun _ _ => 0) (2 ^ (maxL lens - 9)))) (congrArg (fun q => ((⟨nb, 0, List.replicate (2 ^ (maxL lens - 9)) (.int .u32 0)⟩ :: (⟨kb, 0, q⟩ : Frag) :: ⟨b11, 0, cellsI 16 (nextK lens (minL lens) (maxL lens) 0)⟩ :: ⟨b5, 0, cellsI 16 (cntL lens)⟩ :: ⟨hb, o, [.int .i64 ((minL lens : Nat) : Int)]⟩ :: ⟨hb, o + 1, cellsU 512 (fun x => if lk ≤ revB 9 x ∧ revB 9 x < (j + 1) then (revB 9 x - lk) * 16 + 10 else 0)⟩ :: ⟨hb, o + 513, [.slice (some ⟨kb, 0, none⟩) ((512 - lk)) (512 - lk), .int .u32 ((2 ^ (maxL lens - 9) - 1 : Nat) : Int)]⟩ :: ⟨vb, vo, intsV lens ++ vs⟩ :: LkF (j - lk) lb (fun _ _ => 0) (2 ^ (maxL lens - 9))) : Frags)) (kb_next hj1)) ?_
         refine D.keep [0, 1, 6, 7, 11, 13, 14, 15, 16, 17, 128, 149] (env1 := [(0, _), (1, _), (6, _), (7, _), (11, _), (13, _), (14, _), (15, _), (16, _), (17, _), (128, _), (149, _)]) rfl ?_
         refine C.same (L2 := (⟨kb, 0, ((List.range (512 - lk)).map fun a => if a < (j + 1) - lk then Value.slice (some ⟨(lbNext lb (j - lk) nb) a, 0, none⟩) (2 ^ (maxL lens - 9)) (2 ^ (maxL lens - 9)) else .slice none 0 0)⟩ :: ⟨b11, 0, cellsI 16 (nextK lens (minL lens) (maxL lens) 0)⟩ :: ⟨b5, 0, cellsI 16 (cntL lens)⟩ :: ⟨hb, o, [.int .i64 ((minL lens : Nat) : Int)]⟩ :: ⟨hb, o + 1, cellsU 512 (fun x => if lk ≤ revB 9 x ∧ revB 9 x < (j + 1) then (revB 9 x - lk) * 16 + 10 else 0)⟩ :: ⟨hb, o + 513, [.slice (some ⟨kb, 0, none⟩) ((512 - lk)) (512 - lk), .int .u32 ((2 ^ (maxL lens - 9) - 1 : Nat) : Int)]⟩ :: ⟨vb, vo, intsV lens ++ vs⟩ :: LkF ((j + 1) - lk) (lbNext lb (j - lk) nb) (fun _ _ => 0) (2 ^ (maxL lens - 9)))) ?_ ?_
         · have e : LkF (j + 1 - lk) (lbNext lb (j - lk) nb) (fun _ _ => 0) (2 ^ (maxL lens - 9)) = LkF (j - lk) lb (fun _ _ => 0) (2 ^ (maxL lens - 9)) ++ [⟨nb, 0, List.replicate (2 ^ (maxL lens - 9)) (.int .u32 0)⟩] := by
             rw [show j + 1 - lk = (j - lk) + 1 by omega, LkF_more, cellsU_zero]
           rw [e]
           exact Same.perm (List.perm_append_singleton _ _).symm
         refine C.region ?_
         refine E.pure (S.move rfl) rfl ?_
         refine E.pure (S.add (b := ((1 : Nat) : Int)) rfl rfl (N.add_u64 (by omega))) rfl ?_
         refine E.pure (S.assign rfl) rfl ?_
         refine E.keep [0, 1, 6, 7, 11, 13, 14, 15, 16, 17, 128, 149] (env1 := [(0, _), (1, _), (6, _), (7, _), (11, _), (13, _), (14, _), (15, _), (16, _), (17, _), (128, _), (149, _)]) rfl ?_
         refine ⟨_, ?_, j + 1, _, rfl, rfl, by omega, by omega, rfl⟩; omega
       ·
        have hj9 : j = 512 := by omega
        subst hj9
        refine C.relist (L2 := (⟨kb, 0, lkCells (512 - lk) lb (2 ^ (maxL lens - 9))⟩ :: ⟨b11, 0, cellsI 16 (nextK lens (minL lens) (maxL lens) 0)⟩ :: ⟨b5, 0, cellsI 16 (cntL lens)⟩ :: ⟨hb, o, [.int .i64 ((minL lens : Nat) : Int)]⟩ :: ⟨hb, o + 1, cellsU 512 (fun x => if lk ≤ revB 9 x ∧ revB 9 x < 512 then (revB 9 x - lk) * 16 + 10 else 0)⟩ :: ⟨hb, o + 513, [.slice (some ⟨kb, 0, none⟩) ((512 - lk)) (512 - lk), .int .u32 ((2 ^ (maxL lens - 9) - 1 : Nat) : Int)]⟩ :: ⟨vb, vo, intsV lens ++ vs⟩ :: LkF (512 - lk) lb (fun _ _ => 0) (2 ^ (maxL lens - 9)))) (by rw [kb_end]; rfl) ?_
        refine C.exit rfl ?_
        refine C.seq ?_
        refine C.seq ?_
        refine C.region ?_
        refine E.pure (S.move rfl) rfl ?_
        refine E.pure (S.lenSl rfl Tryd.underlying39) rfl ?_
        refine E.pure (S.move rfl) rfl ?_
        refine E.keep [0, 1, 6, 7, 11, 13, 14, 15, 128, 168, 169, 170] (env1 := [(0, _), (1, _), (6, _), (7, _), (11, _), (13, _), (14, _), (15, _), (128, _), (168, _), (169, _), (170, _)]) rfl ?_
        refine C.block ?_
        refine C.loop (fun mm ee ll => ∃ (k : Nat), ∃ (f : Nat → Nat), ∃ (g : Nat → Nat → Nat), keeps ee [0, 1, 6, 7, 11, 168, 169, 170] = some [(0, .pointer (some ⟨hb, o, none⟩)), (1, .slice (some ⟨vb, vo, none⟩) lens.length vc), (6, .int .i64 ((minL lens : Nat) : Int)), (7, .int .i64 ((maxL lens : Nat) : Int)), (11, .pointer (some ⟨b11, 0, none⟩)), (168, .slice (some ⟨vb, vo, none⟩) lens.length vc), (169, .int .i64 ((lens.length : Nat) : Int)), (170, .int .i64 ((k : Nat) : Int))] ∧ ll = [⟨kb, 0, lkCells (512 - lk) lb (2 ^ (maxL lens - 9))⟩, ⟨b11, 0, cellsI 16 (nextK lens (minL lens) (maxL lens) k)⟩, ⟨b5, 0, cellsI 16 (cntL lens)⟩, ⟨hb, o, [.int .i64 ((minL lens : Nat) : Int)]⟩, ⟨hb, o + 1, cellsU 512 f⟩, ⟨hb, o + 513, [.slice (some ⟨kb, 0, none⟩) ((512 - lk)) (512 - lk), .int .u32 ((2 ^ (maxL lens - 9) - 1 : Nat) : Int)]⟩, ⟨vb, vo, intsV lens ++ vs⟩] ++ LkF (512 - lk) lb g (2 ^ (maxL lens - 9)) ∧ (k ≤ lens.length) ∧ (TabP lens (maxL lens) lk (2 ^ (maxL lens - 9)) k f g) ∧ (∀ x, x < 512 → f x < 65536) ∧ (∀ a q, g a q < 65536) ∧ mm = lens.length - k) (_) ⟨0, _, fun _ _ => 0, rfl, rfl, by omega, link_full hlk9 h105, link_lt hlk9, fun _ _ => (by decide : 0 < 65536), rfl⟩ ?_
        rintro m3 _ _ ⟨k, f, g, hk3, rfl, hk, hT, hfb, hgb, hm3⟩
        refine C.weaken _ hk3 ?_
        refine C.seq ?_
        refine C.region ?_
        refine E.pure (S.lt rfl rfl) rfl ?_
        refine E.keep [0, 1, 6, 7, 11, 168, 169, 170, 171] (env1 := [(0, _), (1, _), (6, _), (7, _), (11, _), (168, _), (169, _), (170, _), (171, _)]) rfl ?_
        refine C.seq ?_
        refine C.ifp rfl (fun h171 => ?_) (fun h171 => ?_)
        ·
         have hk2 : k < lens.length := by omega
         have hel := lenOf_get hk2
         have hn15 : lenOf lens k ≤ 15 := by rw [hel]; exact h15 _ (List.getElem_mem hk2)
         refine C.skip ?_
         refine C.seq ?_
         refine C.block ?_
         refine C.seq ?_
         refine C.region ?_
         refine E.pure (S.move rfl) rfl ?_
         refine E.pure (S.ixSl rfl rfl (by omega) Tryd.underlying39 Tryd.sizeOf3) rfl ?_
         refine E.still (S.load 6 (k := k * 1) rfl rfl (intsV_get hk2) Tryd.isAgg3) rfl ?_
         refine E.reslot (v := .int .i64 ((lenOf lens k : Nat) : Int)) (by rw [hel]) ?_
         refine E.pure (S.assign rfl) rfl ?_
         refine E.pure (S.assign rfl) rfl ?_
         refine E.keep [0, 1, 6, 7, 11, 18, 19, 168, 169, 170, 171] (env1 := [(0, _), (1, _), (6, _), (7, _), (11, _), (18, _), (19, _), (168, _), (169, _), (170, _), (171, _)]) rfl ?_
         refine C.seq ?_
         refine C.seq ?_
         refine C.region ?_
         refine E.pure (S.move rfl) rfl ?_
         refine E.pure (S.eq (b := ((0 : Nat) : Int)) rfl rfl) rfl ?_
         refine E.keep [0, 1, 6, 7, 11, 18, 19, 168, 169, 170, 171, 176] (env1 := [(0, _), (1, _), (6, _), (7, _), (11, _), (18, _), (19, _), (168, _), (169, _), (170, _), (171, _), (176, _)]) rfl ?_
         refine C.ifp rfl (fun h176 => ?_) (fun h176 => ?_)
         ·
          have hT2 := hT.skip (by omega)
          have hfb2 := hfb
          have hgb2 := hgb
          refine C.relist (L2 := (⟨kb, 0, lkCells (512 - lk) lb (2 ^ (maxL lens - 9))⟩ :: ⟨b11, 0, cellsI 16 (nextK lens (minL lens) (maxL lens) (k + 1))⟩ :: ⟨b5, 0, cellsI 16 (cntL lens)⟩ :: ⟨hb, o, [.int .i64 ((minL lens : Nat) : Int)]⟩ :: ⟨hb, o + 1, cellsU 512 f⟩ :: ⟨hb, o + 513, [.slice (some ⟨kb, 0, none⟩) ((512 - lk)) (512 - lk), .int .u32 ((2 ^ (maxL lens - 9) - 1 : Nat) : Int)]⟩ :: ⟨vb, vo, intsV lens ++ vs⟩ :: LkF (512 - lk) lb g (2 ^ (maxL lens - 9)))) (by rw [nextK_zero (k := k) hk2 (by omega) hmp.1]; try rfl) ?_
          refine C.exit rfl ?_
          refine C.region ?_
          refine E.pure (S.add (b := ((1 : Nat) : Int)) rfl rfl (N.add64 (by omega))) rfl ?_
          refine E.pure (S.move rfl) rfl ?_
          refine E.keep [0, 1, 6, 7, 11, 18, 19, 168, 169, 170, 171, 176] (env1 := [(0, _), (1, _), (6, _), (7, _), (11, _), (18, _), (19, _), (168, _), (169, _), (170, _), (171, _), (176, _)]) rfl ?_
          refine ⟨_, ?_, k + 1, _, _, rfl, rfl, by omega, hT2, hfb2, hgb2, rfl⟩; omega
         ·
          have hmn1 : minL lens ≤ (lenOf lens k) := by rw [hel]; exact (minL_spec lens).2.1 _ (List.getElem_mem hk2) (by omega)
          have hmx1 : (lenOf lens k) ≤ maxL lens := lenOf_le_max lens k
          have hcb : codeOf lens k < 2 ^ (lenOf lens k) := codeOf_bound hfit (by omega)
          have hp15 : 2 ^ (lenOf lens k) ≤ 2 ^ 15 := Nat.pow_le_pow_right (by omega) hn15
          have hrn := revB_lt (lenOf lens k) (codeOf lens k)
          have hr16 := revB_lt 16 (codeOf lens k)
          refine C.skip ?_
          refine C.seq ?_
          refine C.region ?_
          refine E.pure (S.move rfl) rfl ?_
          refine E.pure (S.ixArr rfl rfl (by omega) Tryd.underlying176 Tryd.sizeOf3) rfl ?_
          refine E.still (S.load 1 (k := (lenOf lens k) * 1) rfl rfl (cellsI_get (by omega)) Tryd.isAgg3) rfl ?_
          refine E.reslot (v := .int .i64 ((codeOf lens k : Nat) : Int)) (congrArg (fun q : Nat => Value.int .i64 (q : Int)) (by exact nextK_at hmn1 hmx1)) ?_
          refine E.pure (S.assign rfl) rfl ?_
          refine E.keep [0, 1, 6, 7, 11, 18, 19, 20, 168, 169, 170, 171, 176] (env1 := [(0, _), (1, _), (6, _), (7, _), (11, _), (18, _), (19, _), (20, _), (168, _), (169, _), (170, _), (171, _), (176, _)]) rfl ?_
          refine C.seq ?_
          refine C.region ?_
          refine E.pure (S.move rfl) rfl ?_
          refine E.pure (S.ixArr rfl rfl (by omega) Tryd.underlying176 Tryd.sizeOf3) rfl ?_
          refine E.still (S.load 1 (k := (lenOf lens k) * 1) rfl rfl (cellsI_get (by omega)) Tryd.isAgg3) rfl ?_
          refine E.reslot (v := .int .i64 ((codeOf lens k : Nat) : Int)) (congrArg (fun q : Nat => Value.int .i64 (q : Int)) (by exact nextK_at hmn1 hmx1)) ?_
          refine E.pure (S.add (b := ((1 : Nat) : Int)) rfl rfl (N.add64 (by omega))) rfl ?_
          refine E.pure (S.ixArr rfl rfl (by omega) Tryd.underlying176 Tryd.sizeOf3) rfl ?_
          refine E.loud0 (X.store 1 (k := (lenOf lens k) * 1) rfl rfl rfl rfl (by rw [Nat.blt_eq, cellsI_length]; omega) Tryd.sizeOf3) ?_
          rintro _ _ ⟨rfl, rfl⟩
          refine E.relist (L2 := (⟨kb, 0, lkCells (512 - lk) lb (2 ^ (maxL lens - 9))⟩ :: ⟨b11, 0, cellsI 16 (nextK lens (minL lens) (maxL lens) (k + 1))⟩ :: ⟨b5, 0, cellsI 16 (cntL lens)⟩ :: ⟨hb, o, [.int .i64 ((minL lens : Nat) : Int)]⟩ :: ⟨hb, o + 1, cellsU 512 f⟩ :: ⟨hb, o + 513, [.slice (some ⟨kb, 0, none⟩) ((512 - lk)) (512 - lk), .int .u32 ((2 ^ (maxL lens - 9) - 1 : Nat) : Int)]⟩ :: ⟨vb, vo, intsV lens ++ vs⟩ :: LkF (512 - lk) lb g (2 ^ (maxL lens - 9)))) (congrArg (fun q => ((⟨kb, 0, lkCells (512 - lk) lb (2 ^ (maxL lens - 9))⟩ :: (⟨b11, 0, q⟩ : Frag) :: ⟨b5, 0, cellsI 16 (cntL lens)⟩ :: ⟨hb, o, [.int .i64 ((minL lens : Nat) : Int)]⟩ :: ⟨hb, o + 1, cellsU 512 f⟩ :: ⟨hb, o + 513, [.slice (some ⟨kb, 0, none⟩) ((512 - lk)) (512 - lk), .int .u32 ((2 ^ (maxL lens - 9) - 1 : Nat) : Int)]⟩ :: ⟨vb, vo, intsV lens ++ vs⟩ :: LkF (512 - lk) lb g (2 ^ (maxL lens - 9))) : Frags)) (nextK_more hk2 hmn1 hmx1)) ?_
          refine E.keep [0, 1, 6, 7, 11, 18, 19, 20, 168, 169, 170, 171, 176] (env1 := [(0, _), (1, _), (6, _), (7, _), (11, _), (18, _), (19, _), (20, _), (168, _), (169, _), (170, _), (171, _), (176, _)]) rfl ?_
          refine C.seq ?_
          refine C.region ?_
          refine E.pure (S.move rfl) rfl ?_
          refine E.pure (S.shl (b := ((4 : Nat) : Int)) rfl rfl (by omega) (N.shl64 (by rw [Nat.shiftLeft_eq]; omega))) rfl ?_
          refine E.reslot (v := .int .i64 ((k * 16 : Nat) : Int)) (congrArg (fun q : Nat => Value.int .i64 (q : Int)) (by rw [Nat.shiftLeft_eq])) ?_
          refine E.pure (S.move rfl) rfl ?_
          refine E.pure (S.or rfl rfl (N.or64 (by omega) (by omega))) rfl ?_
          refine E.reslot (v := .int .i64 ((k * 16 + (lenOf lens k) : Nat) : Int)) (congrArg (fun q : Nat => Value.int .i64 (q : Int)) (by exact or16 _ _ (by omega))) ?_
          refine E.pure (S.conv rfl Tryd.underlying3 Tryd.underlying52 (N.in_u32 (by omega))) rfl ?_
          refine E.pure (S.assign rfl) rfl ?_
          refine E.keep [0, 1, 6, 7, 11, 18, 19, 20, 21, 168, 169, 170, 171, 176] (env1 := [(0, _), (1, _), (6, _), (7, _), (11, _), (18, _), (19, _), (20, _), (21, _), (168, _), (169, _), (170, _), (171, _), (176, _)]) rfl ?_
          refine C.seq ?_
          refine C.region ?_
          refine E.pure (S.move rfl) rfl ?_
          refine E.pure (S.conv rfl Tryd.underlying3 Tryd.underlying120 (N.in_u16 (by omega))) rfl ?_
          refine E.loud1 (OpX.pick [] (F := (_ :: _ :: _ :: _ :: _ :: _ :: _ :: _)) rfl (X.call rfl Tryd.call91 (reverse16_spec _ (by omega)))) rfl ?_; rintro _ _ ⟨_, ⟨rfl, rfl⟩, rfl⟩; refine E.relist (L2 := (_ :: _ :: _ :: _ :: _ :: _ :: _ :: _)) rfl ?_
          refine E.pure (S.conv rfl Tryd.underlying120 Tryd.underlying3 (N.i64n (by omega))) rfl ?_
          refine E.pure (S.assign rfl) rfl ?_
          refine E.keep [0, 1, 6, 7, 11, 18, 19, 20, 21, 22, 168, 169, 170, 171, 176] (env1 := [(0, _), (1, _), (6, _), (7, _), (11, _), (18, _), (19, _), (20, _), (21, _), (22, _), (168, _), (169, _), (170, _), (171, _), (176, _)]) rfl ?_
          refine C.seq ?_
          refine C.region ?_
          refine E.pure (S.move rfl) rfl ?_
          refine E.pure (S.move rfl) rfl ?_
          refine E.pure (S.sub (a := ((16 : Nat) : Int)) rfl rfl (N.sub64 (by omega) (by omega))) rfl ?_
          refine E.pure (S.conv rfl Tryd.underlying3 Tryd.underlying92 (N.in_u64 (by omega))) rfl ?_
          refine E.pure (S.shr rfl rfl (by omega) (N.shr64 (by omega) _)) rfl ?_
          refine E.reslot (v := .int .i64 ((revB (lenOf lens k) (codeOf lens k) : Nat) : Int)) (congrArg (fun q : Nat => Value.int .i64 (q : Int)) (by exact revB_sh _ (by omega))) ?_
          refine E.pure (S.assign rfl) rfl ?_
          refine E.keep [0, 1, 6, 7, 11, 18, 19, 20, 21, 22, 168, 169, 170, 171, 176] (env1 := [(0, _), (1, _), (6, _), (7, _), (11, _), (18, _), (19, _), (20, _), (21, _), (22, _), (168, _), (169, _), (170, _), (171, _), (176, _)]) rfl ?_
          refine C.seq ?_
          refine C.region ?_
          refine E.pure (S.move rfl) rfl ?_
          refine E.pure (S.le (b := ((9 : Nat) : Int)) rfl rfl) rfl ?_
          refine E.keep [0, 1, 6, 7, 11, 18, 19, 20, 21, 22, 168, 169, 170, 171, 176, 200] (env1 := [(0, _), (1, _), (6, _), (7, _), (11, _), (18, _), (19, _), (20, _), (21, _), (22, _), (168, _), (169, _), (170, _), (171, _), (176, _), (200, _)]) rfl ?_
          refine C.ifp rfl (fun h200 => ?_) (fun h200 => ?_)
          ·
           have hp9 : 2 ^ (lenOf lens k) ≤ 2 ^ 9 := Nat.pow_le_pow_right (by omega) (by omega)
           have hp0 : 0 < 2 ^ (lenOf lens k) := Nat.pow_pos (by omega)
           refine C.seq ?_
           refine C.region ?_
           refine E.pure (S.move rfl) rfl ?_
           refine E.pure (S.assign rfl) rfl ?_
           refine E.keep [0, 1, 6, 7, 11, 18, 19, 20, 21, 22, 23, 168, 169, 170, 171, 176, 200] (env1 := [(0, _), (1, _), (6, _), (7, _), (11, _), (18, _), (19, _), (20, _), (21, _), (22, _), (23, _), (168, _), (169, _), (170, _), (171, _), (176, _), (200, _)]) rfl ?_
           refine C.block ?_
           refine C.relist (L2 := (⟨kb, 0, lkCells (512 - lk) lb (2 ^ (maxL lens - 9))⟩ :: ⟨b11, 0, cellsI 16 (nextK lens (minL lens) (maxL lens) (k + 1))⟩ :: ⟨b5, 0, cellsI 16 (cntL lens)⟩ :: ⟨hb, o, [.int .i64 ((minL lens : Nat) : Int)]⟩ :: ⟨hb, o + 1, cellsU 512 (fun x => if x < revB (lenOf lens k) (codeOf lens k) ∧ x % 2 ^ (lenOf lens k) = revB (lenOf lens k) (codeOf lens k) then k * 16 + (lenOf lens k) else f x)⟩ :: ⟨hb, o + 513, [.slice (some ⟨kb, 0, none⟩) ((512 - lk)) (512 - lk), .int .u32 ((2 ^ (maxL lens - 9) - 1 : Nat) : Int)]⟩ :: ⟨vb, vo, intsV lens ++ vs⟩ :: LkF (512 - lk) lb g (2 ^ (maxL lens - 9)))) (by rw [fill_zero (k := k) (n := (lenOf lens k)) (c := codeOf lens k) (f := f) _ rfl]; try rfl) ?_
           refine C.loop (fun mm ee ll => ∃ (off : Nat), keeps ee [0, 1, 6, 7, 11, 168, 169, 170, 19, 21, 23] = some [(0, .pointer (some ⟨hb, o, none⟩)), (1, .slice (some ⟨vb, vo, none⟩) lens.length vc), (6, .int .i64 ((minL lens : Nat) : Int)), (7, .int .i64 ((maxL lens : Nat) : Int)), (11, .pointer (some ⟨b11, 0, none⟩)), (168, .slice (some ⟨vb, vo, none⟩) lens.length vc), (169, .int .i64 ((lens.length : Nat) : Int)), (170, .int .i64 ((k : Nat) : Int)), (19, .int .i64 (((lenOf lens k) : Nat) : Int)), (21, .int .u32 ((k * 16 + (lenOf lens k) : Nat) : Int)), (23, .int .i64 ((off : Nat) : Int))] ∧ ll = [⟨kb, 0, lkCells (512 - lk) lb (2 ^ (maxL lens - 9))⟩, ⟨b11, 0, cellsI 16 (nextK lens (minL lens) (maxL lens) (k + 1))⟩, ⟨b5, 0, cellsI 16 (cntL lens)⟩, ⟨hb, o, [.int .i64 ((minL lens : Nat) : Int)]⟩, ⟨hb, o + 1, cellsU 512 (fun x => if x < off ∧ x % 2 ^ (lenOf lens k) = revB (lenOf lens k) (codeOf lens k) then k * 16 + (lenOf lens k) else f x)⟩, ⟨hb, o + 513, [.slice (some ⟨kb, 0, none⟩) ((512 - lk)) (512 - lk), .int .u32 ((2 ^ (maxL lens - 9) - 1 : Nat) : Int)]⟩, ⟨vb, vo, intsV lens ++ vs⟩] ++ LkF (512 - lk) lb g (2 ^ (maxL lens - 9)) ∧ (off % 2 ^ (lenOf lens k) = revB (lenOf lens k) (codeOf lens k)) ∧ (off < 1024) ∧ mm = 1024 - off) (_) ⟨revB (lenOf lens k) (codeOf lens k), rfl, rfl, Nat.mod_eq_of_lt (revB_lt _ _), by omega, rfl⟩ ?_
           rintro m4 _ _ ⟨off, hk4, rfl, hoff, ho9, hm4⟩
           refine C.weaken _ hk4 ?_
           refine C.seq ?_
           refine C.seq ?_
           refine C.region ?_
           refine E.pure (S.move rfl) rfl ?_
           refine E.pure (S.lt (b := ((512 : Nat) : Int)) rfl rfl) rfl ?_
           refine E.keep [0, 1, 6, 7, 11, 19, 21, 23, 168, 169, 170, 203] (env1 := [(0, _), (1, _), (6, _), (7, _), (11, _), (19, _), (21, _), (23, _), (168, _), (169, _), (170, _), (203, _)]) rfl ?_
           refine C.ifp rfl (fun h203 => ?_) (fun h203 => ?_)
           ·
            refine C.skip ?_
            refine C.seq ?_
            refine C.block ?_
            refine C.seq ?_
            refine C.seq ?_
            refine C.region ?_
            refine E.pure (S.move rfl) rfl ?_
            refine E.guardNo 209 false rfl rfl rfl rfl ?_
            refine E.guardNo 209 false rfl rfl rfl rfl ?_
            refine E.guardNo 209 false rfl rfl rfl rfl ?_
            refine E.guardNo 209 false rfl rfl rfl rfl ?_
            refine E.guardNo 209 false rfl rfl rfl rfl ?_
            refine E.guardNo 209 false rfl rfl rfl rfl ?_
            refine E.guardNo 209 false rfl rfl rfl rfl ?_
            refine E.pure (S.pickF rfl rfl) rfl ?_
            refine E.keep [0, 1, 6, 7, 11, 19, 21, 23, 168, 169, 170, 203, 217] (env1 := [(0, _), (1, _), (6, _), (7, _), (11, _), (19, _), (21, _), (23, _), (168, _), (169, _), (170, _), (203, _), (217, _)]) rfl ?_
            refine C.no rfl (rfl) ?_
            refine C.skip ?_
            refine C.region ?_
            refine E.pure (S.move rfl) rfl ?_
            refine E.pure (S.move rfl) rfl ?_
            refine E.pure (S.move rfl) rfl ?_
            refine E.pure (S.nilPtr rfl) rfl ?_
            refine E.pure (S.field rfl fa144_1) rfl ?_
            refine E.pure (S.ixArr rfl rfl (by omega) Tryd.underlying141 Tryd.sizeOf52) rfl ?_
            refine E.loud0 (X.store 4 (k := off * 1) rfl rfl rfl rfl (by rw [Nat.blt_eq, cellsU_length]; omega) Tryd.sizeOf52) ?_
            rintro _ _ ⟨rfl, rfl⟩
            refine E.relist (L2 := (⟨kb, 0, lkCells (512 - lk) lb (2 ^ (maxL lens - 9))⟩ :: ⟨b11, 0, cellsI 16 (nextK lens (minL lens) (maxL lens) (k + 1))⟩ :: ⟨b5, 0, cellsI 16 (cntL lens)⟩ :: ⟨hb, o, [.int .i64 ((minL lens : Nat) : Int)]⟩ :: ⟨hb, o + 1, cellsU 512 (fun x => if x < off + 2 ^ (lenOf lens k) ∧ x % 2 ^ (lenOf lens k) = revB (lenOf lens k) (codeOf lens k) then k * 16 + (lenOf lens k) else f x)⟩ :: ⟨hb, o + 513, [.slice (some ⟨kb, 0, none⟩) ((512 - lk)) (512 - lk), .int .u32 ((2 ^ (maxL lens - 9) - 1 : Nat) : Int)]⟩ :: ⟨vb, vo, intsV lens ++ vs⟩ :: LkF (512 - lk) lb g (2 ^ (maxL lens - 9)))) (congrArg (fun q => ((⟨kb, 0, lkCells (512 - lk) lb (2 ^ (maxL lens - 9))⟩ :: ⟨b11, 0, cellsI 16 (nextK lens (minL lens) (maxL lens) (k + 1))⟩ :: ⟨b5, 0, cellsI 16 (cntL lens)⟩ :: ⟨hb, o, [.int .i64 ((minL lens : Nat) : Int)]⟩ :: (⟨hb, o + 1, q⟩ : Frag) :: ⟨hb, o + 513, [.slice (some ⟨kb, 0, none⟩) ((512 - lk)) (512 - lk), .int .u32 ((2 ^ (maxL lens - 9) - 1 : Nat) : Int)]⟩ :: ⟨vb, vo, intsV lens ++ vs⟩ :: LkF (512 - lk) lb g (2 ^ (maxL lens - 9))) : Frags)) (fill_next hoff)) ?_
            refine E.keep [0, 1, 6, 7, 11, 19, 21, 23, 168, 169, 170, 203, 217] (env1 := [(0, _), (1, _), (6, _), (7, _), (11, _), (19, _), (21, _), (23, _), (168, _), (169, _), (170, _), (203, _), (217, _)]) rfl ?_
            refine C.region ?_
            refine E.pure (S.move rfl) rfl ?_
            refine E.pure (S.move rfl) rfl ?_
            refine E.pure (S.conv rfl Tryd.underlying3 Tryd.underlying92 (N.in_u64 (by omega))) rfl ?_
            refine E.pure (S.shl (a := ((1 : Nat) : Int)) rfl rfl (by omega) (N.shl64 (by rw [Nat.one_shiftLeft]; omega))) rfl ?_
            refine E.reslot (v := .int .i64 ((2 ^ (lenOf lens k) : Nat) : Int)) (congrArg (fun q : Nat => Value.int .i64 (q : Int)) (by rw [Nat.one_shiftLeft])) ?_
            refine E.pure (S.add rfl rfl (N.add64 (by omega))) rfl ?_
            refine E.pure (S.assign rfl) rfl ?_
            refine E.keep [0, 1, 6, 7, 11, 19, 21, 23, 168, 169, 170, 203, 217] (env1 := [(0, _), (1, _), (6, _), (7, _), (11, _), (19, _), (21, _), (23, _), (168, _), (169, _), (170, _), (203, _), (217, _)]) rfl ?_
            refine ⟨_, ?_, off + 2 ^ (lenOf lens k), rfl, rfl, by rw [Nat.add_mod_right]; exact hoff, by omega, rfl⟩; omega
           ·
            have hT2 := hT.addShort hfit (by omega) (by omega) (f' := (fun x => if x < off ∧ x % 2 ^ (lenOf lens k) = revB (lenOf lens k) (codeOf lens k) then k * 16 + (lenOf lens k) else f x)) (fun x hx he => if_pos ⟨by omega, he⟩) (fun x hx he => if_neg (fun h => he h.2))
            have hfb2 : ∀ x, x < 512 → (fun x => if x < off ∧ x % 2 ^ (lenOf lens k) = revB (lenOf lens k) (codeOf lens k) then k * 16 + (lenOf lens k) else f x) x < 65536 := fun x hx => by
              simp only
              split
              · omega
              · exact hfb x hx
            have hgb2 := hgb
            refine C.exit rfl ?_
            refine C.region ?_
            refine E.pure (S.add (b := ((1 : Nat) : Int)) rfl rfl (N.add64 (by omega))) rfl ?_
            refine E.pure (S.move rfl) rfl ?_
            refine E.keep [0, 1, 6, 7, 11, 19, 21, 23, 168, 169, 170, 203] (env1 := [(0, _), (1, _), (6, _), (7, _), (11, _), (19, _), (21, _), (23, _), (168, _), (169, _), (170, _), (203, _)]) rfl ?_
            refine ⟨_, ?_, k + 1, _, _, rfl, rfl, by omega, hT2, hfb2, hgb2, rfl⟩; omega
          ·
           obtain ⟨hal, hhi, hrl⟩ := hT.at_link hfit hlk (by omega)
           have hge := hi_ge hlk (lens := lens) (s := k) (by omega)
           have hr9 := revB_lt 9 (codeOf lens k / 2 ^ ((lenOf lens k) - 9))
           rw [show (2 : Nat) ^ 9 = 512 from rfl] at hr9
           have hpl : 2 ^ ((lenOf lens k) - 9) ≤ 2 ^ 6 := Nat.pow_le_pow_right (by omega) (by omega)
           have hpl0 : 0 < 2 ^ ((lenOf lens k) - 9) := Nat.pow_pos (by omega)
           have hpn : 2 ^ ((lenOf lens k) - 9) ≤ 2 ^ (maxL lens - 9) := Nat.pow_le_pow_right (by omega) (by omega)
           refine C.seq ?_
           refine C.region ?_
           refine E.pure (S.move rfl) rfl ?_
           refine E.pure (S.and (b := ((511 : Nat) : Int)) rfl rfl (N.and64 (by omega) (by omega))) rfl ?_
           refine E.reslot (v := .int .i64 ((revB 9 (codeOf lens k / 2 ^ ((lenOf lens k) - 9)) : Nat) : Int)) (congrArg (fun q : Nat => Value.int .i64 (q : Int)) (by rw [and511]; exact rev_parts (by omega) hcb)) ?_
           refine E.pure (S.assign rfl) rfl ?_
           refine E.keep [0, 1, 6, 7, 11, 18, 19, 20, 21, 22, 24, 168, 169, 170, 171, 176, 200] (env1 := [(0, _), (1, _), (6, _), (7, _), (11, _), (18, _), (19, _), (20, _), (21, _), (22, _), (24, _), (168, _), (169, _), (170, _), (171, _), (176, _), (200, _)]) rfl ?_
           refine C.seq ?_
           refine C.seq ?_
           refine C.region ?_
           refine E.pure (S.move rfl) rfl ?_
           refine E.guardNo 227 false rfl rfl rfl rfl ?_
           refine E.guardNo 227 false rfl rfl rfl rfl ?_
           refine E.guardNo 227 false rfl rfl rfl rfl ?_
           refine E.guardNo 227 false rfl rfl rfl rfl ?_
           refine E.guardNo 227 false rfl rfl rfl rfl ?_
           refine E.guardNo 227 false rfl rfl rfl rfl ?_
           refine E.guardNo 227 false rfl rfl rfl rfl ?_
           refine E.guardNo 227 false rfl rfl rfl rfl ?_
           refine E.pure (S.pickF rfl rfl) rfl ?_
           refine E.keep [0, 1, 6, 7, 11, 18, 19, 20, 21, 22, 24, 168, 169, 170, 171, 176, 200, 236] (env1 := [(0, _), (1, _), (6, _), (7, _), (11, _), (18, _), (19, _), (20, _), (21, _), (22, _), (24, _), (168, _), (169, _), (170, _), (171, _), (176, _), (200, _), (236, _)]) rfl ?_
           refine C.no rfl (rfl) ?_
           refine C.skip ?_
           refine C.seq ?_
           refine C.region ?_
           refine E.pure (S.move rfl) rfl ?_
           refine E.pure (S.move rfl) rfl ?_
           refine E.pure (S.nilPtr rfl) rfl ?_
           refine E.pure (S.field rfl fa144_1) rfl ?_
           refine E.pure (S.ixArr rfl rfl (by omega) Tryd.underlying141 Tryd.sizeOf52) rfl ?_
           refine E.still (S.load 4 (k := revB 9 (codeOf lens k / 2 ^ ((lenOf lens k) - 9)) * 1) rfl rfl (cellsU_get hr9) Tryd.isAgg52) rfl ?_
           refine E.pure (S.shr (b := ((4 : Nat) : Int)) rfl rfl (by omega) (N.shr_u32 (by omega) _)) rfl ?_
           refine E.reslot (v := .int .u32 (((codeOf lens k / 2 ^ ((lenOf lens k) - 9)) - lk : Nat) : Int)) (congrArg (fun q : Nat => Value.int .u32 (q : Int)) (by rw [hal, Nat.shiftRight_eq_div_pow]; omega)) ?_
           refine E.pure (S.assign rfl) rfl ?_
           refine E.keep [0, 1, 6, 7, 11, 18, 19, 20, 21, 22, 24, 25, 168, 169, 170, 171, 176, 200, 236] (env1 := [(0, _), (1, _), (6, _), (7, _), (11, _), (18, _), (19, _), (20, _), (21, _), (22, _), (24, _), (25, _), (168, _), (169, _), (170, _), (171, _), (176, _), (200, _), (236, _)]) rfl ?_
           refine C.seq ?_
           refine C.region ?_
           refine E.pure (S.move rfl) rfl ?_
           refine E.pure (S.nilPtr rfl) rfl ?_
           refine E.pure (S.field rfl fa144_2) rfl ?_
           refine E.still (S.load 5 (k := 0) rfl rfl rfl Tryd.isAgg142) rfl ?_
           refine E.pure (S.move rfl) rfl ?_
           refine E.pure (S.ixSl rfl rfl (by omega) Tryd.underlying142 Tryd.sizeOf178) rfl ?_
           refine E.still (S.load 0 (k := ((codeOf lens k / 2 ^ ((lenOf lens k) - 9)) - lk) * 1) rfl rfl (lk_get (by omega)) Tryd.isAgg178) rfl ?_
           refine E.pure (S.assign rfl) rfl ?_
           refine E.keep [0, 1, 6, 7, 11, 18, 19, 20, 21, 22, 24, 25, 26, 168, 169, 170, 171, 176, 200, 236] (env1 := [(0, _), (1, _), (6, _), (7, _), (11, _), (18, _), (19, _), (20, _), (21, _), (22, _), (24, _), (25, _), (26, _), (168, _), (169, _), (170, _), (171, _), (176, _), (200, _), (236, _)]) rfl ?_
           refine C.seq ?_
           refine C.region ?_
           refine E.pure (S.move rfl) rfl ?_
           refine E.pure (S.shr (b := ((9 : Nat) : Int)) rfl rfl (by omega) (N.shr64 (by omega) _)) rfl ?_
           refine E.reslot (v := .int .i64 ((revB (lenOf lens k) (codeOf lens k) / 512 : Nat) : Int)) (congrArg (fun q : Nat => Value.int .i64 (q : Int)) (by rw [Nat.shiftRight_eq_div_pow])) ?_
           refine E.pure (S.assign rfl) rfl ?_
           refine E.keep [0, 1, 6, 7, 11, 18, 19, 20, 21, 22, 24, 25, 26, 168, 169, 170, 171, 176, 200, 236] (env1 := [(0, _), (1, _), (6, _), (7, _), (11, _), (18, _), (19, _), (20, _), (21, _), (22, _), (24, _), (25, _), (26, _), (168, _), (169, _), (170, _), (171, _), (176, _), (200, _), (236, _)]) rfl ?_
           refine C.seq ?_
           refine C.region ?_
           refine E.pure (S.move rfl) rfl ?_
           refine E.pure (S.assign rfl) rfl ?_
           refine E.keep [0, 1, 6, 7, 11, 18, 19, 20, 21, 22, 24, 25, 26, 27, 168, 169, 170, 171, 176, 200, 236] (env1 := [(0, _), (1, _), (6, _), (7, _), (11, _), (18, _), (19, _), (20, _), (21, _), (22, _), (24, _), (25, _), (26, _), (27, _), (168, _), (169, _), (170, _), (171, _), (176, _), (200, _), (236, _)]) rfl ?_
           refine C.block ?_
           refine C.relist (L2 := (⟨kb, 0, lkCells (512 - lk) lb (2 ^ (maxL lens - 9))⟩ :: ⟨b11, 0, cellsI 16 (nextK lens (minL lens) (maxL lens) (k + 1))⟩ :: ⟨b5, 0, cellsI 16 (cntL lens)⟩ :: ⟨hb, o, [.int .i64 ((minL lens : Nat) : Int)]⟩ :: ⟨hb, o + 1, cellsU 512 f⟩ :: ⟨hb, o + 513, [.slice (some ⟨kb, 0, none⟩) ((512 - lk)) (512 - lk), .int .u32 ((2 ^ (maxL lens - 9) - 1 : Nat) : Int)]⟩ :: ⟨vb, vo, intsV lens ++ vs⟩ :: LkF (512 - lk) lb (fun a q => if a = (codeOf lens k / 2 ^ ((lenOf lens k) - 9)) - lk ∧ q < revB (lenOf lens k) (codeOf lens k) / 512 ∧ q % 2 ^ ((lenOf lens k) - 9) = revB (lenOf lens k) (codeOf lens k) / 512 then k * 16 + (lenOf lens k) else g a q) (2 ^ (maxL lens - 9)))) (by rw [filll_zero (lk := lk) (h := (codeOf lens k / 2 ^ ((lenOf lens k) - 9)) - lk) (v := k * 16 + (lenOf lens k)) (g := g) hrl]; try rfl) ?_
           refine C.loop (fun mm ee ll => ∃ (off : Nat), keeps ee [0, 1, 6, 7, 11, 168, 169, 170, 19, 21, 26, 27] = some [(0, .pointer (some ⟨hb, o, none⟩)), (1, .slice (some ⟨vb, vo, none⟩) lens.length vc), (6, .int .i64 ((minL lens : Nat) : Int)), (7, .int .i64 ((maxL lens : Nat) : Int)), (11, .pointer (some ⟨b11, 0, none⟩)), (168, .slice (some ⟨vb, vo, none⟩) lens.length vc), (169, .int .i64 ((lens.length : Nat) : Int)), (170, .int .i64 ((k : Nat) : Int)), (19, .int .i64 (((lenOf lens k) : Nat) : Int)), (21, .int .u32 ((k * 16 + (lenOf lens k) : Nat) : Int)), (26, .slice (some ⟨lb ((codeOf lens k / 2 ^ ((lenOf lens k) - 9)) - lk), 0, none⟩) (2 ^ (maxL lens - 9)) (2 ^ (maxL lens - 9))), (27, .int .i64 ((off : Nat) : Int))] ∧ ll = [⟨kb, 0, lkCells (512 - lk) lb (2 ^ (maxL lens - 9))⟩, ⟨b11, 0, cellsI 16 (nextK lens (minL lens) (maxL lens) (k + 1))⟩, ⟨b5, 0, cellsI 16 (cntL lens)⟩, ⟨hb, o, [.int .i64 ((minL lens : Nat) : Int)]⟩, ⟨hb, o + 1, cellsU 512 f⟩, ⟨hb, o + 513, [.slice (some ⟨kb, 0, none⟩) ((512 - lk)) (512 - lk), .int .u32 ((2 ^ (maxL lens - 9) - 1 : Nat) : Int)]⟩, ⟨vb, vo, intsV lens ++ vs⟩] ++ LkF (512 - lk) lb (fun a q => if a = (codeOf lens k / 2 ^ ((lenOf lens k) - 9)) - lk ∧ q < off ∧ q % 2 ^ ((lenOf lens k) - 9) = revB (lenOf lens k) (codeOf lens k) / 512 then k * 16 + (lenOf lens k) else g a q) (2 ^ (maxL lens - 9)) ∧ (off % 2 ^ ((lenOf lens k) - 9) = revB (lenOf lens k) (codeOf lens k) / 512) ∧ (off < 128) ∧ mm = 128 - off) (_) ⟨revB (lenOf lens k) (codeOf lens k) / 512, rfl, rfl, Nat.mod_eq_of_lt hrl, by omega, rfl⟩ ?_
           rintro m5 _ _ ⟨off, hk5, rfl, hoff, ho9, hm5⟩
           refine C.weaken _ hk5 ?_
           refine C.seq ?_
           refine C.seq ?_
           refine C.region ?_
           refine E.pure (S.move rfl) rfl ?_
           refine E.pure (S.move rfl) rfl ?_
           refine E.pure (S.lenSl rfl Tryd.underlying178) rfl ?_
           refine E.pure (S.lt rfl rfl) rfl ?_
           refine E.keep [0, 1, 6, 7, 11, 19, 21, 26, 27, 168, 169, 170, 258] (env1 := [(0, _), (1, _), (6, _), (7, _), (11, _), (19, _), (21, _), (26, _), (27, _), (168, _), (169, _), (170, _), (258, _)]) rfl ?_
           refine C.ifp rfl (fun h258 => ?_) (fun h258 => ?_)
           ·
            refine C.skip ?_
            refine C.seq ?_
            refine C.block ?_
            refine C.seq ?_
            refine C.seq ?_
            refine C.region ?_
            refine E.pure (S.move rfl) rfl ?_
            refine E.guardNo 265 false rfl rfl rfl rfl ?_
            refine E.guardNo 265 false rfl rfl rfl rfl ?_
            refine E.guardNo 265 false rfl rfl rfl rfl ?_
            refine E.guardNo 265 false rfl rfl rfl rfl ?_
            refine E.guardNo 265 false rfl rfl rfl rfl ?_
            refine E.pure (S.pickF rfl rfl) rfl ?_
            refine E.keep [0, 1, 6, 7, 11, 19, 21, 26, 27, 168, 169, 170, 258, 271] (env1 := [(0, _), (1, _), (6, _), (7, _), (11, _), (19, _), (21, _), (26, _), (27, _), (168, _), (169, _), (170, _), (258, _), (271, _)]) rfl ?_
            refine C.no rfl (rfl) ?_
            refine C.skip ?_
            refine C.region ?_
            refine E.pure (S.move rfl) rfl ?_
            refine E.pure (S.move rfl) rfl ?_
            refine E.pure (S.move rfl) rfl ?_
            refine E.pure (S.ixSl rfl rfl (by omega) Tryd.underlying178 Tryd.sizeOf52) rfl ?_
            refine E.loud0 (X.store (((codeOf lens k / 2 ^ ((lenOf lens k) - 9)) - lk) + 7) (k := off * 1) (LkF_get (by omega)) rfl rfl rfl (by rw [Nat.blt_eq, cellsU_length]; omega) Tryd.sizeOf52) ?_
            rintro _ _ ⟨rfl, rfl⟩
            refine E.relist (L2 := (⟨kb, 0, lkCells (512 - lk) lb (2 ^ (maxL lens - 9))⟩ :: ⟨b11, 0, cellsI 16 (nextK lens (minL lens) (maxL lens) (k + 1))⟩ :: ⟨b5, 0, cellsI 16 (cntL lens)⟩ :: ⟨hb, o, [.int .i64 ((minL lens : Nat) : Int)]⟩ :: ⟨hb, o + 1, cellsU 512 f⟩ :: ⟨hb, o + 513, [.slice (some ⟨kb, 0, none⟩) ((512 - lk)) (512 - lk), .int .u32 ((2 ^ (maxL lens - 9) - 1 : Nat) : Int)]⟩ :: ⟨vb, vo, intsV lens ++ vs⟩ :: LkF (512 - lk) lb (fun a q => if a = (codeOf lens k / 2 ^ ((lenOf lens k) - 9)) - lk ∧ q < off + 2 ^ ((lenOf lens k) - 9) ∧ q % 2 ^ ((lenOf lens k) - 9) = revB (lenOf lens k) (codeOf lens k) / 512 then k * 16 + (lenOf lens k) else g a q) (2 ^ (maxL lens - 9)))) (congrArg (fun q => ((⟨kb, 0, lkCells (512 - lk) lb (2 ^ (maxL lens - 9))⟩ :: ⟨b11, 0, cellsI 16 (nextK lens (minL lens) (maxL lens) (k + 1))⟩ :: ⟨b5, 0, cellsI 16 (cntL lens)⟩ :: ⟨hb, o, [.int .i64 ((minL lens : Nat) : Int)]⟩ :: ⟨hb, o + 1, cellsU 512 f⟩ :: ⟨hb, o + 513, [.slice (some ⟨kb, 0, none⟩) ((512 - lk)) (512 - lk), .int .u32 ((2 ^ (maxL lens - 9) - 1 : Nat) : Int)]⟩ :: ⟨vb, vo, intsV lens ++ vs⟩ :: q) : Frags)) (filll_next hoff)) ?_
            refine E.keep [0, 1, 6, 7, 11, 19, 21, 26, 27, 168, 169, 170, 258, 271] (env1 := [(0, _), (1, _), (6, _), (7, _), (11, _), (19, _), (21, _), (26, _), (27, _), (168, _), (169, _), (170, _), (258, _), (271, _)]) rfl ?_
            refine C.region ?_
            refine E.pure (S.move rfl) rfl ?_
            refine E.pure (S.move rfl) rfl ?_
            refine E.pure (S.sub (b := ((9 : Nat) : Int)) rfl rfl (N.sub64 (by omega) (by omega))) rfl ?_
            refine E.pure (S.conv rfl Tryd.underlying3 Tryd.underlying92 (N.in_u64 (by omega))) rfl ?_
            refine E.pure (S.shl (a := ((1 : Nat) : Int)) rfl rfl (by omega) (N.shl64 (by rw [Nat.one_shiftLeft]; omega))) rfl ?_
            refine E.reslot (v := .int .i64 ((2 ^ ((lenOf lens k) - 9) : Nat) : Int)) (congrArg (fun q : Nat => Value.int .i64 (q : Int)) (by rw [Nat.one_shiftLeft])) ?_
            refine E.pure (S.add rfl rfl (N.add64 (by omega))) rfl ?_
            refine E.pure (S.assign rfl) rfl ?_
            refine E.keep [0, 1, 6, 7, 11, 19, 21, 26, 27, 168, 169, 170, 258, 271] (env1 := [(0, _), (1, _), (6, _), (7, _), (11, _), (19, _), (21, _), (26, _), (27, _), (168, _), (169, _), (170, _), (258, _), (271, _)]) rfl ?_
            refine ⟨_, ?_, off + 2 ^ ((lenOf lens k) - 9), rfl, rfl, by rw [Nat.add_mod_right]; exact hoff, by omega, rfl⟩; omega
           ·
            have hT2 := hT.addLong hfit hlk (by omega) (g' := (fun a q => if a = (codeOf lens k / 2 ^ ((lenOf lens k) - 9)) - lk ∧ q < off ∧ q % 2 ^ ((lenOf lens k) - 9) = revB (lenOf lens k) (codeOf lens k) / 512 then k * 16 + (lenOf lens k) else g a q)) (fun q hq he => if_pos ⟨rfl, by omega, he⟩) (fun a q h => if_neg (fun h2 => h.elim (fun h3 => h3 h2.1) (fun h3 => h3 h2.2.2)))
            have hfb2 := hfb
            have hgb2 : ∀ a q, (fun a q => if a = (codeOf lens k / 2 ^ ((lenOf lens k) - 9)) - lk ∧ q < off ∧ q % 2 ^ ((lenOf lens k) - 9) = revB (lenOf lens k) (codeOf lens k) / 512 then k * 16 + (lenOf lens k) else g a q) a q < 65536 := fun a q => by
              simp only
              split
              · omega
              · exact hgb a q
            refine C.exit rfl ?_
            refine C.region ?_
            refine E.pure (S.add (b := ((1 : Nat) : Int)) rfl rfl (N.add64 (by omega))) rfl ?_
            refine E.pure (S.move rfl) rfl ?_
            refine E.keep [0, 1, 6, 7, 11, 19, 21, 26, 27, 168, 169, 170, 258] (env1 := [(0, _), (1, _), (6, _), (7, _), (11, _), (19, _), (21, _), (26, _), (27, _), (168, _), (169, _), (170, _), (258, _)]) rfl ?_
            refine ⟨_, ?_, k + 1, _, _, rfl, rfl, by omega, hT2, hfb2, hgb2, rfl⟩; omega
        ·
         have hk2 : k = lens.length := by omega
         subst hk2
         refine C.exit rfl ?_
         refine C.seq ?_
         refine C.no rfl (rfl) ?_
         refine C.skip ?_
         refine C.seq ?_
         refine C.region ?_
         refine E.pure (S.assign rfl) rfl ?_
         refine E.keep [0, 1, 4, 6, 7, 11, 168, 169, 170, 171] (env1 := [(0, _), (1, _), (4, _), (6, _), (7, _), (11, _), (168, _), (169, _), (170, _), (171, _)]) rfl ?_
         refine C.ret ?_
         refine ⟨_, rfl, .inl ⟨hok, rfl, _, [⟨b11, 0, cellsI 16 (nextK lens (minL lens) (maxL lens) lens.length)⟩, ⟨b5, 0, cellsI 16 (cntL lens)⟩], big_res (lb := lb) (kb := kb) (tab_ok hfit rfl hlk (hfull.imp id (fun h => h.1)) hm15 rfl hT) hfb hgb hnk0 hnk ⟨_, rfl⟩ hmp.1, ?_⟩⟩
         refine (Same.perm (picks_perm (A := [_, _, _, _, _]) (F := _ :: _ :: _) (is := [6, 3, 3, 3, 0]) rfl)).trans ?_
         exact Same.perm (List.Perm.append_left [_, _, _, _, _] (List.perm_append_comm (l₁ := [_, _])))
      ·
       refine C.skip ?_
       refine C.seq ?_
       refine C.seq ?_
       refine C.region ?_
       refine E.pure (S.move rfl) rfl ?_
       refine E.pure (S.lenSl rfl Tryd.underlying39) rfl ?_
       refine E.pure (S.move rfl) rfl ?_
       refine E.keep [0, 1, 5, 6, 7, 11, 105, 168, 169, 170] (env1 := [(0, _), (1, _), (5, _), (6, _), (7, _), (11, _), (105, _), (168, _), (169, _), (170, _)]) rfl ?_
       refine C.block ?_
       refine C.loop (fun mm ee ll => ∃ (k : Nat), ∃ (f : Nat → Nat), keeps ee [0, 1, 6, 7, 11, 168, 169, 170] = some [(0, .pointer (some ⟨hb, o, none⟩)), (1, .slice (some ⟨vb, vo, none⟩) lens.length vc), (6, .int .i64 ((minL lens : Nat) : Int)), (7, .int .i64 ((maxL lens : Nat) : Int)), (11, .pointer (some ⟨b11, 0, none⟩)), (168, .slice (some ⟨vb, vo, none⟩) lens.length vc), (169, .int .i64 ((lens.length : Nat) : Int)), (170, .int .i64 ((k : Nat) : Int))] ∧ ll = [⟨b11, 0, cellsI 16 (nextK lens (minL lens) (maxL lens) k)⟩, ⟨b5, 0, cellsI 16 (cntL lens)⟩, ⟨hb, o, [.int .i64 ((minL lens : Nat) : Int)]⟩, ⟨hb, o + 1, cellsU 512 f⟩, ⟨hb, o + 513, [.slice none 0 0, .int .u32 0]⟩, ⟨vb, vo, intsV lens ++ vs⟩] ∧ (k ≤ lens.length) ∧ (TabP lens (maxL lens) lk (2 ^ (maxL lens - 9)) k f (fun _ _ => 0)) ∧ (∀ x, x < 512 → f x < 65536) ∧ mm = lens.length - k) (_) ⟨0, _, rfl, rfl, by omega, link_none h105, fun _ _ => (by decide : 0 < 65536), rfl⟩ ?_
       rintro m6 _ _ ⟨k, f, hk6, rfl, hk, hT, hfb, hm6⟩
       refine C.weaken _ hk6 ?_
       refine C.seq ?_
       refine C.region ?_
       refine E.pure (S.lt rfl rfl) rfl ?_
       refine E.keep [0, 1, 6, 7, 11, 168, 169, 170, 171] (env1 := [(0, _), (1, _), (6, _), (7, _), (11, _), (168, _), (169, _), (170, _), (171, _)]) rfl ?_
       refine C.seq ?_
       refine C.ifp rfl (fun h171 => ?_) (fun h171 => ?_)
       ·
        have hk2 : k < lens.length := by omega
        have hel := lenOf_get hk2
        have hn15 : lenOf lens k ≤ 15 := by rw [hel]; exact h15 _ (List.getElem_mem hk2)
        refine C.skip ?_
        refine C.seq ?_
        refine C.block ?_
        refine C.seq ?_
        refine C.region ?_
        refine E.pure (S.move rfl) rfl ?_
        refine E.pure (S.ixSl rfl rfl (by omega) Tryd.underlying39 Tryd.sizeOf3) rfl ?_
        refine E.still (S.load 5 (k := k * 1) rfl rfl (intsV_get hk2) Tryd.isAgg3) rfl ?_
        refine E.reslot (v := .int .i64 ((lenOf lens k : Nat) : Int)) (by rw [hel]) ?_
        refine E.pure (S.assign rfl) rfl ?_
        refine E.pure (S.assign rfl) rfl ?_
        refine E.keep [0, 1, 6, 7, 11, 18, 19, 168, 169, 170, 171] (env1 := [(0, _), (1, _), (6, _), (7, _), (11, _), (18, _), (19, _), (168, _), (169, _), (170, _), (171, _)]) rfl ?_
        refine C.seq ?_
        refine C.seq ?_
        refine C.region ?_
        refine E.pure (S.move rfl) rfl ?_
        refine E.pure (S.eq (b := ((0 : Nat) : Int)) rfl rfl) rfl ?_
        refine E.keep [0, 1, 6, 7, 11, 18, 19, 168, 169, 170, 171, 176] (env1 := [(0, _), (1, _), (6, _), (7, _), (11, _), (18, _), (19, _), (168, _), (169, _), (170, _), (171, _), (176, _)]) rfl ?_
        refine C.ifp rfl (fun h176 => ?_) (fun h176 => ?_)
        ·
         have hT2 := hT.skip (by omega)
         have hfb2 := hfb
         refine C.relist (L2 := [⟨b11, 0, cellsI 16 (nextK lens (minL lens) (maxL lens) (k + 1))⟩, ⟨b5, 0, cellsI 16 (cntL lens)⟩, ⟨hb, o, [.int .i64 ((minL lens : Nat) : Int)]⟩, ⟨hb, o + 1, cellsU 512 f⟩, ⟨hb, o + 513, [.slice none 0 0, .int .u32 0]⟩, ⟨vb, vo, intsV lens ++ vs⟩]) (by rw [nextK_zero (k := k) hk2 (by omega) hmp.1]; try rfl) ?_
         refine C.exit rfl ?_
         refine C.region ?_
         refine E.pure (S.add (b := ((1 : Nat) : Int)) rfl rfl (N.add64 (by omega))) rfl ?_
         refine E.pure (S.move rfl) rfl ?_
         refine E.keep [0, 1, 6, 7, 11, 18, 19, 168, 169, 170, 171, 176] (env1 := [(0, _), (1, _), (6, _), (7, _), (11, _), (18, _), (19, _), (168, _), (169, _), (170, _), (171, _), (176, _)]) rfl ?_
         refine ⟨_, ?_, k + 1, _, rfl, rfl, by omega, hT2, hfb2, rfl⟩; omega
        ·
         have hmn1 : minL lens ≤ (lenOf lens k) := by rw [hel]; exact (minL_spec lens).2.1 _ (List.getElem_mem hk2) (by omega)
         have hmx1 : (lenOf lens k) ≤ maxL lens := lenOf_le_max lens k
         have hcb : codeOf lens k < 2 ^ (lenOf lens k) := codeOf_bound hfit (by omega)
         have hp15 : 2 ^ (lenOf lens k) ≤ 2 ^ 15 := Nat.pow_le_pow_right (by omega) hn15
         have hrn := revB_lt (lenOf lens k) (codeOf lens k)
         have hr16 := revB_lt 16 (codeOf lens k)
         refine C.skip ?_
         refine C.seq ?_
         refine C.region ?_
         refine E.pure (S.move rfl) rfl ?_
         refine E.pure (S.ixArr rfl rfl (by omega) Tryd.underlying176 Tryd.sizeOf3) rfl ?_
         refine E.still (S.load 0 (k := (lenOf lens k) * 1) rfl rfl (cellsI_get (by omega)) Tryd.isAgg3) rfl ?_
         refine E.reslot (v := .int .i64 ((codeOf lens k : Nat) : Int)) (congrArg (fun q : Nat => Value.int .i64 (q : Int)) (by exact nextK_at hmn1 hmx1)) ?_
         refine E.pure (S.assign rfl) rfl ?_
         refine E.keep [0, 1, 6, 7, 11, 18, 19, 20, 168, 169, 170, 171, 176] (env1 := [(0, _), (1, _), (6, _), (7, _), (11, _), (18, _), (19, _), (20, _), (168, _), (169, _), (170, _), (171, _), (176, _)]) rfl ?_
         refine C.seq ?_
         refine C.region ?_
         refine E.pure (S.move rfl) rfl ?_
         refine E.pure (S.ixArr rfl rfl (by omega) Tryd.underlying176 Tryd.sizeOf3) rfl ?_
         refine E.still (S.load 0 (k := (lenOf lens k) * 1) rfl rfl (cellsI_get (by omega)) Tryd.isAgg3) rfl ?_
         refine E.reslot (v := .int .i64 ((codeOf lens k : Nat) : Int)) (congrArg (fun q : Nat => Value.int .i64 (q : Int)) (by exact nextK_at hmn1 hmx1)) ?_
         refine E.pure (S.add (b := ((1 : Nat) : Int)) rfl rfl (N.add64 (by omega))) rfl ?_
         refine E.pure (S.ixArr rfl rfl (by omega) Tryd.underlying176 Tryd.sizeOf3) rfl ?_
         refine E.loud0 (X.store 0 (k := (lenOf lens k) * 1) rfl rfl rfl rfl (by rw [Nat.blt_eq, cellsI_length]; omega) Tryd.sizeOf3) ?_
         rintro _ _ ⟨rfl, rfl⟩
         refine E.relist (L2 := [⟨b11, 0, cellsI 16 (nextK lens (minL lens) (maxL lens) (k + 1))⟩, ⟨b5, 0, cellsI 16 (cntL lens)⟩, ⟨hb, o, [.int .i64 ((minL lens : Nat) : Int)]⟩, ⟨hb, o + 1, cellsU 512 f⟩, ⟨hb, o + 513, [.slice none 0 0, .int .u32 0]⟩, ⟨vb, vo, intsV lens ++ vs⟩]) (congrArg (fun q => ([(⟨b11, 0, q⟩ : Frag), ⟨b5, 0, cellsI 16 (cntL lens)⟩, ⟨hb, o, [.int .i64 ((minL lens : Nat) : Int)]⟩, ⟨hb, o + 1, cellsU 512 f⟩, ⟨hb, o + 513, [.slice none 0 0, .int .u32 0]⟩, ⟨vb, vo, intsV lens ++ vs⟩] : Frags)) (nextK_more hk2 hmn1 hmx1)) ?_
         refine E.keep [0, 1, 6, 7, 11, 18, 19, 20, 168, 169, 170, 171, 176] (env1 := [(0, _), (1, _), (6, _), (7, _), (11, _), (18, _), (19, _), (20, _), (168, _), (169, _), (170, _), (171, _), (176, _)]) rfl ?_
         refine C.seq ?_
         refine C.region ?_
         refine E.pure (S.move rfl) rfl ?_
         refine E.pure (S.shl (b := ((4 : Nat) : Int)) rfl rfl (by omega) (N.shl64 (by rw [Nat.shiftLeft_eq]; omega))) rfl ?_
         refine E.reslot (v := .int .i64 ((k * 16 : Nat) : Int)) (congrArg (fun q : Nat => Value.int .i64 (q : Int)) (by rw [Nat.shiftLeft_eq])) ?_
         refine E.pure (S.move rfl) rfl ?_
         refine E.pure (S.or rfl rfl (N.or64 (by omega) (by omega))) rfl ?_
         refine E.reslot (v := .int .i64 ((k * 16 + (lenOf lens k) : Nat) : Int)) (congrArg (fun q : Nat => Value.int .i64 (q : Int)) (by exact or16 _ _ (by omega))) ?_
         refine E.pure (S.conv rfl Tryd.underlying3 Tryd.underlying52 (N.in_u32 (by omega))) rfl ?_
         refine E.pure (S.assign rfl) rfl ?_
         refine E.keep [0, 1, 6, 7, 11, 18, 19, 20, 21, 168, 169, 170, 171, 176] (env1 := [(0, _), (1, _), (6, _), (7, _), (11, _), (18, _), (19, _), (20, _), (21, _), (168, _), (169, _), (170, _), (171, _), (176, _)]) rfl ?_
         refine C.seq ?_
         refine C.region ?_
         refine E.pure (S.move rfl) rfl ?_
         refine E.pure (S.conv rfl Tryd.underlying3 Tryd.underlying120 (N.in_u16 (by omega))) rfl ?_
         refine E.loud1 (OpX.pick [] (F := [_, _, _, _, _, _]) rfl (X.call rfl Tryd.call91 (reverse16_spec _ (by omega)))) rfl ?_; rintro _ _ ⟨_, ⟨rfl, rfl⟩, rfl⟩; refine E.relist (L2 := [_, _, _, _, _, _]) rfl ?_
         refine E.pure (S.conv rfl Tryd.underlying120 Tryd.underlying3 (N.i64n (by omega))) rfl ?_
         refine E.pure (S.assign rfl) rfl ?_
         refine E.keep [0, 1, 6, 7, 11, 18, 19, 20, 21, 22, 168, 169, 170, 171, 176] (env1 := [(0, _), (1, _), (6, _), (7, _), (11, _), (18, _), (19, _), (20, _), (21, _), (22, _), (168, _), (169, _), (170, _), (171, _), (176, _)]) rfl ?_
         refine C.seq ?_
         refine C.region ?_
         refine E.pure (S.move rfl) rfl ?_
         refine E.pure (S.move rfl) rfl ?_
         refine E.pure (S.sub (a := ((16 : Nat) : Int)) rfl rfl (N.sub64 (by omega) (by omega))) rfl ?_
         refine E.pure (S.conv rfl Tryd.underlying3 Tryd.underlying92 (N.in_u64 (by omega))) rfl ?_
         refine E.pure (S.shr rfl rfl (by omega) (N.shr64 (by omega) _)) rfl ?_
         refine E.reslot (v := .int .i64 ((revB (lenOf lens k) (codeOf lens k) : Nat) : Int)) (congrArg (fun q : Nat => Value.int .i64 (q : Int)) (by exact revB_sh _ (by omega))) ?_
         refine E.pure (S.assign rfl) rfl ?_
         refine E.keep [0, 1, 6, 7, 11, 18, 19, 20, 21, 22, 168, 169, 170, 171, 176] (env1 := [(0, _), (1, _), (6, _), (7, _), (11, _), (18, _), (19, _), (20, _), (21, _), (22, _), (168, _), (169, _), (170, _), (171, _), (176, _)]) rfl ?_
         refine C.seq ?_
         refine C.region ?_
         refine E.pure (S.move rfl) rfl ?_
         refine E.pure (S.le (b := ((9 : Nat) : Int)) rfl rfl) rfl ?_
         refine E.keep [0, 1, 6, 7, 11, 18, 19, 20, 21, 22, 168, 169, 170, 171, 176, 200] (env1 := [(0, _), (1, _), (6, _), (7, _), (11, _), (18, _), (19, _), (20, _), (21, _), (22, _), (168, _), (169, _), (170, _), (171, _), (176, _), (200, _)]) rfl ?_
         refine C.ifp rfl (fun h200 => ?_) (fun h200 => ?_)
         ·
          have hp9 : 2 ^ (lenOf lens k) ≤ 2 ^ 9 := Nat.pow_le_pow_right (by omega) (by omega)
          have hp0 : 0 < 2 ^ (lenOf lens k) := Nat.pow_pos (by omega)
          refine C.seq ?_
          refine C.region ?_
          refine E.pure (S.move rfl) rfl ?_
          refine E.pure (S.assign rfl) rfl ?_
          refine E.keep [0, 1, 6, 7, 11, 18, 19, 20, 21, 22, 23, 168, 169, 170, 171, 176, 200] (env1 := [(0, _), (1, _), (6, _), (7, _), (11, _), (18, _), (19, _), (20, _), (21, _), (22, _), (23, _), (168, _), (169, _), (170, _), (171, _), (176, _), (200, _)]) rfl ?_
          refine C.block ?_
          refine C.relist (L2 := [⟨b11, 0, cellsI 16 (nextK lens (minL lens) (maxL lens) (k + 1))⟩, ⟨b5, 0, cellsI 16 (cntL lens)⟩, ⟨hb, o, [.int .i64 ((minL lens : Nat) : Int)]⟩, ⟨hb, o + 1, cellsU 512 (fun x => if x < revB (lenOf lens k) (codeOf lens k) ∧ x % 2 ^ (lenOf lens k) = revB (lenOf lens k) (codeOf lens k) then k * 16 + (lenOf lens k) else f x)⟩, ⟨hb, o + 513, [.slice none 0 0, .int .u32 0]⟩, ⟨vb, vo, intsV lens ++ vs⟩]) (by rw [fill_zero (k := k) (n := (lenOf lens k)) (c := codeOf lens k) (f := f) _ rfl]; try rfl) ?_
          refine C.loop (fun mm ee ll => ∃ (off : Nat), keeps ee [0, 1, 6, 7, 11, 168, 169, 170, 19, 21, 23] = some [(0, .pointer (some ⟨hb, o, none⟩)), (1, .slice (some ⟨vb, vo, none⟩) lens.length vc), (6, .int .i64 ((minL lens : Nat) : Int)), (7, .int .i64 ((maxL lens : Nat) : Int)), (11, .pointer (some ⟨b11, 0, none⟩)), (168, .slice (some ⟨vb, vo, none⟩) lens.length vc), (169, .int .i64 ((lens.length : Nat) : Int)), (170, .int .i64 ((k : Nat) : Int)), (19, .int .i64 (((lenOf lens k) : Nat) : Int)), (21, .int .u32 ((k * 16 + (lenOf lens k) : Nat) : Int)), (23, .int .i64 ((off : Nat) : Int))] ∧ ll = [⟨b11, 0, cellsI 16 (nextK lens (minL lens) (maxL lens) (k + 1))⟩, ⟨b5, 0, cellsI 16 (cntL lens)⟩, ⟨hb, o, [.int .i64 ((minL lens : Nat) : Int)]⟩, ⟨hb, o + 1, cellsU 512 (fun x => if x < off ∧ x % 2 ^ (lenOf lens k) = revB (lenOf lens k) (codeOf lens k) then k * 16 + (lenOf lens k) else f x)⟩, ⟨hb, o + 513, [.slice none 0 0, .int .u32 0]⟩, ⟨vb, vo, intsV lens ++ vs⟩] ∧ (off % 2 ^ (lenOf lens k) = revB (lenOf lens k) (codeOf lens k)) ∧ (off < 1024) ∧ mm = 1024 - off) (_) ⟨revB (lenOf lens k) (codeOf lens k), rfl, rfl, Nat.mod_eq_of_lt (revB_lt _ _), by omega, rfl⟩ ?_
          rintro m7 _ _ ⟨off, hk7, rfl, hoff, ho9, hm7⟩
          refine C.weaken _ hk7 ?_
          refine C.seq ?_
          refine C.seq ?_
          refine C.region ?_
          refine E.pure (S.move rfl) rfl ?_
          refine E.pure (S.lt (b := ((512 : Nat) : Int)) rfl rfl) rfl ?_
          refine E.keep [0, 1, 6, 7, 11, 19, 21, 23, 168, 169, 170, 203] (env1 := [(0, _), (1, _), (6, _), (7, _), (11, _), (19, _), (21, _), (23, _), (168, _), (169, _), (170, _), (203, _)]) rfl ?_
          refine C.ifp rfl (fun h203 => ?_) (fun h203 => ?_)
          ·
           refine C.skip ?_
           refine C.seq ?_
           refine C.block ?_
           refine C.seq ?_
           refine C.seq ?_
           refine C.region ?_
           refine E.pure (S.move rfl) rfl ?_
           refine E.guardNo 209 false rfl rfl rfl rfl ?_
           refine E.guardNo 209 false rfl rfl rfl rfl ?_
           refine E.guardNo 209 false rfl rfl rfl rfl ?_
           refine E.guardNo 209 false rfl rfl rfl rfl ?_
           refine E.guardNo 209 false rfl rfl rfl rfl ?_
           refine E.guardNo 209 false rfl rfl rfl rfl ?_
           refine E.guardNo 209 false rfl rfl rfl rfl ?_
           refine E.pure (S.pickF rfl rfl) rfl ?_
           refine E.keep [0, 1, 6, 7, 11, 19, 21, 23, 168, 169, 170, 203, 217] (env1 := [(0, _), (1, _), (6, _), (7, _), (11, _), (19, _), (21, _), (23, _), (168, _), (169, _), (170, _), (203, _), (217, _)]) rfl ?_
           refine C.no rfl (rfl) ?_
           refine C.skip ?_
           refine C.region ?_
           refine E.pure (S.move rfl) rfl ?_
           refine E.pure (S.move rfl) rfl ?_
           refine E.pure (S.move rfl) rfl ?_
           refine E.pure (S.nilPtr rfl) rfl ?_
           refine E.pure (S.field rfl fa144_1) rfl ?_
           refine E.pure (S.ixArr rfl rfl (by omega) Tryd.underlying141 Tryd.sizeOf52) rfl ?_
           refine E.loud0 (X.store 3 (k := off * 1) rfl rfl rfl rfl (by rw [Nat.blt_eq, cellsU_length]; omega) Tryd.sizeOf52) ?_
           rintro _ _ ⟨rfl, rfl⟩
           refine E.relist (L2 := [⟨b11, 0, cellsI 16 (nextK lens (minL lens) (maxL lens) (k + 1))⟩, ⟨b5, 0, cellsI 16 (cntL lens)⟩, ⟨hb, o, [.int .i64 ((minL lens : Nat) : Int)]⟩, ⟨hb, o + 1, cellsU 512 (fun x => if x < off + 2 ^ (lenOf lens k) ∧ x % 2 ^ (lenOf lens k) = revB (lenOf lens k) (codeOf lens k) then k * 16 + (lenOf lens k) else f x)⟩, ⟨hb, o + 513, [.slice none 0 0, .int .u32 0]⟩, ⟨vb, vo, intsV lens ++ vs⟩]) (congrArg (fun q => ([⟨b11, 0, cellsI 16 (nextK lens (minL lens) (maxL lens) (k + 1))⟩, ⟨b5, 0, cellsI 16 (cntL lens)⟩, ⟨hb, o, [.int .i64 ((minL lens : Nat) : Int)]⟩, (⟨hb, o + 1, q⟩ : Frag), ⟨hb, o + 513, [.slice none 0 0, .int .u32 0]⟩, ⟨vb, vo, intsV lens ++ vs⟩] : Frags)) (fill_next hoff)) ?_
           refine E.keep [0, 1, 6, 7, 11, 19, 21, 23, 168, 169, 170, 203, 217] (env1 := [(0, _), (1, _), (6, _), (7, _), (11, _), (19, _), (21, _), (23, _), (168, _), (169, _), (170, _), (203, _), (217, _)]) rfl ?_
           refine C.region ?_
           refine E.pure (S.move rfl) rfl ?_
           refine E.pure (S.move rfl) rfl ?_
           refine E.pure (S.conv rfl Tryd.underlying3 Tryd.underlying92 (N.in_u64 (by omega))) rfl ?_
           refine E.pure (S.shl (a := ((1 : Nat) : Int)) rfl rfl (by omega) (N.shl64 (by rw [Nat.one_shiftLeft]; omega))) rfl ?_
           refine E.reslot (v := .int .i64 ((2 ^ (lenOf lens k) : Nat) : Int)) (congrArg (fun q : Nat => Value.int .i64 (q : Int)) (by rw [Nat.one_shiftLeft])) ?_
           refine E.pure (S.add rfl rfl (N.add64 (by omega))) rfl ?_
           refine E.pure (S.assign rfl) rfl ?_
           refine E.keep [0, 1, 6, 7, 11, 19, 21, 23, 168, 169, 170, 203, 217] (env1 := [(0, _), (1, _), (6, _), (7, _), (11, _), (19, _), (21, _), (23, _), (168, _), (169, _), (170, _), (203, _), (217, _)]) rfl ?_
           refine ⟨_, ?_, off + 2 ^ (lenOf lens k), rfl, rfl, by rw [Nat.add_mod_right]; exact hoff, by omega, rfl⟩; omega
          ·
           have hT2 := hT.addShort hfit (by omega) (by omega) (f' := (fun x => if x < off ∧ x % 2 ^ (lenOf lens k) = revB (lenOf lens k) (codeOf lens k) then k * 16 + (lenOf lens k) else f x)) (fun x hx he => if_pos ⟨by omega, he⟩) (fun x hx he => if_neg (fun h => he h.2))
           have hfb2 : ∀ x, x < 512 → (fun x => if x < off ∧ x % 2 ^ (lenOf lens k) = revB (lenOf lens k) (codeOf lens k) then k * 16 + (lenOf lens k) else f x) x < 65536 := fun x hx => by
             simp only
             split
             · omega
             · exact hfb x hx
           refine C.exit rfl ?_
           refine C.region ?_
           refine E.pure (S.add (b := ((1 : Nat) : Int)) rfl rfl (N.add64 (by omega))) rfl ?_
           refine E.pure (S.move rfl) rfl ?_
           refine E.keep [0, 1, 6, 7, 11, 19, 21, 23, 168, 169, 170, 203] (env1 := [(0, _), (1, _), (6, _), (7, _), (11, _), (19, _), (21, _), (23, _), (168, _), (169, _), (170, _), (203, _)]) rfl ?_
           refine ⟨_, ?_, k + 1, _, rfl, rfl, by omega, hT2, hfb2, rfl⟩; omega
         ·
          exact absurd h200 (by omega)
       ·
        have hk2 : k = lens.length := by omega
        subst hk2
        refine C.exit rfl ?_
        refine C.seq ?_
        refine C.no rfl (rfl) ?_
        refine C.skip ?_
        refine C.seq ?_
        refine C.region ?_
        refine E.pure (S.assign rfl) rfl ?_
        refine E.keep [0, 1, 4, 6, 7, 11, 168, 169, 170, 171] (env1 := [(0, _), (1, _), (4, _), (6, _), (7, _), (11, _), (168, _), (169, _), (170, _), (171, _)]) rfl ?_
        refine C.ret ?_
        refine ⟨_, rfl, .inl ⟨hok, rfl, _, [_, _], small_res (tab_small hfit rfl (hfull.imp id (fun h => h.1)) (by omega) hT) hfb hmp.1, Same.perm (picks_perm (A := [_, _, _, _]) (F := [_, _]) (is := [5, 2, 2, 2]) rfl)⟩⟩

/-- A decoder that may be made anew. -/
def RawH (cs : List Value) : Prop := ∃ mn0 rest, cs = .int .i64 ((mn0 : Nat) : Int) :: rest ∧ rest.length = 514 ∧ (mn0 = 0 → rest = cellsU 512 (fun _ => 0) ++ [.slice none 0 0, .int .u32 0])
theorem rawZ : RawH hufZ := ⟨0, _, rfl, by simp [cellsU_length], fun _ => rfl⟩
theorem huf_raw {lens : List Nat} {mn hb o : Nat} {L : Frags} (h : HufT lens mn hb o L) : ∃ cs J, RawH cs ∧ ∀ F, Same (L ++ F) (⟨hb, o, cs⟩ :: (J ++ F)) := by
  obtain ⟨f, g, nt, nk, lv, T, _, _, _, _, _, _, h0, rfl, hT⟩ := h
  refine ⟨.int .i64 ((mn : Nat) : Int) :: (cellsU 512 f ++ [lv, .int .u32 ((nk - 1 : Nat) : Int)]), T, ⟨mn, _, rfl, by simp [cellsU_length], fun e => ?_⟩, fun F => ?_⟩
  · obtain ⟨h1, h2, h3⟩ := h0 e
    rw [cellsU_congr h1, h2, h3]; rfl
  · exact (Same.chunks hb (T ++ F) [(o, [.int .i64 ((mn : Nat) : Int)]), (o + 1, cellsU 512 f), (o + 513, [lv, .int .u32 ((nk - 1 : Nat) : Int)])] o (by simp [chunksOk, cellsU_length])).symm

end Go.Eng
namespace Go.Eng
open Go Go.Proofs
set_option maxRecDepth 100000

/-- Any error of flate that the thin package calls another one. -/
def Bad5 (e : Er) : Prop := kindOf e = 5 ∧ e ≠ .none
theorem bad_corrupt (x : Int) : Bad5 (.corrupt x) := ⟨rfl, by simp⟩
theorem bad_eof {l : List UInt8} (h : rdErr l ≠ .none) : Bad5 (noEof (rdErr l)) := by
  unfold rdErr at h ⊢
  cases l with
  | nil => exact ⟨rfl, noEof_ne (by simp)⟩
  | cons c r => exact absurd rfl h
theorem drop_cases (D : List UInt8) {q : Nat} (hq : q ≤ D.length) : (rdErr (D.drop q) = .none ∧ ∃ h : q < D.length, rdByte (D.drop q) = D[q].toNat ∧ (D.drop q).drop 1 = D.drop (q + 1)) ∨ (rdErr (D.drop q) ≠ .none ∧ q = D.length) := by
  rcases Nat.lt_or_ge q D.length with h | h
  · left
    have e := List.drop_eq_getElem_cons h
    refine ⟨by rw [e]; rfl, h, by rw [e]; rfl, by rw [List.drop_drop]⟩
  · right
    have e : q = D.length := by omega
    refine ⟨?_, e⟩
    rw [e, List.drop_length]; simp [rdErr]
theorem or_byte {b c nb : Nat} (hb : b < 2 ^ nb) (hc : c < 256) (hn : nb ≤ 24) : b ||| (c <<< nb) % 4294967296 = b + 2 ^ nb * c := by
  have h2 : (2 : Nat) ^ nb ≤ 2 ^ 24 := Nat.pow_le_pow_right (by omega) hn
  have h3 : c <<< nb < 4294967296 := by
    rw [Nat.shiftLeft_eq]
    have : c * 2 ^ nb ≤ 255 * 2 ^ 24 := Nat.mul_le_mul (by omega) h2
    omega
  rw [Nat.mod_eq_of_lt h3, Nat.or_comm, ← Nat.shiftLeft_add_eq_or_of_lt hb, Nat.shiftLeft_eq, Nat.mul_comm]
  omega
theorem and31 {x : Nat} (h : x < 32) : x &&& 31 = x := by
  have := Nat.and_two_pow_sub_one_eq_mod x 5
  rw [show x &&& 31 = x % 32 from this, Nat.mod_eq_of_lt h]
theorem BitsIn.lt32 {D : List UInt8} {p q b nb : Nat} (h : BitsIn D p q b nb) (hn : nb ≤ 32) : b < 4294967296 := by
  have h1 := h.lt
  have h2 : (2 : Nat) ^ nb ≤ 2 ^ 32 := Nat.pow_le_pow_right (by omega) hn
  omega
theorem moreBits_spec {K : Known} {ea : Fin 5 → Addr} (hs : Sents K ea) (src : Src K ea) (x1 x2 x3 : Frag) (fb : Nat) (rbv : Value) (ro : Int) (dt : List UInt8) (p q b nb : Nat) (hA : src.At (dt.drop q) x1 x2 x3) (hB : BitsIn dt p q b nb) (hn : nb ≤ 24) : Fn Tryd.prog K 71 #[.pointer (some ⟨fb, 0, none⟩)] ([x1, x2, x3, ⟨fb, 0, [.iface src.t src.v, rbv, .int .i64 (ro), .int .u32 (((b) : Nat) : Int), .int .u64 (((nb) : Nat) : Int)]⟩]) (fun r L => ∃ f1 f2 f3, (∃ (hq : q < dt.length) (ro2 : Int), r = Er.val ea .none ∧ src.At (dt.drop (q + 1)) f1 f2 f3 ∧ BitsIn dt p (q + 1) (b + 2 ^ nb * dt[q].toNat) (nb + 8) ∧ L = [f1, f2, f3, ⟨fb, 0, [.iface src.t src.v, rbv, .int .i64 (ro2), .int .u32 (((b + 2 ^ nb * dt[q].toNat) : Nat) : Int), .int .u64 (((nb + 8) : Nat) : Int)]⟩]) ∨ (q = dt.length ∧ (∃ e, Bad5 e ∧ r = Er.val ea e) ∧ src.At ((dt.drop q).drop 1) f1 f2 f3 ∧ L = [f1, f2, f3, ⟨fb, 0, [.iface src.t src.v, rbv, .int .i64 (ro), .int .u32 (((b) : Nat) : Int), .int .u64 (((nb) : Nat) : Int)]⟩])) := by
 refine Fn.intro (args := [.pointer (some ⟨fb, 0, none⟩)]) (RR := Ret1 2 _) Tryd.func71 rfl rfl Tryd.ntmps71 (res1 Tryd.results71) ?_
 refine C.reenv (env2 := [(0, .pointer (some ⟨fb, 0, none⟩))]) rfl ?_
 refine C.seq ?_
 refine C.region ?_
 refine E.pure (S.assign (v := Er.val ea .none) rfl) rfl ?_
 refine E.keep [0, 2] (env1 := [(0, _), (2, _)]) rfl ?_
 refine C.seq ?_
 refine C.region ?_
 refine E.pure (S.move rfl) rfl ?_
 refine E.pure (S.nilPtr rfl) rfl ?_
 refine E.pure (S.field rfl fa153_0) rfl ?_
 refine E.still (S.load 3 (k := 0) rfl rfl rfl Tryd.isAgg71) rfl ?_
 refine E.loud1 (OpX.pick [0, 0, 0] (F := [_]) rfl (X.invoke rfl rfl src.mByte src.cByte (src.byte _ _ _ _ hA))) rfl ?_; rintro _ _ ⟨_, ⟨f1, f2, f3, hF, rfl, rfl⟩, rfl⟩; refine E.relist (L2 := [_, _, _, _]) rfl ?_
 refine E.pure (S.move rfl) rfl ?_
 refine E.pure (S.extract rfl rfl) rfl ?_
 refine E.pure (S.extract rfl rfl) rfl ?_
 refine E.pure (S.assign rfl) rfl ?_
 refine E.pure (S.assign rfl) rfl ?_
 refine E.keep [0, 2, 3, 4] (env1 := [(0, _), (2, _), (3, _), (4, _)]) rfl ?_
 refine C.seq ?_
 refine C.seq ?_
 refine C.region ?_
 refine E.pure (S.move rfl) rfl ?_
 refine E.still (S.neErNil rfl) rfl ?_
 refine E.keep [0, 2, 3, 4, 14] (env1 := [(0, _), (2, _), (3, _), (4, _), (14, _)]) rfl ?_
 first | refine C.ifp rfl (fun h14 => ?_) (fun h14 => ?_) | refine C.ifNone rfl (fun h14 => ?_) (fun h14 => ?_) | refine C.ifSome rfl (fun h14 => ?_) (fun h14 => ?_) | refine C.ifSe rfl (fun h14 => ?_) (fun h14 => ?_) | refine C.ifNotSe rfl (fun h14 => ?_) (fun h14 => ?_) | refine C.cond rfl (fun h14 => ?_) (fun h14 => ?_)
 ·
  have hq2 := ((drop_cases dt hB.le).resolve_left fun h => h14 h.1).2
  refine C.seq ?_
  refine C.region ?_
  refine E.pure (S.move rfl) rfl ?_
  refine E.loud1 (OpX.pick [] (F := [_, _, _, _]) rfl (X.call rfl Tryd.call76 (flate_noEOF (L := []) hs _))) rfl ?_; rintro _ _ ⟨_, ⟨rfl, rfl⟩, rfl⟩; refine E.relist (L2 := [_, _, _, _]) rfl ?_
  refine E.pure (S.assign rfl) rfl ?_
  refine E.keep [0, 2, 3, 4, 14] (env1 := [(0, _), (2, _), (3, _), (4, _), (14, _)]) rfl ?_
  refine C.ret ?_
  exact ⟨_, rfl, f1, f2, f3, .inr ⟨hq2, ⟨_, bad_eof h14, rfl⟩, hF, rfl⟩⟩
 ·
  obtain ⟨hq, hrb, hdd⟩ := ((drop_cases dt hB.le).resolve_right fun h => h.1 h14).2
  rw [hdd] at hF
  have hc8 := dt[q].toNat_lt
  have hm := hB.more hq
  refine C.skip ?_
  refine C.seq ?_
  refine C.region ?_
  refine E.pure (S.move rfl) rfl ?_
  refine E.pure (S.nilPtr rfl) rfl ?_
  refine E.pure (S.field rfl fa153_2) rfl ?_
  refine E.still (S.load 3 (k := 2) rfl rfl rfl Tryd.isAgg2) rfl ?_
  refine E.pure (S.add (b := ((1 : Nat) : Int)) rfl rfl rfl) rfl ?_
  refine E.pure (S.nilPtr rfl) rfl ?_
  refine E.pure (S.field rfl fa153_2) rfl ?_
  refine E.loud0 (X.store 3 (k := 2) rfl rfl rfl rfl rfl Tryd.sizeOf2) ?_; rintro _ _ ⟨rfl, rfl⟩; refine E.relist (L2 := [_, _, _, _]) rfl ?_
  refine E.keep [0, 2, 3, 4, 14] (env1 := [(0, _), (2, _), (3, _), (4, _), (14, _)]) rfl ?_
  refine C.seq ?_
  refine C.draw [0, 1, 2, 4, 0, 16, 0, 64, 128, 256, 544, 1032, 4095, 8191, 12287] (.pure 0 2032 (.pure 1 2033 (.pure 2 2035 (.pure 4 975 (.pure 5 991 (.pure 6 63 (.pure 7 127 (.pure 8 255 (.seg [(3, 2039), (9, 511), (10, 1023), (11, 2047), (12, 4095), (13, 8191)] (.alt 14 .done .stop)))))))))) mixed (by decide +kernel) ?_
  have hb1 := hB.lt
  have hb2 := hB.lt32 (by omega)
  refine D.pure rfl (S.move rfl) rfl ?_
  refine D.pure rfl (S.nilPtr rfl) rfl ?_
  refine D.pure rfl (S.field rfl fa153_3) rfl ?_
  refine D.pure rfl (S.move rfl) rfl ?_
  refine D.pure rfl (S.conv rfl Tryd.underlying5 Tryd.underlying52 (N.in_u32 (by omega))) rfl ?_
  refine D.pure rfl (S.move rfl) rfl ?_
  refine D.pure rfl (S.nilPtr rfl) rfl ?_
  refine D.pure rfl (S.field rfl fa153_4) rfl ?_
  refine D.seg (by decide) ?_
  refine W.still rfl (S.load 3 (k := 3) rfl rfl rfl Tryd.isAgg52) rfl ?_
  refine W.still rfl (S.load 3 (k := 4) rfl rfl rfl Tryd.isAgg92) rfl ?_
  refine W.pure rfl (S.shl rfl rfl (by omega) (N.shl_u32 _ _)) rfl ?_
  refine W.pure rfl (S.or rfl rfl (N.or_u32 (by omega) (by omega))) rfl ?_
  refine W.reslot (v := .int .u32 ((b + 2 ^ nb * dt[q].toNat : Nat) : Int)) (congrArg (fun y : Nat => Value.int .u32 (y : Int)) (by rw [hrb]; exact or_byte hb1 hc8 hn)) ?_
  refine W.pure rfl (S.nilPtr rfl) rfl ?_
  refine W.pure rfl (S.field rfl fa153_3) rfl ?_
  refine W.nil ?_
  refine D.one ?_
  refine O.loud0 rfl (X.store 3 (k := 3) rfl rfl rfl rfl rfl Tryd.sizeOf52) ?_; rintro _ _ ⟨rfl, rfl⟩; refine D.relist (L2 := [_, _, _, _]) rfl ?_
  refine D.keep [0, 2, 3, 4, 14] (env1 := [(0, _), (2, _), (3, _), (4, _), (14, _)]) rfl ?_
  refine C.seq ?_
  refine C.region ?_
  refine E.pure (S.move rfl) rfl ?_
  refine E.pure (S.nilPtr rfl) rfl ?_
  refine E.pure (S.field rfl fa153_4) rfl ?_
  refine E.still (S.load 3 (k := 4) rfl rfl rfl Tryd.isAgg92) rfl ?_
  refine E.pure (S.add (b := ((8 : Nat) : Int)) rfl rfl (N.add_u64 (by omega))) rfl ?_
  refine E.pure (S.nilPtr rfl) rfl ?_
  refine E.pure (S.field rfl fa153_4) rfl ?_
  refine E.loud0 (X.store 3 (k := 4) rfl rfl rfl rfl rfl Tryd.sizeOf92) ?_; rintro _ _ ⟨rfl, rfl⟩; refine E.relist (L2 := [_, _, _, _]) rfl ?_
  refine E.keep [0, 2, 3, 4, 14] (env1 := [(0, _), (2, _), (3, _), (4, _), (14, _)]) rfl ?_
  refine C.seq ?_
  refine C.region ?_
  refine E.pure (S.assign (v := Er.val ea .none) rfl) rfl ?_
  refine E.keep [0, 2, 3, 4, 14] (env1 := [(0, _), (2, _), (3, _), (4, _), (14, _)]) rfl ?_
  refine C.ret ?_
  exact ⟨_, rfl, f1, f2, f3, .inl ⟨hq, _, rfl, hF, hm, rfl⟩⟩
end Go.Eng
namespace Go.Eng
set_option maxRecDepth 100000

theorem mat_mod {lens : List Nat} {s b S nb : Nat} (hb : b = S % 2 ^ nb) (hl : lenOf lens s ≤ nb) : Mat lens s b ↔ Mat lens s S := by
  unfold Mat
  rw [revB_agree (n := nb) (S := b) (T := S) (by rw [hb, Nat.mod_mod]) hl]

theorem no_mat {lens : List Nat} {b S nb : Nat} (ok : okLens lens) (hb : b = S % 2 ^ nb) (hmn : minL lens ≤ nb) (hno : ∀ s, ¬ Mat lens s b) : ∀ s, ¬ Mat lens s S := by
  intro s hs
  rcases ok with h | h | ⟨h, h2⟩
  · have := max_zero h s
    have := hs.1
    omega
  · obtain ⟨i, hi, _⟩ := mat_some h b
    exact hno i hi
  · have h1 : lenOf lens s ≤ 1 := by rw [← h]; exact lenOf_le_max lens s
    have h0 := hs.1
    have hp := min_pos (l := lens) (by omega)
    exact hno s ((mat_mod hb (by omega)).2 hs)

/-- How long a code may be that is still to be found. -/
def AtLeast (lens : List Nat) (S mn n : Nat) : Prop := n = mn ∨ ∀ s, Mat lens s S → n ≤ lenOf lens s

section
variable {lens : List Nat} {f : Nat → Nat} {g : Nat → Nat → Nat} {nt nk mn p q b nb n : Nat} {dt : List UInt8}

theorem bitsIn_val (hB : BitsIn dt p q b nb) : b = bitsAt dt p % 2 ^ nb := hB.val

/-- The bits end before the symbol does. -/
theorem sym_end (hB : BitsIn dt p q b nb) (hq : q = dt.length) (hn : nb < n) (hN : AtLeast lens (bitsAt dt p) mn n) : symR lens mn dt p = none := by
  have hl := hB.left_eq
  rw [hq, Nat.sub_self, Nat.mul_zero, Nat.add_zero] at hl
  unfold symR
  split
  · rfl
  · rename_i h
    rcases hN with rfl | hN
    · omega
    · exact findS_none fun i hi => by have := hN i hi; omega

theorem look_some (hT : TabOK lens f g nt nk) (h0 : lookT f g nk b % 16 ≠ 0) (h15 : ∀ s, lenOf lens s ≤ 15) : ∃ s, Mat lens s b ∧ lookT f g nk b = s * 16 + lenOf lens s ∧ lookT f g nk b % 16 = lenOf lens s ∧ lookT f g nk b / 16 = s := by
  by_cases h : ∃ s, Mat lens s b
  · obtain ⟨s, hs⟩ := h
    have e := hT.yes s b hs
    have := h15 s
    exact ⟨s, hs, e, by omega, by omega⟩
  · exact absurd (hT.no b fun s hs => h ⟨s, hs⟩) h0

/-- More bits are wanted. -/
theorem sym_more (hT : TabOK lens f g nt nk) (h15 : ∀ s, lenOf lens s ≤ 15) (hB : BitsIn dt p q b nb) (h : nb < lookT f g nk b % 16) : AtLeast lens (bitsAt dt p) mn (lookT f g nk b % 16) := by
  obtain ⟨s, hs, _, e, _⟩ := look_some hT (b := b) (by omega) h15
  refine .inr fun t ht => ?_
  rw [e]
  exact mat_zero hB.lt hs ht (bitsIn_val hB).symm

/-- No symbol. -/
theorem sym_none (hT : TabOK lens f g nt nk) (h15 : ∀ s, lenOf lens s ≤ 15) (ok : okLens lens) (hB : BitsIn dt p q b nb) (hmn : minL lens ≤ nb) (h : lookT f g nk b % 16 = 0) : symR lens mn dt p = none := by
  have := no_mat ok (bitsIn_val hB) hmn fun s hs => by
    have e := hT.yes s b hs
    have := h15 s
    have := hs.1
    omega
  unfold symR
  split
  · rfl
  · exact findS_none fun i hi => absurd hi (this i)

/-- The symbol. -/
theorem sym_found (hT : TabOK lens f g nt nk) (h15 : ∀ s, lenOf lens s ≤ 15) (hB : BitsIn dt p q b nb) (hmn : mn ≤ nb) (h0 : lookT f g nk b % 16 ≠ 0) (h : lookT f g nk b % 16 ≤ nb) :
    ∃ v, symR lens mn dt p = some v ∧ lookT f g nk b / 16 = v ∧ lookT f g nk b % 16 = lenOf lens v ∧ Mat lens v (bitsAt dt p) ∧ v < lens.length := by
  obtain ⟨s, hs, _, e1, e2⟩ := look_some hT h0 h15
  have hm := (mat_mod (bitsIn_val hB) (by omega : lenOf lens s ≤ nb)).1 hs
  have hl := hB.left_eq
  refine ⟨s, ?_, e2, e1, hm, lenOf_lt hm.1⟩
  unfold symR
  rw [if_neg (by omega)]
  exact findS_some.2 ⟨hm, by omega⟩

theorem sym_bound {m v : Nat} (hm : AtLeast lens (bitsAt dt p) mn m) (hv : Mat lens v (bitsAt dt p)) : m ≤ max mn (lenOf lens v) := by
  rcases hm with rfl | hm
  · omega
  · have := hm v hv
    omega
end
end Go.Eng
namespace Go.Eng
open Go Go.Proofs
set_option maxRecDepth 100000

set_option maxHeartbeats 1000000
/-- How huffSym ends: the symbol and the bits behind it; or there is none. -/
def SymEnd {K : Known} {ea : Fin 5 → Addr} (src : Src K ea) (fb : Nat) (rbv s0 s1 s2 s4 s5 s6 s7 s8 : Value) (dt : List UInt8) (p q nb : Nat) (lens : List Nat) (mn : Nat) (ev : Value) (r : Value) (x1 x2 x3 A B : Frag) : Prop :=
  (∃ v, symR lens mn dt p = some v ∧ v < lens.length ∧ lenOf lens v ≤ 15 ∧ r = .tuple #[.int .i64 ((v : Nat) : Int), Er.val ea .none] ∧ ∃ q2 b2 nb2 ro2, src.At (dt.drop q2) x1 x2 x3 ∧ BitsIn dt (p + lenOf lens v) q2 b2 nb2 ∧ nb2 ≤ 31 ∧ ((q2 = q ∧ nb2 + lenOf lens v = nb) ∨ nb2 + lenOf lens v < max mn (lenOf lens v) + 8) ∧
      A = ⟨fb, 0, [.iface src.t src.v, rbv, .int .i64 ro2, .int .u32 ((b2 : Nat) : Int), .int .u64 ((nb2 : Nat) : Int)]⟩ ∧ B = ⟨fb, 1045, [s0, s1, s2, ev, s4, s5, s6, s7, s8]⟩) ∨
  (symR lens mn dt p = none ∧ (∃ e v, Bad5 e ∧ r = .tuple #[.int .i64 v, Er.val ea e]) ∧ ∃ l a b c ev2, src.At l x1 x2 x3 ∧ A = ⟨fb, 0, [.iface src.t src.v, rbv, a, b, c]⟩ ∧ B = ⟨fb, 1045, [s0, s1, s2, ev2, s4, s5, s6, s7, s8]⟩)
def TailOf (nt nk : Nat) (g : Nat → Nat → Nat) (lv : Value) (T : Frags) : Prop := (nt = 0 ∧ T = [] ∧ lv = .slice none 0 0) ∨ ∃ kb lb, lv = .slice (some ⟨kb, 0, none⟩) nt nt ∧ T = ⟨kb, 0, lkCells nt lb nk⟩ :: LkF nt lb g nk
/-- Bits were read only for a code that long. -/
def ReadH (lens : List Nat) (S mn q nb q0 nb0 : Nat) : Prop := (q = q0 ∧ nb = nb0) ∨ ∃ m, nb < m + 8 ∧ AtLeast lens S mn m
theorem and_mask {e nk x : Nat} (h : nk = 2 ^ e) : x &&& (nk - 1) = x % nk := by rw [h]; exact Nat.and_two_pow_sub_one_eq_mod x e

theorem huffSym_walk {K : Known} {ea : Fin 5 → Addr} (hs : Sents K ea) (src : Src K ea) (x1 x2 x3 : Frag) (fb : Nat) (rbv : Value) (ro : Int) (s0 s1 s2 ev s4 s5 s6 s7 s8 : Value) (hb o : Nat) (dt : List UInt8) (p q0 b0 nb0 : Nat) (hA : src.At (dt.drop q0) x1 x2 x3) (hB : BitsIn dt p q0 b0 nb0) (hn : nb0 ≤ 31) (lens : List Nat) (mn : Nat) (hok : okLens lens) (h15 : ∀ s, lenOf lens s ≤ 15) (hmn : minL lens ≤ mn) (hm15 : mn ≤ 15) (f : Nat → Nat) (g : Nat → Nat → Nat) (nt nk : Nat) (lv : Value) (T : Frags) (hTab : TabOK lens f g nt nk) (hfb : ∀ x, x < 512 → f x < 65536) (hgb : ∀ a q, g a q < 65536) (hnk0 : 0 < nk) (hk64 : nk ≤ 64) (ke : Nat) (hke : nk = 2 ^ ke) (hT : TailOf nt nk g lv T) : Fn Tryd.prog K 81 #[.pointer (some ⟨fb, 0, none⟩), .pointer (some ⟨hb, o, none⟩)] ([x1, x2, x3, ⟨fb, 0, [.iface src.t src.v, rbv, .int .i64 (ro), .int .u32 (((b0) : Nat) : Int), .int .u64 (((nb0) : Nat) : Int)]⟩, ⟨fb, 1045, [s0, s1, s2, ev, s4, s5, s6, s7, s8]⟩, ⟨hb, o, [.int .i64 ((mn : Nat) : Int)]⟩, ⟨hb, o + 1, cellsU 512 f⟩, ⟨hb, o + 513, [lv, .int .u32 ((nk - 1 : Nat) : Int)]⟩] ++ T) (fun r L => ∃ y1 y2 y3 A B, SymEnd src fb rbv s0 s1 s2 s4 s5 s6 s7 s8 dt p q0 nb0 lens mn ev r y1 y2 y3 A B ∧ L = y1 :: y2 :: y3 :: A :: B :: ⟨hb, o, [.int .i64 ((mn : Nat) : Int)]⟩ :: ⟨hb, o + 1, cellsU 512 f⟩ :: ⟨hb, o + 513, [lv, .int .u32 ((nk - 1 : Nat) : Int)]⟩ :: T) := by
 refine Fn.intro (args := [.pointer (some ⟨fb, 0, none⟩), .pointer (some ⟨hb, o, none⟩)]) (RR := Ret2 4 5 _) Tryd.func81 rfl rfl Tryd.ntmps81 (res2 Tryd.results81) ?_
 refine C.reenv (env2 := [(0, .pointer (some ⟨fb, 0, none⟩)), (1, .pointer (some ⟨hb, o, none⟩))]) rfl ?_
 refine C.seq ?_
 refine C.region ?_
 refine E.pure (S.assign rfl) rfl ?_
 refine E.pure (S.assign (v := Er.val ea .none) rfl) rfl ?_
 refine E.keep [0, 1, 4, 5] (env1 := [(0, _), (1, _), (4, _), (5, _)]) rfl ?_
 refine C.seq ?_
 refine C.region ?_
 refine E.pure (S.move rfl) rfl ?_
 refine E.pure (S.nilPtr rfl) rfl ?_
 refine E.pure (S.field rfl fa144_0) rfl ?_
 refine E.still (S.load 5 (k := 0) rfl rfl rfl Tryd.isAgg3) rfl ?_
 refine E.pure (S.conv rfl Tryd.underlying3 Tryd.underlying92 (N.in_u64 (by omega))) rfl ?_
 refine E.pure (S.assign rfl) rfl ?_
 refine E.keep [0, 1, 4, 5, 6] (env1 := [(0, _), (1, _), (4, _), (5, _), (6, _)]) rfl ?_
 refine C.seq ?_
 refine C.draw [0, 1, 2, 4, 0, 16, 32, 64, 15, 511] (.pure 0 240 (.pure 1 241 (.pure 2 243 (.pure 4 271 (.pure 5 287 (.pure 6 319 (.seg [(3, 247), (7, 383), (8, 255), (9, 511)] .done))))))) mixed (by decide +kernel) ?_
 refine D.pure rfl (S.move rfl) rfl ?_
 refine D.pure rfl (S.nilPtr rfl) rfl ?_
 refine D.pure rfl (S.field rfl fa153_4) rfl ?_
 refine D.pure rfl (S.move rfl) rfl ?_
 refine D.pure rfl (S.nilPtr rfl) rfl ?_
 refine D.pure rfl (S.field rfl fa153_3) rfl ?_
 refine D.seg (by decide) ?_
 refine W.still rfl (S.load 3 (k := 4) rfl rfl rfl Tryd.isAgg92) rfl ?_
 refine W.still rfl (S.load 3 (k := 3) rfl rfl rfl Tryd.isAgg52) rfl ?_
 refine W.pure rfl (S.assign rfl) rfl ?_
 refine W.pure rfl (S.assign rfl) rfl ?_
 refine W.nil ?_
 refine D.keep [0, 1, 4, 5, 6, 7, 8] (env1 := [(0, _), (1, _), (4, _), (5, _), (6, _), (7, _), (8, _)]) rfl ?_
 refine C.block ?_
 refine C.loop (fun mm ee ll => ∃ (q : Nat), ∃ (b : Nat), ∃ (nb : Nat), ∃ (n : Nat), ∃ (ro : Int), ∃ (f1 : Frag), ∃ (f2 : Frag), ∃ (f3 : Frag), keeps ee [0, 1, 6, 7, 8] = some [(0, .pointer (some ⟨fb, 0, none⟩)), (1, .pointer (some ⟨hb, o, none⟩)), (6, .int .u64 ((n : Nat) : Int)), (7, .int .u64 ((nb : Nat) : Int)), (8, .int .u32 ((b : Nat) : Int))] ∧ ll = [f1, f2, f3, ⟨fb, 0, [.iface src.t src.v, rbv, .int .i64 (ro), .int .u32 (((b0) : Nat) : Int), .int .u64 (((nb0) : Nat) : Int)]⟩, ⟨fb, 1045, [s0, s1, s2, ev, s4, s5, s6, s7, s8]⟩, ⟨hb, o, [.int .i64 ((mn : Nat) : Int)]⟩, ⟨hb, o + 1, cellsU 512 f⟩, ⟨hb, o + 513, [lv, .int .u32 ((nk - 1 : Nat) : Int)]⟩] ++ T ∧ (src.At (dt.drop q) f1 f2 f3) ∧ (BitsIn dt p q b nb) ∧ (nb ≤ 31) ∧ (n ≤ 15) ∧ (AtLeast lens (bitsAt dt p) mn n) ∧ (n = mn ∨ mn ≤ nb) ∧ (ReadH lens (bitsAt dt p) mn q nb q0 nb0) ∧ mm = 16 - n) (_) ⟨q0, b0, nb0, mn, ro, x1, x2, x3, rfl, rfl, hA, hB, hn, hm15, .inl rfl, .inl rfl, .inl ⟨rfl, rfl⟩, rfl⟩ ?_
 rintro m0 _ _ ⟨q, b, nb, n, ro, f1, f2, f3, hk0, rfl, hA, hB, hn, hn15, hN, hM, hH, hm0⟩
 refine C.weaken _ hk0 ?_
 refine C.block ?_
 refine C.seq ?_
 refine C.block ?_
 refine C.loop (fun mm ee ll => ∃ (q : Nat), ∃ (b : Nat), ∃ (nb : Nat), ∃ (ro : Int), ∃ (f1 : Frag), ∃ (f2 : Frag), ∃ (f3 : Frag), keeps ee [0, 1, 6, 7, 8] = some [(0, .pointer (some ⟨fb, 0, none⟩)), (1, .pointer (some ⟨hb, o, none⟩)), (6, .int .u64 ((n : Nat) : Int)), (7, .int .u64 ((nb : Nat) : Int)), (8, .int .u32 ((b : Nat) : Int))] ∧ ll = [f1, f2, f3, ⟨fb, 0, [.iface src.t src.v, rbv, .int .i64 (ro), .int .u32 (((b0) : Nat) : Int), .int .u64 (((nb0) : Nat) : Int)]⟩, ⟨fb, 1045, [s0, s1, s2, ev, s4, s5, s6, s7, s8]⟩, ⟨hb, o, [.int .i64 ((mn : Nat) : Int)]⟩, ⟨hb, o + 1, cellsU 512 f⟩, ⟨hb, o + 513, [lv, .int .u32 ((nk - 1 : Nat) : Int)]⟩] ++ T ∧ (src.At (dt.drop q) f1 f2 f3) ∧ (BitsIn dt p q b nb) ∧ (nb ≤ 31) ∧ (n = mn ∨ mn ≤ nb) ∧ (ReadH lens (bitsAt dt p) mn q nb q0 nb0) ∧ mm = n - nb) (_) ⟨q, b, nb, ro, f1, f2, f3, rfl, rfl, hA, hB, hn, hM, hH, rfl⟩ ?_
 rintro m1 _ _ ⟨q, b, nb, ro, f1, f2, f3, hk1, rfl, hA, hB, hn, hM, hH, hm1⟩
 refine C.weaken _ hk1 ?_
 refine C.seq ?_
 refine C.seq ?_
 refine C.region ?_
 refine E.pure (S.move rfl) rfl ?_
 refine E.pure (S.move rfl) rfl ?_
 refine E.pure (S.lt rfl rfl) rfl ?_
 refine E.keep [0, 1, 6, 7, 8, 27] (env1 := [(0, _), (1, _), (6, _), (7, _), (8, _), (27, _)]) rfl ?_
 refine C.ifp rfl (fun h27 => ?_) (fun h27 => ?_)
 ·
  have hb1 := hB.lt
  have hb2 := hB.lt32 (by omega)
  refine C.skip ?_
  refine C.block ?_
  refine C.seq ?_
  refine C.region ?_
  refine E.pure (S.move rfl) rfl ?_
  refine E.pure (S.nilPtr rfl) rfl ?_
  refine E.pure (S.field rfl fa153_0) rfl ?_
  refine E.still (S.load 3 (k := 0) rfl rfl rfl Tryd.isAgg71) rfl ?_
  refine E.loud1 (OpX.pick [0, 0, 0] (F := (_ :: _ :: _ :: _ :: _ :: _)) rfl (X.invoke rfl rfl src.mByte src.cByte (src.byte _ _ _ _ hA))) rfl ?_; rintro _ _ ⟨_, ⟨g1, g2, g3, hF, rfl, rfl⟩, rfl⟩; refine E.relist (L2 := (_ :: _ :: _ :: _ :: _ :: _ :: _ :: _ :: _)) rfl ?_
  refine E.pure (S.move rfl) rfl ?_
  refine E.pure (S.extract rfl rfl) rfl ?_
  refine E.pure (S.extract rfl rfl) rfl ?_
  refine E.pure (S.assign rfl) rfl ?_
  refine E.pure (S.assign rfl) rfl ?_
  refine E.keep [0, 1, 6, 7, 8, 9, 10, 27] (env1 := [(0, _), (1, _), (6, _), (7, _), (8, _), (9, _), (10, _), (27, _)]) rfl ?_
  refine C.seq ?_
  refine C.seq ?_
  refine C.region ?_
  refine E.pure (S.move rfl) rfl ?_
  refine E.still (S.neErNil rfl) rfl ?_
  refine E.keep [0, 1, 6, 7, 8, 9, 10, 27, 37] (env1 := [(0, _), (1, _), (6, _), (7, _), (8, _), (9, _), (10, _), (27, _), (37, _)]) rfl ?_
  first | refine C.ifp rfl (fun h37 => ?_) (fun h37 => ?_) | refine C.ifNone rfl (fun h37 => ?_) (fun h37 => ?_) | refine C.ifSome rfl (fun h37 => ?_) (fun h37 => ?_) | refine C.ifSe rfl (fun h37 => ?_) (fun h37 => ?_) | refine C.ifNotSe rfl (fun h37 => ?_) (fun h37 => ?_) | refine C.cond rfl (fun h37 => ?_) (fun h37 => ?_)
  ·
   have hq2 := ((drop_cases dt hB.le).resolve_left fun h => h37 h.1).2
   refine C.seq ?_
   refine C.region ?_
   refine E.pure (S.move rfl) rfl ?_
   refine E.pure (S.move rfl) rfl ?_
   refine E.pure (S.nilPtr rfl) rfl ?_
   refine E.pure (S.field rfl fa153_3) rfl ?_
   refine E.loud0 (X.store 3 (k := 3) rfl rfl rfl rfl rfl Tryd.sizeOf52) ?_; rintro _ _ ⟨rfl, rfl⟩; refine E.relist (L2 := (_ :: _ :: _ :: _ :: _ :: _ :: _ :: _ :: _)) rfl ?_
   refine E.keep [0, 1, 6, 7, 8, 9, 10, 27, 37] (env1 := [(0, _), (1, _), (6, _), (7, _), (8, _), (9, _), (10, _), (27, _), (37, _)]) rfl ?_
   refine C.seq ?_
   refine C.region ?_
   refine E.pure (S.move rfl) rfl ?_
   refine E.pure (S.move rfl) rfl ?_
   refine E.pure (S.nilPtr rfl) rfl ?_
   refine E.pure (S.field rfl fa153_4) rfl ?_
   refine E.loud0 (X.store 3 (k := 4) rfl rfl rfl rfl rfl Tryd.sizeOf92) ?_; rintro _ _ ⟨rfl, rfl⟩; refine E.relist (L2 := (_ :: _ :: _ :: _ :: _ :: _ :: _ :: _ :: _)) rfl ?_
   refine E.keep [0, 1, 6, 7, 8, 9, 10, 27, 37] (env1 := [(0, _), (1, _), (6, _), (7, _), (8, _), (9, _), (10, _), (27, _), (37, _)]) rfl ?_
   refine C.seq ?_
   refine C.region ?_
   refine E.pure (S.move rfl) rfl ?_
   refine E.loud1 (OpX.pick [] (F := (_ :: _ :: _ :: _ :: _ :: _ :: _ :: _ :: _)) rfl (X.call rfl Tryd.call76 (flate_noEOF (L := []) hs _))) rfl ?_; rintro _ _ ⟨_, ⟨rfl, rfl⟩, rfl⟩; refine E.relist (L2 := (_ :: _ :: _ :: _ :: _ :: _ :: _ :: _ :: _)) rfl ?_
   refine E.pure (S.assign rfl) rfl ?_
   refine E.pure (S.assign rfl) rfl ?_
   refine E.keep [0, 1, 4, 5, 6, 7, 8, 9, 10, 27, 37] (env1 := [(0, _), (1, _), (4, _), (5, _), (6, _), (7, _), (8, _), (9, _), (10, _), (27, _), (37, _)]) rfl ?_
   refine C.ret ?_
   exact ⟨_, _, rfl, rfl, _, _, _, _, _, .inr ⟨sym_end hB hq2 (by omega) hN, ⟨_, 0, bad_eof h37, rfl⟩, _, _, _, _, ev, hF, rfl, rfl⟩, rfl⟩
  ·
   obtain ⟨hq, hrb, hdd⟩ := ((drop_cases dt hB.le).resolve_right fun h => h.1 h37).2
   rw [hdd] at hF
   have hc8 := dt[q].toNat_lt
   have hm := hB.more hq
   refine C.skip ?_
   refine C.seq ?_
   refine C.region ?_
   refine E.pure (S.move rfl) rfl ?_
   refine E.pure (S.nilPtr rfl) rfl ?_
   refine E.pure (S.field rfl fa153_2) rfl ?_
   refine E.still (S.load 3 (k := 2) rfl rfl rfl Tryd.isAgg2) rfl ?_
   refine E.pure (S.add (b := ((1 : Nat) : Int)) rfl rfl rfl) rfl ?_
   refine E.pure (S.nilPtr rfl) rfl ?_
   refine E.pure (S.field rfl fa153_2) rfl ?_
   refine E.loud0 (X.store 3 (k := 2) rfl rfl rfl rfl rfl Tryd.sizeOf2) ?_; rintro _ _ ⟨rfl, rfl⟩; refine E.relist (L2 := (_ :: _ :: _ :: _ :: _ :: _ :: _ :: _ :: _)) rfl ?_
   refine E.keep [0, 1, 6, 7, 8, 9, 10, 27, 37] (env1 := [(0, _), (1, _), (6, _), (7, _), (8, _), (9, _), (10, _), (27, _), (37, _)]) rfl ?_
   refine C.seq ?_
   refine C.region ?_
   refine E.pure (S.move rfl) rfl ?_
   refine E.pure (S.move rfl) rfl ?_
   refine E.pure (S.conv rfl Tryd.underlying5 Tryd.underlying52 (N.in_u32 (by omega))) rfl ?_
   refine E.pure (S.move rfl) rfl ?_
   refine E.pure (S.and (b := ((31 : Nat) : Int)) rfl rfl (N.and_u64 (by omega) (by omega))) rfl ?_
   refine E.reslot (v := .int .u64 ((nb : Nat) : Int)) (congrArg (fun y : Nat => Value.int .u64 (y : Int)) (by exact and31 (by omega))) ?_
   refine E.pure (S.shl rfl rfl (by omega) (N.shl_u32 _ _)) rfl ?_
   refine E.pure (S.or rfl rfl (N.or_u32 (by omega) (by omega))) rfl ?_
   refine E.reslot (v := .int .u32 ((b + 2 ^ nb * dt[q].toNat : Nat) : Int)) (congrArg (fun y : Nat => Value.int .u32 (y : Int)) (by rw [hrb]; exact or_byte hb1 hc8 (by omega))) ?_
   refine E.pure (S.assign rfl) rfl ?_
   refine E.keep [0, 1, 6, 7, 8, 9, 10, 27, 37] (env1 := [(0, _), (1, _), (6, _), (7, _), (8, _), (9, _), (10, _), (27, _), (37, _)]) rfl ?_
   refine C.region ?_
   refine E.pure (S.move rfl) rfl ?_
   refine E.pure (S.add (b := ((8 : Nat) : Int)) rfl rfl (N.add_u64 (by omega))) rfl ?_
   refine E.pure (S.assign rfl) rfl ?_
   refine E.keep [0, 1, 6, 7, 8, 9, 10, 27, 37] (env1 := [(0, _), (1, _), (6, _), (7, _), (8, _), (9, _), (10, _), (27, _), (37, _)]) rfl ?_
   refine ⟨_, ?_, _, _, _, _, _, _, _, rfl, rfl, hF, hm, by omega, hM.imp id fun h => by omega, .inr ⟨n, by omega, hN⟩, rfl⟩; omega
 ·
  have hb2 := hB.lt32 (by omega)
  have hf1 := hfb (b % 512) (Nat.mod_lt _ (by decide))
  have hle : n ≤ nb := by omega
  have hmq : mn ≤ nb := by omega
  refine C.exit rfl ?_
  refine C.seq ?_
  refine C.region ?_
  refine E.pure (S.move rfl) rfl ?_
  refine E.pure (S.move rfl) rfl ?_
  refine E.pure (S.and (b := ((511 : Nat) : Int)) rfl rfl (N.and_u32 (by omega) (by omega))) rfl ?_
  refine E.reslot (v := .int .u32 ((b % 512 : Nat) : Int)) (congrArg (fun y : Nat => Value.int .u32 (y : Int)) (by exact and511 b)) ?_
  refine E.pure (S.nilPtr rfl) rfl ?_
  refine E.pure (S.field rfl fa144_1) rfl ?_
  refine E.pure (S.ixArr rfl rfl (by omega) Tryd.underlying141 Tryd.sizeOf52) rfl ?_
  refine E.still (S.load 6 (k := (b % 512) * 1) rfl rfl (cellsU_get (by omega)) Tryd.isAgg52) rfl ?_
  refine E.pure (S.assign rfl) rfl ?_
  refine E.keep [0, 1, 6, 7, 8, 11, 27] (env1 := [(0, _), (1, _), (6, _), (7, _), (8, _), (11, _), (27, _)]) rfl ?_
  refine C.seq ?_
  refine C.region ?_
  refine E.pure (S.move rfl) rfl ?_
  refine E.pure (S.and (b := ((15 : Nat) : Int)) rfl rfl (N.and_u32 (by omega) (by omega))) rfl ?_
  refine E.reslot (v := .int .u32 ((f (b % 512) % 16 : Nat) : Int)) (congrArg (fun y : Nat => Value.int .u32 (y : Int)) (by exact and15 _)) ?_
  refine E.pure (S.conv rfl Tryd.underlying52 Tryd.underlying92 (N.in_u64 (by omega))) rfl ?_
  refine E.pure (S.assign rfl) rfl ?_
  refine E.keep [0, 1, 6, 7, 8, 11, 27] (env1 := [(0, _), (1, _), (6, _), (7, _), (8, _), (11, _), (27, _)]) rfl ?_
  refine C.cut (M := fun ee ll => keeps ee [0, 1, 7, 8, 11, 6] = some [(0, .pointer (some ⟨fb, 0, none⟩)), (1, .pointer (some ⟨hb, o, none⟩)), (7, .int .u64 ((nb : Nat) : Int)), (8, .int .u32 ((b : Nat) : Int)), (11, .int .u32 ((lookT f g nk b : Nat) : Int)), (6, .int .u64 ((lookT f g nk b % 16 : Nat) : Int))] ∧ ll = [f1, f2, f3, ⟨fb, 0, [.iface src.t src.v, rbv, .int .i64 (ro), .int .u32 (((b0) : Nat) : Int), .int .u64 (((nb0) : Nat) : Int)]⟩, ⟨fb, 1045, [s0, s1, s2, ev, s4, s5, s6, s7, s8]⟩, ⟨hb, o, [.int .i64 ((mn : Nat) : Int)]⟩, ⟨hb, o + 1, cellsU 512 f⟩, ⟨hb, o + 513, [lv, .int .u32 ((nk - 1 : Nat) : Int)]⟩] ++ T ∧ (lookT f g nk b < 65536)) ?_ ?_
  ·
   refine C.seq ?_
   refine C.region ?_
   refine E.pure (S.move rfl) rfl ?_
   refine E.pure (S.gt (b := ((9 : Nat) : Int)) rfl rfl) rfl ?_
   refine E.keep [0, 1, 6, 7, 8, 11, 27, 75] (env1 := [(0, _), (1, _), (6, _), (7, _), (8, _), (11, _), (27, _), (75, _)]) rfl ?_
   refine C.ifp rfl (fun h75 => ?_) (fun h75 => ?_)
   ·
    have ha : f (b % 512) / 16 < nt := hTab.lt _ (Nat.mod_lt _ (by decide)) (by omega)
    have hmn2 : b / 512 % nk < nk := Nat.mod_lt _ hnk0
    have hlk : lookT f g nk b = g (f (b % 512) / 16) (b / 512 % nk) := if_pos (by omega)
    have hlb : lookT f g nk b < 65536 := by rw [hlk]; exact hgb _ _
    rcases hT with hT | ⟨kb, lb, hT1, hT2⟩
    · omega
    subst hT1 hT2
    refine C.seq ?_
    refine C.draw [0, 1, 2, 4, 0, 16, 40, 64, 0, 256, 0, 1024, 2048, 4096, 8704, 16512, 32768, 131071] (.pure 0 32560 (.pure 1 32561 (.pure 2 32563 (.pure 4 32527 (.pure 5 32543 (.pure 8 15615 (.pure 9 15871 (.pure 10 1023 (.pure 11 2047 (.pure 12 4095 (.seg [(3, 32567), (6, 32575), (7, 32639), (13, 8191), (14, 16383), (15, 32767), (16, 65535), (17, 131071)] .done))))))))))) mixed (by decide +kernel) ?_
    refine D.pure rfl (S.move rfl) rfl ?_
    refine D.pure rfl (S.nilPtr rfl) rfl ?_
    refine D.pure rfl (S.field rfl fa144_2) rfl ?_
    refine D.pure rfl (S.move rfl) rfl ?_
    refine D.pure rfl (S.shr (b := ((4 : Nat) : Int)) rfl rfl (by omega) (N.shr_u32 (by omega) _)) rfl ?_
    refine D.reslot (v := .int .u32 ((f (b % 512) / 16 : Nat) : Int)) (congrArg (fun y : Nat => Value.int .u32 (y : Int)) (by rw [Nat.shiftRight_eq_div_pow])) ?_
    refine D.pure rfl (S.move rfl) rfl ?_
    refine D.pure rfl (S.shr (b := ((9 : Nat) : Int)) rfl rfl (by omega) (N.shr_u32 (by omega) _)) rfl ?_
    refine D.reslot (v := .int .u32 ((b / 512 : Nat) : Int)) (congrArg (fun y : Nat => Value.int .u32 (y : Int)) (by rw [Nat.shiftRight_eq_div_pow])) ?_
    refine D.pure rfl (S.move rfl) rfl ?_
    refine D.pure rfl (S.nilPtr rfl) rfl ?_
    refine D.pure rfl (S.field rfl fa144_3) rfl ?_
    refine D.seg (by decide) ?_
    refine W.still rfl (S.load 7 (k := 0) rfl rfl rfl Tryd.isAgg142) rfl ?_
    refine W.pure rfl (S.ixSl rfl rfl (by omega) Tryd.underlying142 Tryd.sizeOf178) rfl ?_
    refine W.still rfl (S.load 8 (k := (f (b % 512) / 16) * 1) rfl rfl (lk_get ha) Tryd.isAgg178) rfl ?_
    refine W.still rfl (S.load 7 (k := 1) rfl rfl rfl Tryd.isAgg52) rfl ?_
    refine W.pure rfl (S.and rfl rfl (N.and_u32 (by omega) (by omega))) rfl ?_
    refine W.reslot (v := .int .u32 ((b / 512 % nk : Nat) : Int)) (congrArg (fun y : Nat => Value.int .u32 (y : Int)) (by exact and_mask hke)) ?_
    refine W.pure rfl (S.ixSl rfl rfl (by omega) Tryd.underlying178 Tryd.sizeOf52) rfl ?_
    refine W.still rfl (S.load (f (b % 512) / 16 + 9) (k := (b / 512 % nk) * 1) (LkF_get ha) rfl (cellsU_get hmn2) Tryd.isAgg52) rfl ?_
    refine W.reslot (v := .int .u32 ((lookT f g nk b : Nat) : Int)) (congrArg (fun y : Nat => Value.int .u32 (y : Int)) (by exact hlk.symm)) ?_
    refine W.pure rfl (S.assign rfl) rfl ?_
    refine W.nil ?_
    refine D.keep [0, 1, 6, 7, 8, 11, 27, 75] (env1 := [(0, _), (1, _), (6, _), (7, _), (8, _), (11, _), (27, _), (75, _)]) rfl ?_
    refine C.region ?_
    refine E.pure (S.move rfl) rfl ?_
    refine E.pure (S.and (b := ((15 : Nat) : Int)) rfl rfl (N.and_u32 (by omega) (by omega))) rfl ?_
    refine E.reslot (v := .int .u32 ((lookT f g nk b % 16 : Nat) : Int)) (congrArg (fun y : Nat => Value.int .u32 (y : Int)) (by exact and15 _)) ?_
    refine E.pure (S.conv rfl Tryd.underlying52 Tryd.underlying92 (N.in_u64 (by omega))) rfl ?_
    refine E.pure (S.assign rfl) rfl ?_
    refine E.keep [0, 1, 6, 7, 8, 11, 27, 75] (env1 := [(0, _), (1, _), (6, _), (7, _), (8, _), (11, _), (27, _), (75, _)]) rfl ?_
    exact ⟨rfl, rfl, hlb⟩
   ·
    have hlk : lookT f g nk b = f (b % 512) := if_neg (by omega)
    have hlb : lookT f g nk b < 65536 := by rw [hlk]; exact hf1
    rw [← hlk]
    refine C.skip ?_
    exact ⟨rfl, rfl, hlb⟩
  ·
   rintro _ _ ⟨hq17, rfl, hlb⟩
   refine C.weaken _ hq17 ?_
   refine C.seq ?_
   refine C.region ?_
   refine E.pure (S.move rfl) rfl ?_
   refine E.pure (S.move rfl) rfl ?_
   refine E.pure (S.le rfl rfl) rfl ?_
   refine E.keep [0, 1, 6, 7, 8, 11, 98] (env1 := [(0, _), (1, _), (6, _), (7, _), (8, _), (11, _), (98, _)]) rfl ?_
   refine C.ifp rfl (fun h98 => ?_) (fun h98 => ?_)
   ·
    refine C.seq ?_
    refine C.seq ?_
    refine C.region ?_
    refine E.pure (S.move rfl) rfl ?_
    refine E.pure (S.eq (b := ((0 : Nat) : Int)) rfl rfl) rfl ?_
    refine E.keep [0, 1, 6, 7, 8, 11, 98, 100] (env1 := [(0, _), (1, _), (6, _), (7, _), (8, _), (11, _), (98, _), (100, _)]) rfl ?_
    refine C.ifp rfl (fun h100 => ?_) (fun h100 => ?_)
    ·
     refine C.seq ?_
     refine C.region ?_
     refine E.pure (S.move rfl) rfl ?_
     refine E.pure (S.move rfl) rfl ?_
     refine E.pure (S.nilPtr rfl) rfl ?_
     refine E.pure (S.field rfl fa153_3) rfl ?_
     refine E.loud0 (X.store 3 (k := 3) rfl rfl rfl rfl rfl Tryd.sizeOf52) ?_; rintro _ _ ⟨rfl, rfl⟩; refine E.relist (L2 := (_ :: _ :: _ :: _ :: _ :: _ :: _ :: _ :: _)) rfl ?_
     refine E.keep [0, 1, 6, 7, 8, 11, 98, 100] (env1 := [(0, _), (1, _), (6, _), (7, _), (8, _), (11, _), (98, _), (100, _)]) rfl ?_
     refine C.seq ?_
     refine C.region ?_
     refine E.pure (S.move rfl) rfl ?_
     refine E.pure (S.move rfl) rfl ?_
     refine E.pure (S.nilPtr rfl) rfl ?_
     refine E.pure (S.field rfl fa153_4) rfl ?_
     refine E.loud0 (X.store 3 (k := 4) rfl rfl rfl rfl rfl Tryd.sizeOf92) ?_; rintro _ _ ⟨rfl, rfl⟩; refine E.relist (L2 := (_ :: _ :: _ :: _ :: _ :: _ :: _ :: _ :: _)) rfl ?_
     refine E.keep [0, 1, 6, 7, 8, 11, 98, 100] (env1 := [(0, _), (1, _), (6, _), (7, _), (8, _), (11, _), (98, _), (100, _)]) rfl ?_
     refine C.seq ?_
     refine C.region ?_
     refine E.pure (S.move rfl) rfl ?_
     refine E.pure (S.move rfl) rfl ?_
     refine E.pure (S.nilPtr rfl) rfl ?_
     refine E.pure (S.field rfl fa153_2) rfl ?_
     refine E.still (S.load 3 (k := 2) rfl rfl rfl Tryd.isAgg2) rfl ?_
     refine E.pure (S.mkIface rfl conc165) rfl ?_
     refine E.reslot (v := Er.val ea (.corrupt ro)) (rfl) ?_
     refine E.pure (S.nilPtr rfl) rfl ?_
     refine E.pure (S.field rfl fa153_14) rfl ?_
     refine E.loud0 (X.store 4 (k := 3) rfl rfl rfl rfl rfl Tryd.sizeOf59) ?_; rintro _ _ ⟨rfl, rfl⟩; refine E.relist (L2 := (_ :: _ :: _ :: _ :: _ :: _ :: _ :: _ :: _)) rfl ?_
     refine E.keep [0, 1, 6, 7, 8, 11, 98, 100] (env1 := [(0, _), (1, _), (6, _), (7, _), (8, _), (11, _), (98, _), (100, _)]) rfl ?_
     refine C.seq ?_
     refine C.draw [0, 1, 2, 4, 0, 31] (.pure 0 16 (.pure 1 17 (.pure 2 19 (.pure 4 15 (.seg [(3, 23), (5, 31)] .done))))) mixed (by decide +kernel) ?_
     refine D.pure rfl (S.move rfl) rfl ?_
     refine D.pure rfl (S.nilPtr rfl) rfl ?_
     refine D.pure rfl (S.field rfl fa153_14) rfl ?_
     refine D.pure rfl (S.assign rfl) rfl ?_
     refine D.seg (by decide) ?_
     refine W.still rfl (S.load 4 (k := 3) rfl rfl rfl Tryd.isAgg59) rfl ?_
     refine W.pure rfl (S.assign rfl) rfl ?_
     refine W.nil ?_
     refine D.keep [0, 1, 4, 5, 6, 7, 8, 11, 98, 100] (env1 := [(0, _), (1, _), (4, _), (5, _), (6, _), (7, _), (8, _), (11, _), (98, _), (100, _)]) rfl ?_
     refine C.ret ?_
     exact ⟨_, _, rfl, rfl, _, _, _, _, _, .inr ⟨sym_none hTab h15 hok hB (by omega) (by omega), ⟨_, 0, bad_corrupt ro, rfl⟩, _, _, _, _, _, hA, rfl, rfl⟩, rfl⟩
    ·
     obtain ⟨v, hsy, hv4, hvl, hvm, hvlt⟩ := sym_found hTab h15 hB hmq (by omega) (by omega)
     have hv15 := h15 v
     refine C.skip ?_
     refine C.seq ?_
     refine C.region ?_
     refine E.pure (S.move rfl) rfl ?_
     refine E.pure (S.move rfl) rfl ?_
     refine E.pure (S.move rfl) rfl ?_
     refine E.pure (S.and (b := ((31 : Nat) : Int)) rfl rfl (N.and_u64 (by omega) (by omega))) rfl ?_
     refine E.reslot (v := .int .u64 ((lenOf lens v : Nat) : Int)) (congrArg (fun y : Nat => Value.int .u64 (y : Int)) (by rw [hvl]; exact and31 (by omega))) ?_
     refine E.pure (S.shr rfl rfl (by omega) (N.shr_u32 (by omega) _)) rfl ?_
     refine E.reslot (v := .int .u32 ((b / 2 ^ lenOf lens v : Nat) : Int)) (congrArg (fun y : Nat => Value.int .u32 (y : Int)) (by rw [Nat.shiftRight_eq_div_pow])) ?_
     refine E.pure (S.nilPtr rfl) rfl ?_
     refine E.pure (S.field rfl fa153_3) rfl ?_
     refine E.loud0 (X.store 3 (k := 3) rfl rfl rfl rfl rfl Tryd.sizeOf52) ?_; rintro _ _ ⟨rfl, rfl⟩; refine E.relist (L2 := (_ :: _ :: _ :: _ :: _ :: _ :: _ :: _ :: _)) rfl ?_
     refine E.keep [0, 1, 6, 7, 8, 11, 98, 100] (env1 := [(0, _), (1, _), (6, _), (7, _), (8, _), (11, _), (98, _), (100, _)]) rfl ?_
     refine C.seq ?_
     refine C.region ?_
     refine E.pure (S.move rfl) rfl ?_
     refine E.pure (S.move rfl) rfl ?_
     refine E.pure (S.move rfl) rfl ?_
     refine E.pure (S.sub rfl rfl (N.sub_u64 (by omega) (by omega))) rfl ?_
     refine E.reslot (v := .int .u64 ((nb - lenOf lens v : Nat) : Int)) (congrArg (fun y : Nat => Value.int .u64 (y : Int)) (by rw [hvl])) ?_
     refine E.pure (S.nilPtr rfl) rfl ?_
     refine E.pure (S.field rfl fa153_4) rfl ?_
     refine E.loud0 (X.store 3 (k := 4) rfl rfl rfl rfl rfl Tryd.sizeOf92) ?_; rintro _ _ ⟨rfl, rfl⟩; refine E.relist (L2 := (_ :: _ :: _ :: _ :: _ :: _ :: _ :: _ :: _)) rfl ?_
     refine E.keep [0, 1, 6, 7, 8, 11, 98, 100] (env1 := [(0, _), (1, _), (6, _), (7, _), (8, _), (11, _), (98, _), (100, _)]) rfl ?_
     refine C.seq ?_
     refine C.region ?_
     refine E.pure (S.move rfl) rfl ?_
     refine E.pure (S.shr (b := ((4 : Nat) : Int)) rfl rfl (by omega) (N.shr_u32 (by omega) _)) rfl ?_
     refine E.pure (S.conv rfl Tryd.underlying52 Tryd.underlying3 (N.i64n (by omega))) rfl ?_
     refine E.reslot (v := .int .i64 ((v : Nat) : Int)) (congrArg (fun y : Nat => Value.int .i64 (y : Int)) (by rw [Nat.shiftRight_eq_div_pow]; exact hv4)) ?_
     refine E.pure (S.assign rfl) rfl ?_
     refine E.pure (S.assign (v := Er.val ea .none) rfl) rfl ?_
     refine E.keep [0, 1, 4, 5, 6, 7, 8, 11, 98, 100] (env1 := [(0, _), (1, _), (4, _), (5, _), (6, _), (7, _), (8, _), (11, _), (98, _), (100, _)]) rfl ?_
     refine C.ret ?_
     have hB2 := (hB.take (n := lenOf lens v) (by omega)).2
     refine ⟨_, _, rfl, rfl, _, _, _, _, _, .inl ⟨v, hsy, hvlt, hv15, rfl, q, _, _, ro, hA, hB2, by omega, ?_, rfl, rfl⟩, rfl⟩
     rcases hH with ⟨h1, h2⟩ | ⟨m, h1, h2⟩
     · exact .inl ⟨h1, by omega⟩
     · have := sym_bound h2 hvm
       exact .inr (by omega)
   ·
    have hl16 := Nat.mod_lt (lookT f g nk b) (show 0 < 16 by decide)
    refine C.skip ?_
    refine ⟨_, ?_, q, b, nb, lookT f g nk b % 16, ro, f1, f2, f3, rfl, rfl, hA, hB, hn, by omega, sym_more hTab h15 hB (by omega), .inr (by omega), hH, rfl⟩; omega
/-- The symbol that comes next. -/
theorem huffSym_spec {K : Known} {ea : Fin 5 → Addr} (hs : Sents K ea) (src : Src K ea) (x1 x2 x3 : Frag) (fb : Nat) (rbv : Value) (ro : Int) (s0 s1 s2 ev s4 s5 s6 s7 s8 : Value) (hb o : Nat) (dt : List UInt8) (p q b nb : Nat) (hA : src.At (dt.drop q) x1 x2 x3) (hB : BitsIn dt p q b nb) (hn : nb ≤ 31) (lens : List Nat) (mn : Nat) (hok : okLens lens) (h15 : ∀ s, lenOf lens s ≤ 15) (hmn : minL lens ≤ mn) (hm15 : mn ≤ 15) (LH : Frags) (hH : HufT lens mn hb o LH) :
    Fn Tryd.prog K 81 #[.pointer (some ⟨fb, 0, none⟩), .pointer (some ⟨hb, o, none⟩)] (x1 :: x2 :: x3 :: ⟨fb, 0, [.iface src.t src.v, rbv, .int .i64 (ro), .int .u32 (((b) : Nat) : Int), .int .u64 (((nb) : Nat) : Int)]⟩ :: ⟨fb, 1045, [s0, s1, s2, ev, s4, s5, s6, s7, s8]⟩ :: LH)
      fun r L => ∃ y1 y2 y3 A B, SymEnd src fb rbv s0 s1 s2 s4 s5 s6 s7 s8 dt p q nb lens mn ev r y1 y2 y3 A B ∧ L = y1 :: y2 :: y3 :: A :: B :: LH := by
  obtain ⟨f, g, nt, nk, lv, T, hTab, hfb, hgb, h0, h64, ⟨ke, hke⟩, _, rfl, hT⟩ := hH
  exact huffSym_walk hs src x1 x2 x3 fb rbv ro s0 s1 s2 ev s4 s5 s6 s7 s8 hb o dt p q b nb hA hB hn lens mn hok h15 hmn hm15 f g nt nk lv T hTab hfb hgb h0 h64 ke hke hT

end Go.Eng
namespace Go.Eng

structure Hist (h : List UInt8) (wr : Nat) (full : Bool) (out : List UInt8) : Prop where
  len : h.length = 32768
  wrLe : wr ≤ 32768
  young : full = false → wr = out.length
  old : full = true → 32768 ≤ out.length
  val : ∀ d, 1 ≤ d → d ≤ (if full then 32768 else wr) → h[(wr + 32768 - d) % 32768]? = out[out.length - d]?

def hsize (wr : Nat) (full : Bool) : Nat := if full then 32768 else wr

theorem Hist.size_le {h : List UInt8} {wr : Nat} {full : Bool} {out : List UInt8} (H : Hist h wr full out) : hsize wr full ≤ out.length ∧ hsize wr full ≤ 32768 ∧ (hsize wr full = out.length ∨ hsize wr full = 32768) ∧ wr ≤ out.length := by
  unfold hsize
  cases full with
  | false => have := H.young rfl; have := H.wrLe; simp; omega
  | true => have := H.old rfl; have := H.wrLe; simp; omega

theorem Hist.start (h : List UInt8) (hl : h.length = 32768) : Hist h 0 false [] := ⟨hl, by omega, fun _ => rfl, (fun h => by cases h), fun d h1 h2 => absurd h2 (by simp; omega)⟩

/-- Bytes are written. -/
theorem Hist.write {h : List UInt8} {wr : Nat} {full : Bool} {out : List UInt8} (H : Hist h wr full out) (xs : List UInt8) (hx : wr + xs.length ≤ 32768) :
    Hist (h.take wr ++ xs ++ h.drop (wr + xs.length)) (wr + xs.length) full (out ++ xs) := by
  have hl := H.len
  have h1 : (h.take wr).length = wr := by rw [List.length_take]; omega
  refine ⟨?_, hx, fun e => ?_, fun e => ?_, fun d hd1 hd2 => ?_⟩
  · simp only [List.length_append, List.length_take, List.length_drop]; omega
  · rw [List.length_append, H.young e]
  · have := H.old e
    rw [List.length_append]; omega
  · have hsz := H.size_le
    unfold hsize at hsz
    rw [List.length_append]
    rcases Nat.lt_or_ge xs.length d with hlt | hge
    · -- an older byte
      have hd3 : d - xs.length ≤ (if full then 32768 else wr) := by
        cases full <;> simp at hd2 ⊢ <;> omega
      have hv := H.val (d - xs.length) (by omega) hd3
      have hd4 : d ≤ 32768 := by cases full <;> simp at hd2 <;> omega
      have hd5 : d - xs.length ≤ out.length := by omega
      rw [show out.length + xs.length - d = out.length - (d - xs.length) by omega, List.getElem?_append_left (l₁ := out) (by omega), ← hv]
      rw [show wr + xs.length + 32768 - d = wr + 32768 - (d - xs.length) by omega]
      rcases Nat.lt_or_ge wr (d - xs.length) with h2 | h2
      · rw [Nat.mod_eq_of_lt (by omega), List.getElem?_append_right (by rw [List.length_append, h1]; omega), List.length_append, h1, List.getElem?_drop]
        congr 1; omega
      · rw [show wr + 32768 - (d - xs.length) = wr - (d - xs.length) + 32768 by omega, Nat.add_mod_right, Nat.mod_eq_of_lt (by omega), List.append_assoc, List.getElem?_append_left (by omega), List.getElem?_take, if_pos (by omega)]
    · -- one of the new ones
      rw [show wr + xs.length + 32768 - d = wr + xs.length - d + 32768 by omega, Nat.add_mod_right, Nat.mod_eq_of_lt (by omega), List.append_assoc, List.getElem?_append_right (l₁ := h.take wr) (by omega), h1,
        List.getElem?_append_left (l₁ := xs) (by omega), List.getElem?_append_right (l₁ := out) (by omega)]
      congr 1; omega

/-- The window is full: it begins anew. -/
theorem Hist.wrap {h : List UInt8} {full : Bool} {out : List UInt8} (H : Hist h 32768 full out) : Hist h 0 true out := by
  have hs := H.size_le
  refine ⟨H.len, by omega, (fun h => by cases h), fun _ => ?_, fun d h1 h2 => ?_⟩
  · cases full <;> simp [hsize] at hs <;> omega
  · have h3 : d ≤ 32768 := by simpa using h2
    have := H.val d h1 (by cases full <;> simp <;> omega)
    rw [← this, show 32768 + 32768 - d = 0 + 32768 - d + 32768 by omega, Nat.add_mod_right]

/-- What stands in the window ahead of the place of writing. -/
theorem Hist.seg {h : List UInt8} {wr : Nat} {full : Bool} {out : List UInt8} (H : Hist h wr full out) {src n : Nat} (h1 : src + n ≤ wr) : (h.drop src).take n = (out.drop (out.length - (wr - src))).take n := by
  have hs := H.size_le
  have hl := H.len
  have hw := H.wrLe
  apply List.ext_getElem?
  intro i
  rw [List.getElem?_take, List.getElem?_take]
  split
  · rename_i hi
    rw [List.getElem?_drop, List.getElem?_drop]
    have := H.val (wr - src - i) (by omega) (by cases full <;> simp <;> omega)
    rw [show out.length - (wr - src) + i = out.length - (wr - src - i) by omega, ← this, show wr + 32768 - (wr - src - i) = src + i + 32768 by omega, Nat.add_mod_right, Nat.mod_eq_of_lt (by omega)]
  · rfl

/-- What stands in the window behind the place of writing. -/
theorem Hist.segBack {h : List UInt8} {wr : Nat} {out : List UInt8} (H : Hist h wr true out) {d n : Nat} (h1 : wr < d) (h2 : d ≤ 32768) (hn : n ≤ d - wr) : (h.drop (wr + 32768 - d)).take n = (out.drop (out.length - d)).take n := by
  have hs := H.size_le
  have hl := H.len
  apply List.ext_getElem?
  intro i
  rw [List.getElem?_take, List.getElem?_take]
  split
  · rename_i hi
    rw [List.getElem?_drop, List.getElem?_drop]
    have := H.val (d - i) (by omega) (by simp; omega)
    simp [hsize] at hs
    rw [show out.length - d + i = out.length - (d - i) by omega, ← this, Nat.mod_eq_of_lt (by omega)]
    congr 1; omega
  · rfl

theorem copyN_length (out : List UInt8) (d : Nat) : ∀ n, (copyN out d n).length = out.length + n
  | 0 => rfl
  | n + 1 => by rw [copyN, List.length_append, copyN_length out d n]; rfl

theorem copyN_add (out : List UInt8) (d a : Nat) : ∀ b, copyN (copyN out d a) d b = copyN out d (a + b)
  | 0 => rfl
  | b + 1 => by rw [copyN, copyN_add out d a b]; rfl

/-- The last m bytes go round every d bytes. -/
def Per (d m : Nat) (o : List UInt8) : Prop := ∀ i, d ≤ i → i < m → o[o.length - m + i]? = o[o.length - m + i - d]?

theorem copyN_take (o : List UInt8) (d m : Nat) (hd : 1 ≤ d) (hm : m ≤ o.length) (hdm : d ∣ m) (hp : Per d m o) : ∀ n, n ≤ m → 1 ≤ m → copyN o d n = o ++ (o.drop (o.length - m)).take n ∧ Per d (m + n) (copyN o d n)
  | 0, _, _ => ⟨by simp [copyN], hp⟩
  | n + 1, hn, h1 => by
    obtain ⟨ih, ip⟩ := copyN_take o d m hd hm hdm hp n (by omega) h1
    have hdm2 : d ≤ m := Nat.le_of_dvd (by omega) hdm
    have hlen := copyN_length o d n
    -- the byte d behind the end is the byte m behind it
    have key : ∀ j, j * d ≤ m → 1 ≤ j → (copyN o d n)[o.length + n - d]? = (copyN o d n)[o.length + n - j * d]? := by
      intro j
      induction j with
      | zero => intro _ h; omega
      | succ j ij =>
        intro h2 h3
        rcases Nat.eq_zero_or_pos j with rfl | hj
        · rw [Nat.zero_add, Nat.one_mul]
        · have e : (j + 1) * d = j * d + d := by rw [Nat.add_mul, Nat.one_mul]
          rw [ij (by omega) hj]
          have hq := ip (m + n - j * d) (by omega) (by have : 1 ≤ j * d := Nat.mul_pos hj hd; omega)
          rw [hlen, show o.length + n - (m + n) + (m + n - j * d) = o.length + n - j * d by omega] at hq
          rw [hq]; congr 1; omega
    obtain ⟨c, hc⟩ := hdm
    have hc1 : 1 ≤ c := by
      rcases Nat.eq_zero_or_pos c with rfl | h
      · simp at hc; omega
      · exact h
    have k1 := key c (by rw [Nat.mul_comm, ← hc]; exact Nat.le_refl _) hc1
    rw [Nat.mul_comm c d, ← hc] at k1
    have hin : o.length + n - m < o.length := by omega
    have k2 : (copyN o d n)[o.length + n - m]? = o[o.length + n - m]? := by rw [ih, List.getElem?_append_left hin]
    have e1 : copyN o d (n + 1) = copyN o d n ++ [o.getD (o.length + n - m) 0] := by
      rw [copyN, hlen, List.getD_eq_getElem?_getD, k1, k2, ← List.getD_eq_getElem?_getD]
    refine ⟨?_, ?_⟩
    · rw [e1, ih, List.append_assoc]
      congr 1
      rw [List.take_add_one, List.getElem?_drop, show o.length - m + n = o.length + n - m by omega, List.getElem?_eq_getElem hin, List.getD_eq_getElem?_getD, List.getElem?_eq_getElem hin]
      rfl
    · intro i hi1 hi2
      rw [copyN_length, show o.length + (n + 1) - (m + (n + 1)) = o.length - m by omega]
      rcases Nat.lt_or_ge i (m + n) with h2 | h2
      · have := ip i hi1 h2
        rw [hlen, show o.length + n - (m + n) = o.length - m by omega] at this
        rw [copyN, List.getElem?_append_left (by omega), List.getElem?_append_left (by omega), this]
      · have hi3 : i = m + n := by omega
        subst hi3
        rw [copyN, List.getElem?_append_right (by omega), List.getElem?_append_left (by omega), hlen, show o.length - m + (m + n) - (o.length + n) = 0 by omega, show o.length - m + (m + n) - d = o.length + n - d by omega]
        rw [List.getElem?_cons_zero, List.getD_eq_getElem?_getD]
        have : o.length + n - d < (copyN o d n).length := by omega
        rw [List.getElem?_eq_getElem this]; rfl

theorem per_self (d : Nat) (o : List UInt8) : Per d d o := fun i h1 h2 => by omega
end Go.Eng
namespace Go.Eng

theorem Hist.copyStep {h : List UInt8} {dst : Nat} {full : Bool} {o : List UInt8} (H : Hist h dst full o) {d m n : Nat} (hd : 1 ≤ d) (hm1 : 1 ≤ m) (hm : m ≤ dst) (hdm : d ∣ m) (hp : Per d m o) (hn : n ≤ m) (hx : dst + n ≤ 32768) :
    Hist (h.take dst ++ (h.drop (dst - m)).take n ++ h.drop (dst + n)) (dst + n) full (copyN o d n) ∧ Per d (m + n) (copyN o d n) := by
  have hs := H.size_le
  have hl := H.len
  obtain ⟨e, hp2⟩ := copyN_take o d m hd (by omega) hdm hp n hn hm1
  have hseg := H.seg (src := dst - m) (n := n) (by omega)
  rw [show dst - (dst - m) = m by omega] at hseg
  refine ⟨?_, hp2⟩
  have hlen : ((h.drop (dst - m)).take n).length = n := by rw [List.length_take, List.length_drop]; omega
  have hw := H.write ((h.drop (dst - m)).take n) (by rw [hlen]; exact hx)
  rw [hlen] at hw
  rw [e, ← hseg]
  exact hw

/-- The first part of a copy that begins behind the place of writing. -/
theorem Hist.copyBack {h : List UInt8} {wr : Nat} {o : List UInt8} (H : Hist h wr true o) {d n : Nat} (h1 : wr < d) (h2 : d ≤ 32768) (hn : n ≤ d - wr) (hx : wr + n ≤ 32768) :
    Hist (h.take wr ++ (h.drop (wr + 32768 - d)).take n ++ h.drop (wr + n)) (wr + n) true (copyN o d n) ∧ Per d (d + n) (copyN o d n) := by
  have hs := H.size_le
  have hl := H.len
  simp [hsize] at hs
  obtain ⟨e, hp2⟩ := copyN_take o d d (by omega) (by omega) (Nat.dvd_refl d) (per_self d o) n (by omega) (by omega)
  have hseg := H.segBack (d := d) (n := n) h1 h2 hn
  refine ⟨?_, hp2⟩
  have hlen : ((h.drop (wr + 32768 - d)).take n).length = n := by rw [List.length_take, List.length_drop]; omega
  have hw := H.write ((h.drop (wr + 32768 - d)).take n) (by rw [hlen]; exact hx)
  rw [hlen] at hw
  rw [e, ← hseg]
  exact hw

theorem Per.less {d m k : Nat} {o : List UInt8} (h : Per d (m + k) o) (hm : m + k ≤ o.length) : Per d m o := by
  intro i h1 h2
  have := h (k + i) (by omega) (by omega)
  rw [show o.length - (m + k) + (k + i) = o.length - m + i by omega] at this
  exact this
end Go.Eng
