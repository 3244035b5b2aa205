/-
  A header that is made, in plain terms, and that it is read.
-/
import Derived.Test.YtbjbmpcgiokdaaaDoorWSp3
import Derived.Test.YtbjbmpcgiokdaaaDoorReadA
set_option linter.unusedVariables false
set_option linter.unusedSimpArgs false
namespace Go.Eng
open Go Go.Proofs
set_option maxRecDepth 100000

/-- A text in UTF-8 as bytes of ISO 8859-1, if it is one. -/
def textB : List UInt8 → Option (List UInt8)
  | [] => some []
  | [c] => if c.toNat < 128 ∧ c.toNat ≠ 0 then some [c] else none
  | c :: d :: r =>
    if c.toNat < 128 then (if c.toNat = 0 then none else (textB (d :: r)).map (c :: ·))
    else if c.toNat &&& 254 = 194 ∧ d.toNat &&& 192 = 128 then
      (if (c.toNat <<< 6) % 256 ||| (d.toNat &&& 63) = 0 then none else (textB r).map (UInt8.ofNat ((c.toNat <<< 6) % 256 ||| (d.toNat &&& 63)) :: ·))
    else none

theorem textB_small {s : List UInt8} {i : Nat} (h : i < s.length) (hc : s[i].toNat < 128) : textB (s.drop i) = if s[i].toNat = 0 then none else (textB (s.drop (i + 1))).map (s[i] :: ·) := by
  rw [List.drop_eq_getElem_cons h]
  cases hr : s.drop (i + 1) with
  | nil =>
    rw [show textB [s[i]] = if s[i].toNat < 128 ∧ s[i].toNat ≠ 0 then some [s[i]] else none from rfl]
    by_cases h0 : s[i].toNat = 0
    · rw [if_neg (fun h => h.2 h0), if_pos h0]
    · rw [if_pos ⟨hc, h0⟩, if_neg h0]; rfl
  | cons d r => rw [textB, if_pos hc]

theorem textB_big {s : List UInt8} {i : Nat} (h : i + 1 < s.length) (hc : ¬ s[i].toNat < 128) (h1 : s[i].toNat &&& 254 = 194) (h2 : s[i + 1].toNat &&& 192 = 128) :
    textB (s.drop i) = if (s[i].toNat <<< 6) % 256 ||| (s[i + 1].toNat &&& 63) = 0 then none else (textB (s.drop (i + 1 + 1))).map (UInt8.ofNat ((s[i].toNat <<< 6) % 256 ||| (s[i + 1].toNat &&& 63)) :: ·) := by
  rw [List.drop_eq_getElem_cons (by omega : i < s.length), List.drop_eq_getElem_cons h, textB, if_neg hc, if_pos ⟨h1, h2⟩]

theorem textB_bad {s : List UInt8} {i : Nat} (h : i < s.length) (hc : ¬ s[i].toNat < 128) (hb : ¬ (s[i].toNat &&& 254 = 194) ∨ i + 1 = s.length ∨ ∃ h2 : i + 1 < s.length, ¬ (s[i + 1].toNat &&& 192 = 128)) : textB (s.drop i) = none := by
  rw [List.drop_eq_getElem_cons h]
  cases hr : s.drop (i + 1) with
  | nil => rw [textB, if_neg (by omega)]
  | cons d r =>
    have hlt : i + 1 < s.length := by
      rcases Nat.lt_or_ge (i + 1) s.length with h1 | h1
      · exact h1
      · rw [List.drop_eq_nil_of_le h1] at hr; cases hr
    rw [List.drop_eq_getElem_cons hlt] at hr
    obtain ⟨rfl, rfl⟩ := List.cons.inj hr
    rw [textB, if_neg hc, if_neg]
    rintro ⟨h1, h2⟩
    rcases hb with h3 | h3 | ⟨_, h3⟩
    · exact h3 h1
    · omega
    · exact h3 h2

theorem two_bytes : ∀ c d : Fin 256, c.val &&& 254 = 194 → d.val &&& 192 = 128 → ((c.val <<< 6) % 256 ||| (d.val &&& 63)) ≥ 128 ∧ ((c.val <<< 6) % 256 ||| (d.val &&& 63)) < 256 ∧ 192 + ((c.val <<< 6) % 256 ||| (d.val &&& 63)) / 64 = c.val ∧ 128 + ((c.val <<< 6) % 256 ||| (d.val &&& 63)) % 64 = d.val := by
  intro c d hc hd
  have h1 : c.val = 194 ∨ c.val = 195 := by revert c; decide +kernel
  have h2 : d.val &&& 63 = d.val - 128 ∧ 128 ≤ d.val ∧ d.val < 192 := by revert d; decide +kernel
  rw [h2.1]
  have h3 := Nat.shiftLeft_add_eq_or_of_lt (b := d.val - 128) (i := 6) (by omega)
  rcases h1 with e | e
  · have := h3 2
    rw [e, show (194 <<< 6) % 256 = 2 <<< 6 by decide, ← this]; omega
  · have := h3 3
    rw [e, show (195 <<< 6) % 256 = 3 <<< 6 by decide, ← this]; omega

theorem textB_latin : ∀ {s t : List UInt8}, textB s = some t → latinB t = s ∧ (∀ c ∈ t, c ≠ 0) ∧ t.length ≤ s.length
  | [], t, h => by simp [textB] at h; subst h; simp [latinB]
  | [c], t, h => by
    rw [textB] at h
    split at h
    · rename_i hc
      simp only [Option.some.injEq] at h; subst h
      refine ⟨?_, ?_, by simp⟩
      · simp only [latinB, List.flatMap_cons, List.flatMap_nil, List.append_nil]; rw [encB, if_pos hc.1]
      · intro x hx
        rw [List.mem_singleton.1 hx]; rintro rfl; exact hc.2 rfl
    · cases h
  | c :: d :: r, t, h => by
    rw [textB] at h
    split at h
    · rename_i hc
      split at h
      · cases h
      · rename_i hz
        obtain ⟨t', h1, rfl⟩ := Option.map_eq_some_iff.1 h
        obtain ⟨h2, h3, h4⟩ := textB_latin h1
        refine ⟨?_, ?_, by simp only [List.length_cons] at h4 ⊢; omega⟩
        · unfold latinB at h2 ⊢
          rw [List.flatMap_cons, h2, encB, if_pos hc]; rfl
        · intro x hx
          rcases List.mem_cons.1 hx with rfl | hx
          · rintro rfl; exact hz rfl
          · exact h3 x hx
    · split at h
      · rename_i hcd
        split at h
        · cases h
        · obtain ⟨t', h1, rfl⟩ := Option.map_eq_some_iff.1 h
          obtain ⟨h2, h3, h4⟩ := textB_latin h1
          obtain ⟨k1, k2, k3, k4⟩ := two_bytes ⟨c.toNat, c.toNat_lt⟩ ⟨d.toNat, d.toNat_lt⟩ hcd.1 hcd.2
          simp only at k1 k2 k3 k4
          have ey : (UInt8.ofNat ((c.toNat <<< 6) % 256 ||| (d.toNat &&& 63))).toNat = (c.toNat <<< 6) % 256 ||| (d.toNat &&& 63) := by rw [UInt8.toNat_ofNat']; omega
          refine ⟨?_, ?_, by simp only [List.length_cons] at h4 ⊢; omega⟩
          · unfold latinB at h2 ⊢
            rw [List.flatMap_cons, h2, encB, if_neg (by omega), ey, k3, k4]
            simp
          · intro x hx
            rcases List.mem_cons.1 hx with rfl | hx
            · intro h0; rw [h0] at ey; simp at ey; omega
            · exact h3 x hx
      · cases h

/-- A number as n bytes, the lowest first. -/
def numL (x n : Nat) : List UInt8 := (List.range n).map fun i => UInt8.ofNat (x / 2 ^ (8 * i))

def bit (b : Bool) : Nat := if b then 1 else 0
def flagsN (m : Md) (nb cb : List UInt8) : Nat := bit m.text + 2 * bit m.checked + 4 * bit (m.ex || decide (0 < m.extra.length)) + 8 * bit (m.nm || decide (0 < nb.length)) + 16 * bit (m.cm || decide (0 < cb.length))

def first0 (m : Md) (nb cb : List UInt8) : List UInt8 := [31, 139, 8, UInt8.ofNat (flagsN m nb cb)] ++ numL m.mod.toNat 4 ++ [m.flags, m.os]
def first1 (m : Md) (nb cb : List UInt8) : List UInt8 := if flagsN m nb cb &&& 4 = 0 then first0 m nb cb else first0 m nb cb ++ numL m.extra.length 2 ++ m.extra
def first2 (m : Md) (nb cb : List UInt8) : List UInt8 := if flagsN m nb cb &&& 8 = 0 then first1 m nb cb else first1 m nb cb ++ nb ++ [0]
def first3 (m : Md) (nb cb : List UInt8) : List UInt8 := if flagsN m nb cb &&& 16 = 0 then first2 m nb cb else first2 m nb cb ++ cb ++ [0]
def firstL (m : Md) (nb cb : List UInt8) : List UInt8 := if flagsN m nb cb &&& 2 = 0 then first3 m nb cb else first3 m nb cb ++ numL (crcOn IEEE 0 (first3 m nb cb) % 65536) 2

theorem bit_lt (b : Bool) : bit b ≤ 1 := by cases b <;> decide
theorem flagsN_lt (m : Md) (nb cb : List UInt8) : flagsN m nb cb < 32 := by
  unfold flagsN
  have h1 := bit_lt m.text
  have h2 := bit_lt m.checked
  have h3 := bit_lt (m.ex || decide (0 < m.extra.length))
  have h4 := bit_lt (m.nm || decide (0 < nb.length))
  have h5 := bit_lt (m.cm || decide (0 < cb.length))
  omega

theorem flags_and : ∀ a b c d e : Bool, ((bit a + 2 * bit b + 4 * bit c + 8 * bit d + 16 * bit e) &&& 4 = 0 ↔ c = false) ∧ ((bit a + 2 * bit b + 4 * bit c + 8 * bit d + 16 * bit e) &&& 8 = 0 ↔ d = false) ∧ ((bit a + 2 * bit b + 4 * bit c + 8 * bit d + 16 * bit e) &&& 16 = 0 ↔ e = false) := by decide

theorem noName {m : Md} {nb cb : List UInt8} (h : flagsN m nb cb &&& 8 = 0) : nb = [] := by
  have := (flags_and _ _ _ _ _).2.1.1 h
  have := (Bool.or_eq_false_iff.1 this).2
  exact List.eq_nil_of_length_eq_zero (by simpa using this)
theorem noComment {m : Md} {nb cb : List UInt8} (h : flagsN m nb cb &&& 16 = 0) : cb = [] := by
  have := (flags_and _ _ _ _ _).2.2.1 h
  have := (Bool.or_eq_false_iff.1 this).2
  exact List.eq_nil_of_length_eq_zero (by simpa using this)
theorem noExtra {m : Md} {nb cb : List UInt8} (h : flagsN m nb cb &&& 4 = 0) : m.extra = [] := by
  have := (flags_and _ _ _ _ _).1.1 h
  have := (Bool.or_eq_false_iff.1 this).2
  exact List.eq_nil_of_length_eq_zero (by simpa using this)

theorem numL_two (x : Nat) (h : x < 65536) : ∃ a b : UInt8, numL x 2 = [a, b] ∧ le16 a.toNat b.toNat = x := by
  refine ⟨UInt8.ofNat (x / 2 ^ (8 * 0)), UInt8.ofNat (x / 2 ^ (8 * 1)), rfl, ?_⟩
  rw [le16_val (UInt8.toNat_lt _) (UInt8.toNat_lt _), UInt8.toNat_ofNat', UInt8.toNat_ofNat']
  omega
theorem numL_four (x : Nat) (h : x < 4294967296) : ∃ a b c d : UInt8, numL x 4 = [a, b, c, d] ∧ le32 a.toNat b.toNat c.toNat d.toNat = x := by
  refine ⟨UInt8.ofNat (x / 2 ^ (8 * 0)), UInt8.ofNat (x / 2 ^ (8 * 1)), UInt8.ofNat (x / 2 ^ (8 * 2)), UInt8.ofNat (x / 2 ^ (8 * 3)), rfl, ?_⟩
  rw [le32_val (UInt8.toNat_lt _) (UInt8.toNat_lt _) (UInt8.toNat_lt _) (UInt8.toNat_lt _), UInt8.toNat_ofNat', UInt8.toNat_ofNat', UInt8.toNat_ofNat', UInt8.toNat_ofNat']
  omega

theorem str_here {t r : List UInt8} (hz : ∀ c ∈ t, c ≠ 0) (hl : t.length < 512) (d : Nat) : strEr (t ++ 0 :: r) = .none ∧ (t ++ 0 :: r).drop (strUsed (t ++ 0 :: r)) = r ∧ strTxt (t ++ 0 :: r) = latin t ∧ strCrc d (t ++ 0 :: r) = crcOn IEEE d (t ++ [0]) := by
  have h0 : (t ++ 0 :: r)[t.length]? = some 0 := by rw [List.getElem?_append_right (Nat.le_refl _)]; simp
  obtain ⟨h1, h2, h3, h4⟩ := str_ok (l := t ++ 0 :: r) (i := t.length) (by rw [List.take_left' rfl]; exact hz) h0 hl d
  refine ⟨h1, ?_, ?_, ?_⟩
  · rw [h2, show t ++ 0 :: r = (t ++ [0]) ++ r by simp, List.drop_left' (by simp)]
  · rw [h3, List.take_left' rfl]
  · rw [h4, show t ++ 0 :: r = (t ++ [0]) ++ r by simp, List.take_left' (by simp)]

theorem rd4_made {m : Md} {nb cb behind : List UInt8} {h : Hd} :
    rd4 ((if flagsN m nb cb &&& 2 = 0 then [] else numL (crcOn IEEE 0 (first3 m nb cb) % 65536) 2) ++ behind) (flagsN m nb cb) (crcOn IEEE 0 (first3 m nb cb)) h = (.none, behind, h) := by
  unfold rd4
  split
  · rfl
  · obtain ⟨a, b, e, hv⟩ := numL_two (crcOn IEEE 0 (first3 m nb cb) % 65536) (Nat.mod_lt _ (by decide))
    rw [e]
    have h1 : ¬ fullErr ([a, b] ++ behind) 2 ≠ .none := by rw [fullErr_ne]; simp
    rw [if_neg h1]
    have h2 : le16of ([a, b] ++ behind) = le16 a.toNat b.toNat := rfl
    rw [h2, hv, if_neg (by simp)]; rfl

theorem rd3_made {m : Md} {nb cb behind : List UInt8} {h : Hd} (hz : ∀ c ∈ cb, c ≠ 0) (hl : cb.length < 512) (hc : h.comment = ⟨#[]⟩) :
    rd3 ((if flagsN m nb cb &&& 16 = 0 then [] else cb ++ [0]) ++ ((if flagsN m nb cb &&& 2 = 0 then [] else numL (crcOn IEEE 0 (first3 m nb cb) % 65536) 2) ++ behind)) (flagsN m nb cb) (crcOn IEEE 0 (first2 m nb cb)) h = (.none, behind, { h with comment := latin cb }) := by
  unfold rd3
  by_cases hf : flagsN m nb cb &&& 16 = 0
  · rw [if_pos hf, if_pos hf, List.nil_append]
    have e : crcOn IEEE 0 (first2 m nb cb) = crcOn IEEE 0 (first3 m nb cb) := by rw [first3, if_pos hf]
    rw [e, rd4_made, noComment hf]
    have : latin [] = (⟨#[]⟩ : ByteArray) := rfl
    rw [this, ← hc]
  · rw [if_neg hf, if_neg hf, List.append_assoc, List.singleton_append]
    generalize hr : ((if flagsN m nb cb &&& 2 = 0 then [] else numL (crcOn IEEE 0 (first3 m nb cb) % 65536) 2) ++ behind) = r
    obtain ⟨h1, h2, h3, h4⟩ := str_here (r := r) hz hl (crcOn IEEE 0 (first2 m nb cb))
    rw [if_neg (by simpa using h1), h2, h3, h4, ← hr]
    have e : crcOn IEEE (crcOn IEEE 0 (first2 m nb cb)) (cb ++ [0]) = crcOn IEEE 0 (first3 m nb cb) := by rw [first3, if_neg hf, List.append_assoc, crcOn_append]
    rw [e, rd4_made]

theorem rd2_made {m : Md} {nb cb behind : List UInt8} {h : Hd} (hz : ∀ c ∈ cb, c ≠ 0) (hl : cb.length < 512) (hzn : ∀ c ∈ nb, c ≠ 0) (hln : nb.length < 512) (hn : h.name = ⟨#[]⟩) (hc : h.comment = ⟨#[]⟩) :
    rd2 ((if flagsN m nb cb &&& 8 = 0 then [] else nb ++ [0]) ++ ((if flagsN m nb cb &&& 16 = 0 then [] else cb ++ [0]) ++ ((if flagsN m nb cb &&& 2 = 0 then [] else numL (crcOn IEEE 0 (first3 m nb cb) % 65536) 2) ++ behind))) (flagsN m nb cb) (crcOn IEEE 0 (first1 m nb cb)) h =
      (.none, behind, { h with name := latin nb, comment := latin cb }) := by
  unfold rd2
  by_cases hf : flagsN m nb cb &&& 8 = 0
  · rw [if_pos hf, if_pos hf, List.nil_append]
    have e : crcOn IEEE 0 (first1 m nb cb) = crcOn IEEE 0 (first2 m nb cb) := by rw [first2, if_pos hf]
    rw [e, rd3_made hz hl hc, noName hf]
    have : latin [] = (⟨#[]⟩ : ByteArray) := rfl
    rw [this, ← hn]
  · rw [if_neg hf, if_neg hf, List.append_assoc, List.singleton_append]
    generalize hr : ((if flagsN m nb cb &&& 16 = 0 then [] else cb ++ [0]) ++ ((if flagsN m nb cb &&& 2 = 0 then [] else numL (crcOn IEEE 0 (first3 m nb cb) % 65536) 2) ++ behind)) = r
    obtain ⟨h1, h2, h3, h4⟩ := str_here (r := r) hzn hln (crcOn IEEE 0 (first1 m nb cb))
    rw [if_neg (by simpa using h1), h2, h3, h4, ← hr]
    have e : crcOn IEEE (crcOn IEEE 0 (first1 m nb cb)) (nb ++ [0]) = crcOn IEEE 0 (first2 m nb cb) := by rw [first2, if_neg hf, List.append_assoc, crcOn_append]
    rw [e]
    exact rd3_made (h := { h with name := latin nb }) hz hl hc

theorem rd1_made {m : Md} {nb cb behind : List UInt8} {h : Hd} (hz : ∀ c ∈ cb, c ≠ 0) (hl : cb.length < 512) (hzn : ∀ c ∈ nb, c ≠ 0) (hln : nb.length < 512) (hn : h.name = ⟨#[]⟩) (hc : h.comment = ⟨#[]⟩) (he : h.extra = none) (hx : m.extra.length < 65536) :
    ∃ ex, ex.getD [] = m.extra ∧ rd1 ((if flagsN m nb cb &&& 4 = 0 then [] else numL m.extra.length 2 ++ m.extra) ++ ((if flagsN m nb cb &&& 8 = 0 then [] else nb ++ [0]) ++ ((if flagsN m nb cb &&& 16 = 0 then [] else cb ++ [0]) ++
      ((if flagsN m nb cb &&& 2 = 0 then [] else numL (crcOn IEEE 0 (first3 m nb cb) % 65536) 2) ++ behind)))) (flagsN m nb cb) (crcOn IEEE 0 (first0 m nb cb)) h = (.none, behind, { h with name := latin nb, comment := latin cb, extra := ex }) := by
  unfold rd1
  by_cases hf : flagsN m nb cb &&& 4 = 0
  · refine ⟨none, by rw [noExtra hf]; rfl, ?_⟩
    rw [if_pos hf, if_pos hf, List.nil_append]
    have e : crcOn IEEE 0 (first0 m nb cb) = crcOn IEEE 0 (first1 m nb cb) := by rw [first1, if_pos hf]
    rw [e, rd2_made hz hl hzn hln hn hc, ← he]
  · refine ⟨some m.extra, rfl, ?_⟩
    rw [if_neg hf, if_neg hf, List.append_assoc]
    generalize hr : ((if flagsN m nb cb &&& 8 = 0 then [] else nb ++ [0]) ++ ((if flagsN m nb cb &&& 16 = 0 then [] else cb ++ [0]) ++ ((if flagsN m nb cb &&& 2 = 0 then [] else numL (crcOn IEEE 0 (first3 m nb cb) % 65536) 2) ++ behind))) = r
    obtain ⟨a, b, e, hv⟩ := numL_two m.extra.length hx
    rw [e]
    have h1 : ¬ fullErr ([a, b] ++ (m.extra ++ r)) 2 ≠ .none := by rw [fullErr_ne]; simp
    have h2 : le16of ([a, b] ++ (m.extra ++ r)) = m.extra.length := hv
    have h3 : ([a, b] ++ (m.extra ++ r)).drop 2 = m.extra ++ r := rfl
    have h4 : ¬ fullErr (m.extra ++ r) m.extra.length ≠ .none := by rw [fullErr_ne]; simp
    rw [if_neg h1, h2, h3, if_neg h4, List.drop_left' rfl, List.take_left' rfl]
    have h5 : ([a, b] ++ (m.extra ++ r)).take 2 = [a, b] := rfl
    rw [h5]
    have e2 : crcOn IEEE (crcOn IEEE (crcOn IEEE 0 (first0 m nb cb)) [a, b]) m.extra = crcOn IEEE 0 (first1 m nb cb) := by rw [first1, if_neg hf, e, crcOn_append, crcOn_append]; simp
    rw [e2, ← hr]
    exact rd2_made (h := { h with extra := some m.extra }) hz hl hzn hln hn hc

theorem made_read {m : Md} {nb cb behind : List UInt8} (hz : ∀ c ∈ cb, c ≠ 0) (hl : cb.length < 512) (hzn : ∀ c ∈ nb, c ≠ 0) (hln : nb.length < 512) (hx : m.extra.length < 65536) (hm : 0 ≤ m.mod) (hm2 : m.mod < 4294967296) :
    (readHead (firstL m nb cb ++ behind)).1 = .none ∧ (readHead (firstL m nb cb ++ behind)).2.1 = behind ∧ (readHead (firstL m nb cb ++ behind)).2.2.name = latin nb ∧ (readHead (firstL m nb cb ++ behind)).2.2.comment = latin cb ∧
      (readHead (firstL m nb cb ++ behind)).2.2.extra.getD [] = m.extra ∧ (((readHead (firstL m nb cb ++ behind)).2.2.mod : Nat) : Int) = m.mod ∧ (readHead (firstL m nb cb ++ behind)).2.2.os = m.os.toNat := by
  have e : firstL m nb cb ++ behind = first0 m nb cb ++ ((if flagsN m nb cb &&& 4 = 0 then [] else numL m.extra.length 2 ++ m.extra) ++ ((if flagsN m nb cb &&& 8 = 0 then [] else nb ++ [0]) ++ ((if flagsN m nb cb &&& 16 = 0 then [] else cb ++ [0]) ++
      ((if flagsN m nb cb &&& 2 = 0 then [] else numL (crcOn IEEE 0 (first3 m nb cb) % 65536) 2) ++ behind)))) := by
    generalize hq : numL (crcOn IEEE 0 (first3 m nb cb) % 65536) 2 = q
    unfold firstL
    rw [hq]
    unfold first3 first2 first1
    split <;> split <;> split <;> split <;> simp
  obtain ⟨a, b, c, d, e4, hv⟩ := numL_four m.mod.toNat (by omega)
  have e0 : first0 m nb cb = [31, 139, 8, UInt8.ofNat (flagsN m nb cb), a, b, c, d, m.flags, m.os] := by rw [first0, e4]; rfl
  have hfl : (UInt8.ofNat (flagsN m nb cb)).toNat = flagsN m nb cb := by rw [UInt8.toNat_ofNat']; have := flagsN_lt m nb cb; omega
  obtain ⟨ex, hex, hrd⟩ := rd1_made (m := m) (nb := nb) (cb := cb) (behind := behind) (h := { noHd with mod := le32 a.toNat b.toNat c.toNat d.toNat, os := m.os.toNat }) hz hl hzn hln rfl rfl rfl hx
  rw [e]
  generalize hr : ((if flagsN m nb cb &&& 4 = 0 then [] else numL m.extra.length 2 ++ m.extra) ++ ((if flagsN m nb cb &&& 8 = 0 then [] else nb ++ [0]) ++ ((if flagsN m nb cb &&& 16 = 0 then [] else cb ++ [0]) ++
      ((if flagsN m nb cb &&& 2 = 0 then [] else numL (crcOn IEEE 0 (first3 m nb cb) % 65536) 2) ++ behind)))) = r at hrd ⊢
  have hR : readHead (first0 m nb cb ++ r) = (.none, behind, { noHd with mod := le32 a.toNat b.toNat c.toNat d.toNat, os := m.os.toNat, name := latin nb, comment := latin cb, extra := ex }) := by
    rw [e0] at hrd ⊢
    show readHead (31 :: 139 :: 8 :: UInt8.ofNat (flagsN m nb cb) :: a :: b :: c :: d :: m.flags :: m.os :: r) = _
    rw [readHead_cons, if_pos ⟨rfl, rfl, rfl⟩, hfl, hrd]
  rw [hR]
  refine ⟨rfl, rfl, rfl, rfl, hex, ?_, rfl⟩
  show ((le32 a.toNat b.toNat c.toNat d.toNat : Nat) : Int) = m.mod
  rw [hv]; omega
end Go.Eng
