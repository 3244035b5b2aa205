/-
  The reference's header in plain terms, and that the code's reading agrees with it.
-/
import Derived.Test.YtbjbmpcgiokdaaaDoorWSp2
set_option linter.unusedVariables false
set_option linter.unusedSimpArgs false
namespace Go.Eng
open Go Go.Proofs

abbrev SpR := Hd × Nat × Nat × Nat

/-- The check of the header (RFC 1952, flag 2). -/
def sp4 (b : List UInt8) (flg n : Nat) (h : Hd) : SpR :=
  if flg &&& 2 = 0 then (h, n, 0, 0)
  else if b.length - n < 2 then (h, 0, 1, 0)
  else if le16of (b.drop n) ≠ crcOn IEEE 0 (b.take n) % 65536 then (h, 0, 1, 2)
  else (h, n + 2, 0, 0)

def sp3 (b : List UInt8) (flg n : Nat) (h : Hd) : SpR :=
  if flg &&& 16 = 0 then sp4 b flg n h
  else if n + strLen (b.drop n) = b.length then (h, 0, 1, 0)
  else if 512 ≤ strLen (b.drop n) then (h, 0, 2, 0)
  else sp4 b flg (n + (strLen (b.drop n) + 1)) { h with comment := latin ((b.drop n).take (strLen (b.drop n))) }

def sp2 (b : List UInt8) (flg n : Nat) (h : Hd) : SpR :=
  if flg &&& 8 = 0 then sp3 b flg n h
  else if n + strLen (b.drop n) = b.length then (h, 0, 1, 0)
  else if 512 ≤ strLen (b.drop n) then (h, 0, 2, 0)
  else sp3 b flg (n + (strLen (b.drop n) + 1)) { h with name := latin ((b.drop n).take (strLen (b.drop n))) }

def sp1 (b : List UInt8) (flg : Nat) (h : Hd) : SpR :=
  if flg &&& 4 = 0 then sp2 b flg 10 h
  else if b.length - 10 < 2 ∨ b.length - 10 - 2 < le16of (b.drop 10) then (h, 0, 1, 0)
  else sp2 b flg (10 + (2 + le16of (b.drop 10))) { h with extra := some (((b.drop 10).drop 2).take (le16of (b.drop 10))) }

def spStart (b : List UInt8) : SpR :=
  if b.length < 10 then (noHd, 0, 1, 0)
  else if (b.getD 0 0).toNat = 31 ∧ (b.getD 1 0).toNat = 139 ∧ (b.getD 2 0).toNat = 8 then
    if (b.getD 3 0).toNat &&& 224 ≠ 0 then (noHd, 0, 2, 0)
    else sp1 b (b.getD 3 0).toNat { noHd with mod := le32 (b.getD 4 0).toNat (b.getD 5 0).toNat (b.getD 6 0).toNat (b.getD 7 0).toNat, os := (b.getD 9 0).toNat }
  else (noHd, 0, 1, 2)

/-- What the code's reading has to do with the reference's: nothing is said of open ones; good ones are read alike and so far; of bad ones there is an error, the header's own where it is told. -/
def Agrees (l : List UInt8) (r : Er × List UInt8 × Hd) (s : SpR) : Prop :=
  (s.2.2.1 = 2) ∨ (s.2.2.1 = 0 ∧ r.1 = .none ∧ r.2.1 = l.drop s.2.1 ∧ s.2.1 ≤ l.length ∧ r.2.2 = s.1) ∨ (s.2.2.1 = 1 ∧ r.1 ≠ .none ∧ (s.2.2.2 = 2 → r.1 = .header))

theorem agrees4 {b : List UInt8} {flg n d : Nat} {h : Hd} (hn : n ≤ b.length) (hd : d = crcOn IEEE 0 (b.take n)) : Agrees b (rd4 (b.drop n) flg d h) (sp4 b flg n h) := by
  unfold rd4 sp4
  by_cases h1 : flg &&& 2 = 0
  · rw [if_pos h1, if_pos h1]
    exact .inr (.inl ⟨rfl, rfl, rfl, hn, rfl⟩)
  · rw [if_neg h1, if_neg h1]
    have hl : (b.drop n).length = b.length - n := List.length_drop
    by_cases h2 : b.length - n < 2
    · have h3 : fullErr (b.drop n) 2 ≠ .none := fullErr_ne.2 (by omega)
      rw [if_pos h3, if_pos h2]
      exact .inr (.inr ⟨rfl, noEof_ne h3, fun h => by cases h⟩)
    · have h3 : ¬ fullErr (b.drop n) 2 ≠ .none := fun h => h2 (by rw [fullErr_ne] at h; omega)
      rw [if_neg h3, if_neg h2, hd]
      split
      · exact .inr (.inr ⟨rfl, by simp, fun _ => rfl⟩)
      · exact .inr (.inl ⟨rfl, rfl, List.drop_drop, by simp only; omega, rfl⟩)

theorem str_cases (l : List UInt8) : (strLen l = l.length ∧ strEr l ≠ .none) ∨ (strLen l < l.length ∧ 512 ≤ strLen l) ∨ (strLen l < l.length ∧ strLen l < 512 ∧ strEr l = .none ∧ strUsed l = strLen l + 1 ∧ strTxt l = latin (l.take (strLen l)) ∧ ∀ d, strCrc d l = crcOn IEEE d (l.take (strLen l + 1))) := by
  have hle := strLen_le l
  rcases Nat.lt_or_ge (strLen l) l.length with h | h
  · right
    rcases Nat.lt_or_ge (strLen l) 512 with h2 | h2
    · right
      have h3 : min (strLen l + 1) l.length = strLen l + 1 := by omega
      simp [strEr, strUsed, strTxt, strCrc, strOk, h, h2, h3]
    · exact .inl ⟨h, h2⟩
  · left
    refine ⟨by omega, ?_⟩
    unfold strEr
    split
    · rw [if_neg (by omega)]; simp
    · simp

theorem crc_more {b : List UInt8} {n k : Nat} (d : Nat) (hd : d = crcOn IEEE 0 (b.take n)) : crcOn IEEE d ((b.drop n).take k) = crcOn IEEE 0 (b.take (n + k)) := by
  rw [hd, crcOn_append, ← List.take_add]

theorem agrees3 {b : List UInt8} {flg n d : Nat} {h : Hd} (hn : n ≤ b.length) (hd : d = crcOn IEEE 0 (b.take n)) : Agrees b (rd3 (b.drop n) flg d h) (sp3 b flg n h) := by
  unfold rd3 sp3
  by_cases h1 : flg &&& 16 = 0
  · rw [if_pos h1, if_pos h1]; exact agrees4 hn hd
  · rw [if_neg h1, if_neg h1]
    have hl : (b.drop n).length = b.length - n := List.length_drop
    rcases str_cases (b.drop n) with ⟨e1, e2⟩ | ⟨e1, e2⟩ | ⟨e1, e2, e3, e4, e5, e6⟩
    · rw [if_pos e2, if_pos (by omega)]
      exact .inr (.inr ⟨rfl, noEof_ne e2, fun h => by cases h⟩)
    · rw [if_neg (by omega : ¬ n + strLen (b.drop n) = b.length), if_pos e2]
      exact .inl rfl
    · rw [if_neg (by simpa using e3), if_neg (by omega : ¬ n + strLen (b.drop n) = b.length), if_neg (by omega : ¬ 512 ≤ strLen (b.drop n)), e4, e5, List.drop_drop]
      exact agrees4 (by omega) (by rw [e6]; exact crc_more d hd)

theorem agrees2 {b : List UInt8} {flg n d : Nat} {h : Hd} (hn : n ≤ b.length) (hd : d = crcOn IEEE 0 (b.take n)) : Agrees b (rd2 (b.drop n) flg d h) (sp2 b flg n h) := by
  unfold rd2 sp2
  by_cases h1 : flg &&& 8 = 0
  · rw [if_pos h1, if_pos h1]; exact agrees3 hn hd
  · rw [if_neg h1, if_neg h1]
    have hl : (b.drop n).length = b.length - n := List.length_drop
    rcases str_cases (b.drop n) with ⟨e1, e2⟩ | ⟨e1, e2⟩ | ⟨e1, e2, e3, e4, e5, e6⟩
    · rw [if_pos e2, if_pos (by omega)]
      exact .inr (.inr ⟨rfl, noEof_ne e2, fun h => by cases h⟩)
    · rw [if_neg (by omega : ¬ n + strLen (b.drop n) = b.length), if_pos e2]
      exact .inl rfl
    · rw [if_neg (by simpa using e3), if_neg (by omega : ¬ n + strLen (b.drop n) = b.length), if_neg (by omega : ¬ 512 ≤ strLen (b.drop n)), e4, e5, List.drop_drop]
      exact agrees3 (by omega) (by rw [e6]; exact crc_more d hd)

theorem agrees1 {b : List UInt8} {flg d : Nat} {h : Hd} (hn : 10 ≤ b.length) (hd : d = crcOn IEEE 0 (b.take 10)) : Agrees b (rd1 (b.drop 10) flg d h) (sp1 b flg h) := by
  unfold rd1 sp1
  by_cases h1 : flg &&& 4 = 0
  · rw [if_pos h1, if_pos h1]; exact agrees2 hn hd
  · rw [if_neg h1, if_neg h1]
    have hl : (b.drop 10).length = b.length - 10 := List.length_drop
    have hl2 : ((b.drop 10).drop 2).length = b.length - 10 - 2 := by rw [List.length_drop, hl]
    by_cases h2 : b.length - 10 < 2
    · have h3 : fullErr (b.drop 10) 2 ≠ .none := fullErr_ne.2 (by omega)
      rw [if_pos h3, if_pos (.inl h2)]
      exact .inr (.inr ⟨rfl, noEof_ne h3, fun h => by cases h⟩)
    · have h3 : ¬ fullErr (b.drop 10) 2 ≠ .none := fun h => h2 (by rw [fullErr_ne] at h; omega)
      rw [if_neg h3]
      by_cases h4 : b.length - 10 - 2 < le16of (b.drop 10)
      · have h5 : fullErr ((b.drop 10).drop 2) (le16of (b.drop 10)) ≠ .none := fullErr_ne.2 (by omega)
        rw [if_pos h5, if_pos (.inr h4)]
        exact .inr (.inr ⟨rfl, noEof_ne h5, fun h => by cases h⟩)
      · have h5 : ¬ fullErr ((b.drop 10).drop 2) (le16of (b.drop 10)) ≠ .none := fun h => h4 (by rw [fullErr_ne] at h; omega)
        rw [if_neg h5, if_neg (by omega)]
        have e1 : ((b.drop 10).drop 2).drop (le16of (b.drop 10)) = b.drop (10 + (2 + le16of (b.drop 10))) := by rw [List.drop_drop, List.drop_drop]
        rw [e1]
        refine agrees2 (by omega) ?_
        rw [crc_more d hd, List.drop_drop, crc_more _ rfl, Nat.add_assoc]

theorem agrees (b : List UInt8) : Agrees b (readHead b) (spStart b) := by
  unfold readHead spStart
  by_cases h1 : b.length < 10
  · have h2 : fullErr b 10 ≠ .none := fullErr_ne.2 h1
    rw [if_pos h2, if_pos h1]
    exact .inr (.inr ⟨rfl, h2, fun h => by cases h⟩)
  · have h2 : ¬ fullErr b 10 ≠ .none := fun h => h1 (fullErr_ne.1 h)
    rw [if_neg h2, if_neg h1]
    split
    · split
      · exact .inl rfl
      · exact agrees1 (by omega) rfl
    · exact .inr (.inr ⟨rfl, by simp, fun _ => rfl⟩)
end Go.Eng
