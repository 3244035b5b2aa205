/-
  A header: what the code reads of it.
-/
import Derived.Test.YtbjbmpcgiokdaaaDoorWGz2
set_option linter.unusedVariables false
set_option linter.unusedSimpArgs false
namespace Go.Eng
open Go Go.Proofs

instance (e : Er) : Decidable (e = .none) := decidable_of_iff (e.isNone = true) Er.isNone_iff

structure Hd where
  name : ByteArray
  comment : ByteArray
  extra : Option (List UInt8)
  mod : Nat
  os : Nat

def noHd : Hd := ⟨⟨#[]⟩, ⟨#[]⟩, none, 0, 0⟩

def le16of (l : List UInt8) : Nat := le16 (l.getD 0 0).toNat (l.getD 1 0).toNat

def rd4 (l : List UInt8) (flg d : Nat) (h : Hd) : Er × List UInt8 × Hd :=
  if flg &&& 2 = 0 then (.none, l, h)
  else if fullErr l 2 ≠ .none then (noEof (fullErr l 2), l.drop 2, h)
  else if le16of l ≠ d % 65536 then (.header, l.drop 2, h)
  else (.none, l.drop 2, h)

def rd3 (l : List UInt8) (flg d : Nat) (h : Hd) : Er × List UInt8 × Hd :=
  if flg &&& 16 = 0 then rd4 l flg d h
  else if strEr l ≠ .none then (noEof (strEr l), l.drop (strUsed l), h)
  else rd4 (l.drop (strUsed l)) flg (strCrc d l) { h with comment := strTxt l }

def rd2 (l : List UInt8) (flg d : Nat) (h : Hd) : Er × List UInt8 × Hd :=
  if flg &&& 8 = 0 then rd3 l flg d h
  else if strEr l ≠ .none then (noEof (strEr l), l.drop (strUsed l), h)
  else rd3 (l.drop (strUsed l)) flg (strCrc d l) { h with name := strTxt l }

def rd1 (l : List UInt8) (flg d : Nat) (h : Hd) : Er × List UInt8 × Hd :=
  if flg &&& 4 = 0 then rd2 l flg d h
  else if fullErr l 2 ≠ .none then (noEof (fullErr l 2), l.drop 2, h)
  else if fullErr (l.drop 2) (le16of l) ≠ .none then (noEof (fullErr (l.drop 2) (le16of l)), (l.drop 2).drop (le16of l), h)
  else rd2 ((l.drop 2).drop (le16of l)) flg (crcOn IEEE (crcOn IEEE d (l.take 2)) ((l.drop 2).take (le16of l))) { h with extra := some ((l.drop 2).take (le16of l)) }

/-- What readHeader makes of bytes: how it ends, what is left, the header. -/
def readHead (l : List UInt8) : Er × List UInt8 × Hd :=
  if fullErr l 10 ≠ .none then (fullErr l 10, l.drop 10, noHd)
  else if (l.getD 0 0).toNat = 31 ∧ (l.getD 1 0).toNat = 139 ∧ (l.getD 2 0).toNat = 8 then
    rd1 (l.drop 10) (l.getD 3 0).toNat (crcOn IEEE 0 (l.take 10)) { noHd with mod := le32 (l.getD 4 0).toNat (l.getD 5 0).toNat (l.getD 6 0).toNat (l.getD 7 0).toNat, os := (l.getD 9 0).toNat }
  else (.header, l.drop 10, noHd)

theorem fullErr_ne {l : List UInt8} {m : Nat} : fullErr l m ≠ .none ↔ l.length < m := by
  unfold fullErr
  split
  · simp; omega
  · split <;> simp <;> omega

theorem ten {l : List UInt8} (h : fullErr l 10 = .none) : ∃ v0 v1 v2 v3 v4 v5 v6 v7 v8 v9 r, l = v0 :: v1 :: v2 :: v3 :: v4 :: v5 :: v6 :: v7 :: v8 :: v9 :: r := by
  have hl : 10 ≤ l.length := by
    rcases Nat.lt_or_ge l.length 10 with h1 | h1
    · exact absurd h (fullErr_ne.2 h1)
    · exact h1
  match l, hl with
  | a0 :: a1 :: a2 :: a3 :: a4 :: a5 :: a6 :: a7 :: a8 :: a9 :: r, _ => exact ⟨_, _, _, _, _, _, _, _, _, _, _, rfl⟩

theorem two {l : List UInt8} (h : fullErr l 2 = .none) : ∃ v0 v1 r, l = v0 :: v1 :: r := by
  have hl : 2 ≤ l.length := by
    rcases Nat.lt_or_ge l.length 2 with h1 | h1
    · exact absurd h (fullErr_ne.2 h1)
    · exact h1
  match l, hl with
  | a0 :: a1 :: r, _ => exact ⟨_, _, _, rfl⟩

theorem full_len {l : List UInt8} {m : Nat} (h : fullErr l m = .none) : m ≤ l.length := by
  rcases Nat.lt_or_ge l.length m with h1 | h1
  · exact absurd h (fullErr_ne.2 h1)
  · exact h1

theorem readHead_cons (v0 v1 v2 v3 v4 v5 v6 v7 v8 v9 : UInt8) (r : List UInt8) : readHead (v0 :: v1 :: v2 :: v3 :: v4 :: v5 :: v6 :: v7 :: v8 :: v9 :: r) =
    if v0.toNat = 31 ∧ v1.toNat = 139 ∧ v2.toNat = 8 then rd1 r v3.toNat (crcOn IEEE 0 [v0, v1, v2, v3, v4, v5, v6, v7, v8, v9]) { noHd with mod := le32 v4.toNat v5.toNat v6.toNat v7.toNat, os := v9.toNat } else (.header, r, noHd) := by
  have : ¬ fullErr (v0 :: v1 :: v2 :: v3 :: v4 :: v5 :: v6 :: v7 :: v8 :: v9 :: r) 10 ≠ .none := by rw [fullErr_ne]; simp only [List.length_cons]; omega
  rw [readHead, if_neg this]
  rfl

theorem readHead_bad {l : List UInt8} (h : fullErr l 10 ≠ .none) : readHead l = (fullErr l 10, l.drop 10, noHd) := by rw [readHead, if_pos h]

/-- The slice of the extra field, with its fragment (an empty one beside another where there is none). -/
def ExAt (ex : Option (List UInt8)) (xa : Option Addr) (xn : Nat) (g : Frag) : Prop := match ex with
  | none => xa = none ∧ xn = 0 ∧ g.cs = []
  | some data => ∃ b, xa = some ⟨b, 0, none⟩ ∧ xn = data.length ∧ g = ⟨b, 0, bytesV data⟩ ∧ data.length < 65536

/-- A time of so many seconds; 0: none. -/
def timeN (t : Nat) : Nat := if t = 0 then 0 else t + 62135596800
def timeV (t : Nat) : Int := ((timeN t : Nat) : Int)

theorem timeV_pos {t : Nat} (h : ((0 : Nat) : Int) < ((t : Nat) : Int)) : ((t + 62135596800 : Nat) : Int) = timeV t := by rw [timeV, timeN, if_neg (by omega)]
theorem timeV_zero {t : Nat} (h : ¬ ((0 : Nat) : Int) < ((t : Nat) : Int)) : (0 : Int) = timeV t := by rw [timeV, timeN, if_pos (by omega)]; rfl

def headV (h : Hd) (xa : Option Addr) (xn : Nat) : List Value := [.string h.comment, .slice xa xn xn, .int .u64 0, .int .i64 (timeV h.mod), .string h.name, .int .u8 ((h.os : Nat) : Int)]

theorem Same.addEmpty {L : Frags} {f : Frag} (hm : f ∈ L) (o' : Nat) : Same L (⟨f.b, o', []⟩ :: L) := by
  obtain ⟨A, B, rfl⟩ := List.append_of_mem hm
  have s1 : Same (A ++ f :: B) (f :: (A ++ B)) := Same.perm List.perm_middle
  have s2 : Same (f :: (A ++ B)) (f :: ⟨f.b, o', []⟩ :: (A ++ B)) := Same.empty f.b f.o o' f.cs (A ++ B)
  have s3 : Same (f :: ⟨f.b, o', []⟩ :: (A ++ B)) (⟨f.b, o', []⟩ :: (A ++ f :: B)) := Same.perm ((List.Perm.swap _ _ _).trans (List.perm_middle.symm.cons _))
  exact (s1.trans s2).trans s3

section
variable {P : Program} {K : Known}

/-- What is of no more use is dropped. -/
theorem Fn.lose {f : FuncId} {args : Array Value} {L : Frags} {R R' : Value → Frags → Prop} (h : Fn P K f args L R) (s : ∀ v L', R v L' → ∃ A F, Same L' (A ++ F) ∧ R' v A) : Fn P K f args L R' :=
  fun w hw => Calls.mono (h w hw) fun _ _ ⟨v, L', e, r, t⟩ => by
    obtain ⟨A, F, h1, h2⟩ := s v L' r
    exact ⟨v, A, e, h2, (t.sameR h1).drop⟩
end

theorem noEof_ne {e : Er} (h : e ≠ .none) : noEof e ≠ .none := by
  by_cases h2 : e = .se 0
  · rw [noEof_eof h2]; simp
  · rw [noEof_other h2]; exact h

theorem strCrc_lt {d : Nat} (h : d < 4294967296) (l : List UInt8) : strCrc d l < 4294967296 := by
  unfold strCrc
  split
  · exact crcOn_lt (by decide) h _
  · exact h

theorem buf_full {bs : List Value} {l : List UInt8} {m : Nat} (hm : m ≤ l.length) : bytesV (l.take m) ++ (bs.take m).drop (Nat.min m l.length) = bytesV (l.take m) := by
  have : Nat.min m l.length = m := Nat.min_eq_left hm
  rw [this, List.drop_eq_nil_of_le (by rw [List.length_take]; omega), List.append_nil]

theorem full_all {cs : List Value} {l : List UInt8} {m : Nat} (hm : m ≤ l.length) (hc : cs.length = m) : bytesV (l.take m) ++ cs.drop (Nat.min m l.length) = bytesV (l.take m) := by
  have : Nat.min m l.length = m := Nat.min_eq_left hm
  rw [this, List.drop_eq_nil_of_le (by omega), List.append_nil]

theorem part_all {l : List UInt8} : ((bytesV l).drop 0).take (bytesV l).length = bytesV l := by rw [List.drop_zero, List.take_length]

/-- A buffer's beginning is read anew. -/
theorem buf_join {bs : List Value} {l : List UInt8} {m : Nat} (hm : m ≤ bs.length) : (bytesV (l.take m) ++ (bs.take m).drop (Nat.min m l.length) ++ bs.drop m).length = bs.length := by
  have : Nat.min m l.length = min m l.length := rfl
  simp only [List.length_append, bytesV_length, List.length_take, List.length_drop, this]
  omega
end Go.Eng
