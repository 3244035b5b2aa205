/-
  A text of a header: how far it goes, what it is.
-/
import Derived.Test.YtbjbmpcgiokdaaaDoorWFl0
set_option linter.unusedVariables false
set_option linter.unusedSimpArgs false
namespace Go.Eng
open Go Go.Proofs

def strLen (l : List UInt8) : Nat := (l.takeWhile (fun c => c != 0)).length

theorem strLen_found : ∀ {l : List UInt8} {i : Nat}, (∀ c ∈ l.take i, c ≠ 0) → l[i]? = some 0 → strLen l = i
  | [], i, _, h => by simp at h
  | c :: r, 0, _, h => by
    simp only [List.getElem?_cons_zero, Option.some.injEq] at h
    subst h
    rfl
  | c :: r, i + 1, hn, h => by
    have hc : c ≠ 0 := hn c (by simp)
    have := strLen_found (l := r) (i := i) (fun x hx => hn x (by simp [hx])) (by simpa using h)
    unfold strLen at this ⊢
    rw [List.takeWhile_cons]
    simp [hc, this]

theorem strLen_end : ∀ {l : List UInt8}, (∀ c ∈ l, c ≠ 0) → strLen l = l.length
  | [], _ => rfl
  | c :: r, hn => by
    have hc : c ≠ 0 := hn c (by simp)
    have := strLen_end (l := r) (fun x hx => hn x (by simp [hx]))
    unfold strLen at this ⊢
    rw [List.takeWhile_cons]
    simp [hc, this]

theorem strLen_long : ∀ {l : List UInt8} {i : Nat}, (∀ c ∈ l.take i, c ≠ 0) → i ≤ l.length → i ≤ strLen l
  | _, 0, _, _ => Nat.zero_le _
  | [], i + 1, _, h => by simp at h
  | c :: r, i + 1, hn, h => by
    have hc : c ≠ 0 := hn c (by simp)
    have := strLen_long (l := r) (i := i) (fun x hx => hn x (by simp [hx])) (by simpa using h)
    unfold strLen at this ⊢
    rw [List.takeWhile_cons]
    simp [hc, this]

theorem strLen_le (l : List UInt8) : strLen l ≤ l.length := List.Sublist.length_le (List.takeWhile_sublist _)

/-- The text of bytes of ISO 8859-1. -/
def latin (l : List UInt8) : ByteArray := runesBytes (l.map fun c => ((c.toNat : Nat) : Int))

def strOk (l : List UInt8) : Bool := decide (strLen l < 512) && decide (strLen l < l.length)
def strEr (l : List UInt8) : Er := if strLen l < 512 then (if strLen l < l.length then .none else .eof) else .header
def strUsed (l : List UInt8) : Nat := if strLen l < 512 then min (strLen l + 1) l.length else 512
def strTxt (l : List UInt8) : ByteArray := if strOk l then latin (l.take (strLen l)) else ⟨#[]⟩
def strCrc (d : Nat) (l : List UInt8) : Nat := if strOk l then crcOn IEEE d (l.take (strLen l + 1)) else d

theorem str_header {l : List UInt8} (h : (∀ c ∈ l.take 512, c ≠ 0)) (hl : 512 ≤ l.length) (d : Nat) : strEr l = .header ∧ strUsed l = 512 ∧ strTxt l = ⟨#[]⟩ ∧ strCrc d l = d := by
  have h1 := strLen_long h hl
  have h2 : ¬ strLen l < 512 := by omega
  simp [strEr, strUsed, strTxt, strCrc, strOk, h2]
theorem str_eof {l : List UInt8} (h : (∀ c ∈ l, c ≠ 0)) (hl : l.length < 512) (d : Nat) : strEr l = .eof ∧ strUsed l = l.length ∧ strTxt l = ⟨#[]⟩ ∧ strCrc d l = d := by
  have h1 := strLen_end h
  simp [strEr, strUsed, strTxt, strCrc, strOk, h1, hl]
theorem str_ok {l : List UInt8} {i : Nat} (h : (∀ c ∈ l.take i, c ≠ 0)) (h0 : l[i]? = some 0) (hi : i < 512) (d : Nat) : strEr l = .none ∧ strUsed l = i + 1 ∧ strTxt l = latin (l.take i) ∧ strCrc d l = crcOn IEEE d (l.take (i + 1)) := by
  have h1 := strLen_found h h0
  have h2 : i < l.length := (List.getElem?_eq_some_iff.1 h0).1
  have h3 : min (i + 1) l.length = i + 1 := by omega
  simp [strEr, strUsed, strTxt, strCrc, strOk, h1, hi, h2, h3]

theorem encode_byte (c : UInt8) : Utf8.encode ((c.toNat : Nat) : Int) = if c.toNat < 128 then ⟨#[c]⟩ else ⟨#[UInt8.ofNat (192 + c.toNat / 64), UInt8.ofNat (128 + c.toNat % 64)]⟩ := by
  have hc := c.toNat_lt
  have hv : Utf8.valid ((c.toNat : Nat) : Int) = true := by
    unfold Utf8.valid
    simp; omega
  unfold Utf8.encode
  simp only [hv, if_true, Int.toNat_natCast]
  by_cases h : c.toNat < 128
  · rw [if_pos h, if_pos h]; simp
  · rw [if_neg h, if_neg h, if_pos (by omega)]

theorem encode_ascii (c : UInt8) (h : c.toNat ≤ 127) : Utf8.encode ((c.toNat : Nat) : Int) = ⟨#[c]⟩ := by
  rw [encode_byte, if_pos (by omega)]

theorem latin_ascii_go : ∀ (l : List UInt8) (s : ByteArray), (∀ c ∈ l, c.toNat ≤ 127) → (l.map fun c => ((c.toNat : Nat) : Int)).foldl (fun r n => r ++ Utf8.encode n) s = ⟨s.data ++ l.toArray⟩
  | [], s, _ => by simp
  | c :: r, s, h => by
    rw [List.map_cons, List.foldl_cons, encode_ascii c (h c (by simp)), latin_ascii_go r _ (fun x hx => h x (by simp [hx]))]
    simp

theorem latin_ascii {l : List UInt8} (h : ∀ c ∈ l, c.toNat ≤ 127) : latin l = ⟨l.toArray⟩ := by
  unfold latin runesBytes
  rw [latin_ascii_go l _ h]
  simp

theorem take_snoc {α : Type} {l : List α} {i : Nat} (h : i < l.length) : l.take (i + 1) = l.take i ++ [l[i]] := by
  rw [List.take_add_one, List.getElem?_eq_getElem h]; rfl

def big (c : UInt8) : Bool := decide (127 < c.toNat)

theorem any_snoc {l : List UInt8} {i : Nat} (h : i < l.length) : (l.take (i + 1)).any big = ((l.take i).any big || big l[i]) := by
  rw [take_snoc h, List.any_append]; simp only [List.any_cons, List.any_nil, Bool.or_false]

theorem any_true {l : List UInt8} {i : Nat} (h : i < l.length) (hb : ((127 : Nat) : Int) < ((l[i].toNat : Nat) : Int)) : true = (l.take (i + 1)).any big := by
  have : big l[i] = true := decide_eq_true (by omega)
  rw [any_snoc h, this, Bool.or_true]
theorem any_keep {l : List UInt8} {i : Nat} {nc : Bool} (h : i < l.length) (hnc : nc = (l.take i).any big) (hb : ¬ ((127 : Nat) : Int) < ((l[i].toNat : Nat) : Int)) : nc = (l.take (i + 1)).any big := by
  have : big l[i] = false := decide_eq_false (by omega)
  rw [any_snoc h, this, Bool.or_false]; exact hnc

theorem none_big {l : List UInt8} (h : l.any big = false) : ∀ c ∈ l, c.toNat ≤ 127 := by
  intro c hc
  have := List.any_eq_false.1 h c hc
  simpa [big] using this

/-- A byte is written behind those that are there. -/
theorem buf_set {l : List UInt8} {bs : List Value} {i : Nat} (h : i < l.length) (hb : i < bs.length) (hbl : bs.length = 512) : (bytesV (l.take i) ++ bs.drop i).set i (u8 l[i]) = bytesV (l.take (i + 1)) ++ bs.drop (i + 1) := by
  have hl : (bytesV (l.take i)).length = i := by rw [bytesV_length, List.length_take]; omega
  rw [List.set_append_right _ _ (by omega), hl, Nat.sub_self, List.drop_eq_getElem_cons hb, List.set_cons_zero, take_snoc h, bytesV_append, List.append_assoc]
  rfl

theorem buf_get {l : List UInt8} {bs : List Value} {i : Nat} (h : i < l.length) : (bytesV (l.take (i + 1)) ++ bs.drop (i + 1))[i]? = some (u8 l[i]) := by
  rw [List.getElem?_append_left (by rw [bytesV_length, List.length_take]; omega)]
  have : i < (l.take (i + 1)).length := by rw [List.length_take]; omega
  rw [bytesV_get this]
  simp

theorem buf_part {l : List UInt8} {bs : List Value} {i : Nat} : ((bytesV (l.take (i + 1)) ++ bs.drop (i + 1)).drop 0).take (bytesV (l.take (i + 1))).length = bytesV (l.take (i + 1)) := by
  rw [List.drop_zero]; exact List.take_left

theorem buf_part1 {l : List UInt8} {bs : List Value} {i : Nat} (h : i < l.length) : ((bytesV (l.take (i + 1)) ++ bs.drop (i + 1)).drop 0).take (bytesV (l.take i)).length = bytesV (l.take i) := by
  rw [List.drop_zero, take_snoc h, bytesV_append, List.append_assoc]
  exact List.take_left

def runesV (l : List UInt8) : List Value := l.map fun c => .int .i32 ((c.toNat : Nat) : Int)

theorem runesV_snoc {l : List UInt8} {i : Nat} (h : i < l.length) : runesV (l.take (i + 1)) = runesV (l.take i) ++ [.int .i32 ((l[i].toNat : Nat) : Int)] := by
  unfold runesV; rw [take_snoc h, List.map_append]; rfl

theorem runesV_length (l : List UInt8) : (runesV l).length = l.length := by simp [runesV]

theorem arr1 (f : Nat → Value) (v : Value) : ((Array.range 1).map f).setIfInBounds 0 v = #[v] := by
  rw [show Array.range 1 = #[0] by decide]; simp

theorem infoI32 : Tryd.prog.info? 21 = some Tryd.t21 := by kernel_rfl

section
variable {K : Known} {n : Nat} {env : Env} {L : Frags} {ty : TypeId}

/-- append of a rune. -/
theorem X.appendRune {x y : Operand} {b o m c yb : Nat} {z : Int} {cs xs : List Value} {yc : Nat}
    (hx : ev? env x = some (.slice (some ⟨b, o, none⟩) m c)) (hy : ev? env y = some (.slice (some ⟨yb, 0, none⟩) 1 yc)) (hxs : cs.take m = xs) (hl : cs.length = c) (hm : m ≤ c) (hc : c ≤ 9223372036854775807) (hb : m ≤ 100000) :
    OpX Tryd.prog K n (.call { callee := .builtin .append, args := #[x, y], argTypes := #[140, 140] }) ty env (⟨b, o, cs⟩ :: ⟨yb, 0, [.int .i32 z]⟩ :: L) fun v' L' =>
      ∃ b' o' c' cs', v' = .slice (some ⟨b', o', none⟩) (m + 1) c' ∧ cs'.take (m + 1) = xs ++ [.int .i32 z] ∧ cs'.length = c' ∧ m + 1 ≤ c' ∧ c' ≤ 9223372036854775807 ∧ L' = ⟨b', o', cs'⟩ :: ⟨yb, 0, [.int .i32 z]⟩ :: L := by
  have hxl : xs.length = m := by rw [← hxs, List.length_take]; omega
  have h := X.append (P := Tryd.prog) (H0 := K) (n := n) (ty := ty) (L := ⟨yb, 0, [.int .i32 z]⟩ :: L) (Lf := [⟨b, o, cs⟩]) (s := 1) (bytes := 4) (t := 140) (m := m) (k := 1) (xs := xs) (ys := [.int .i32 z]) Tryd.underlying140 infoI32 (z := .int .i32 0) rfl rfl rfl rfl (by decide) hx hy
    ⟨by rw [hxl, Nat.mul_one], .inr ⟨b, o, c, cs, rfl, rfl, by rw [hl, Nat.mul_one], hm, hc, by rw [Nat.mul_one]; exact hxs⟩⟩ rfl
    (.inr ⟨yb, 0, rfl, Reads.frag (i := 1) (k := 0) rfl rfl⟩) rfl (by omega) (by omega)
  refine OpX.mono h fun v' L' => ?_
  rintro ⟨Lf', h1, h2⟩
  obtain ⟨b', o', c', cs', e1, e2, e3, e4, e5, e6⟩ := h1.one (by omega)
  subst e2
  exact ⟨b', o', c', cs', e1, by rw [Nat.mul_one] at e6; exact e6, by rw [Nat.mul_one] at e3; exact e3, e4, e5, h2⟩
end
end Go.Eng
