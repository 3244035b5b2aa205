/-
  CRC-32 in plain terms: division bit by bit, tables, and that both agree.
-/
import Derived.Test.YtbjbmpcgiokdaaaDoorEng5
set_option linter.unusedVariables false
set_option linter.unusedSimpArgs false
namespace Go.Eng
open Go

abbrev u32 (x : Nat) : Value := .int .u32 (x : Int)

def div1 (poly c : Nat) : Nat := if c &&& 1 = 1 then c >>> 1 ^^^ poly else c >>> 1

def divN (poly : Nat) : Nat → Nat → Nat
  | 0, c => c
  | n + 1, c => div1 poly (divN poly n c)

theorem xor32 {a b : Nat} (ha : a < 4294967296) (hb : b < 4294967296) : a ^^^ b < 4294967296 := Nat.xor_lt_two_pow (n := 32) ha hb
theorem xor8 {a b : Nat} (ha : a < 256) (hb : b < 256) : a ^^^ b < 256 := Nat.xor_lt_two_pow (n := 8) ha hb

theorem div1_lt {poly c : Nat} (hp : poly < 4294967296) (hc : c < 4294967296) : div1 poly c < 4294967296 := by
  unfold div1
  split
  · exact xor32 (by omega) hp
  · omega

theorem divN_lt {poly : Nat} (hp : poly < 4294967296) : ∀ n c, c < 4294967296 → divN poly n c < 4294967296
  | 0, _, h => h
  | n + 1, c, h => div1_lt hp (divN_lt hp n c h)

/-- One round of the inner loop. -/
theorem divN_odd {poly j i c : Nat} (h : c = divN poly j i) (ho : ((c &&& 1 : Nat) : Int) = 1) : c >>> 1 ^^^ poly = divN poly (j + 1) i := by
  have ho' : c &&& 1 = 1 := by exact_mod_cast ho
  rw [divN, ← h, div1, if_pos ho']
theorem divN_even {poly j i c : Nat} (h : c = divN poly j i) (ho : ¬ ((c &&& 1 : Nat) : Int) = 1) : c >>> 1 = divN poly (j + 1) i := by
  have ho' : ¬ (c &&& 1 = 1) := fun h => ho (by exact_mod_cast h)
  rw [divN, ← h, div1, if_neg ho']

/-- The first table as it is filled. -/
def fillT (poly : Nat) : Nat → List Value → List Value
  | 0, cs => cs
  | i + 1, cs => (fillT poly i cs).set i (u32 (divN poly 8 i))

theorem fillT_length (poly : Nat) : ∀ i cs, (fillT poly i cs).length = cs.length
  | 0, _ => rfl
  | i + 1, cs => by rw [fillT, List.length_set]; exact fillT_length poly i cs

/-! ### Linear laws -/

theorem and1_xor (a b : Nat) : (a ^^^ b) &&& 1 = if (a &&& 1) = (b &&& 1) then 0 else 1 := by
  have h := Nat.xor_mod_two_pow (a := a) (b := b) (n := 1)
  simp only [Nat.and_one_is_mod]
  rw [show (2 : Nat) ^ 1 = 2 from rfl] at h
  rw [h]
  have ha : a % 2 = 0 ∨ a % 2 = 1 := by omega
  have hb : b % 2 = 0 ∨ b % 2 = 1 := by omega
  rcases ha with ha | ha <;> rcases hb with hb | hb <;> rw [ha, hb] <;> rfl

theorem shr_xor (a b n : Nat) : (a ^^^ b) >>> n = (a >>> n) ^^^ (b >>> n) := by
  apply Nat.eq_of_testBit_eq
  intro i
  simp [Nat.testBit_xor, Nat.testBit_shiftRight]

theorem xor_right_comm (a b c : Nat) : a ^^^ b ^^^ c = a ^^^ c ^^^ b := by rw [Nat.xor_assoc, Nat.xor_comm b c, ← Nat.xor_assoc]

theorem div1_xor (poly a b : Nat) : div1 poly (a ^^^ b) = div1 poly a ^^^ div1 poly b := by
  have ha : a &&& 1 = 0 ∨ a &&& 1 = 1 := by rw [Nat.and_one_is_mod]; omega
  have hb : b &&& 1 = 0 ∨ b &&& 1 = 1 := by rw [Nat.and_one_is_mod]; omega
  unfold div1
  rw [and1_xor, shr_xor]
  rcases ha with ha | ha <;> rcases hb with hb | hb <;> simp only [ha, hb] <;> simp only [if_true, if_false, Nat.zero_ne_one, Nat.one_ne_zero]
  · rw [Nat.xor_assoc]
  · exact xor_right_comm _ _ _
  · rw [Nat.xor_assoc, Nat.xor_comm (b >>> 1) poly, ← Nat.xor_assoc, ← Nat.xor_assoc, Nat.xor_assoc (a >>> 1), Nat.xor_self, Nat.xor_zero]

theorem divN_xor (poly : Nat) : ∀ n a b, divN poly n (a ^^^ b) = divN poly n a ^^^ divN poly n b
  | 0, _, _ => rfl
  | n + 1, a, b => by rw [divN, divN_xor poly n, div1_xor]; rfl

theorem divN_add (poly m : Nat) : ∀ n x, divN poly (n + m) x = divN poly n (divN poly m x)
  | 0, x => by rw [Nat.zero_add]; rfl
  | n + 1, x => by rw [show n + 1 + m = (n + m) + 1 by omega, divN, divN_add poly m n]; rfl

theorem div1_even (poly y : Nat) : div1 poly (2 * y) = y := by
  have h : ¬ (2 * y &&& 1 = 1) := by rw [Nat.and_one_is_mod]; omega
  rw [div1, if_neg h]; omega

theorem divN_shl (poly y : Nat) : ∀ n, divN poly n (y * 2 ^ n) = y
  | 0 => by simp [divN]
  | n + 1 => by
    rw [divN_add poly 1 n, show y * 2 ^ (n + 1) = 2 * (y * 2 ^ n) by rw [Nat.pow_succ, Nat.mul_comm (2 ^ n) 2, Nat.mul_left_comm]]
    show divN poly n (div1 poly (2 * (y * 2 ^ n))) = y
    rw [div1_even]; exact divN_shl poly y n

theorem split8 (x : Nat) : x = (x &&& 255) ^^^ ((x >>> 8) * 2 ^ 8) := by
  apply Nat.eq_of_testBit_eq
  intro i
  rw [show (255 : Nat) = 2 ^ 8 - 1 from rfl, Nat.and_two_pow_sub_one_eq_mod, ← Nat.shiftLeft_eq]
  simp only [Nat.testBit_xor, Nat.testBit_mod_two_pow, Nat.testBit_shiftLeft, Nat.testBit_shiftRight]
  by_cases h : i < 8
  · simp [h, Nat.not_le.2 h]
  · simp [h, Nat.not_lt.1 h, show 8 + (i - 8) = i by omega]

/-- Eight steps: by the table. -/
theorem div8_table (poly x : Nat) : divN poly 8 x = divN poly 8 (x &&& 255) ^^^ (x >>> 8) := by
  conv => lhs; rw [split8 x]
  rw [divN_xor, divN_shl]

theorem mod256 (x : Nat) : x % 256 = x &&& 255 := by rw [show (255 : Nat) = 2 ^ 8 - 1 from rfl, Nat.and_two_pow_sub_one_eq_mod]

theorem shr8_small {v : Nat} (h : v < 256) : v >>> 8 = 0 := by omega

/-- A step by the table is a division. -/
def step (poly c v : Nat) : Nat := divN poly 8 (c ^^^ v)

theorem step_table (poly : Nat) {c v : Nat} (hv : v < 256) : divN poly 8 (c % 256 ^^^ v) ^^^ (c >>> 8) = step poly c v := by
  unfold step
  rw [div8_table poly (c ^^^ v), shr_xor, shr8_small hv, Nat.xor_zero, mod256]
  congr 2
  rw [← mod256, ← mod256, show (256 : Nat) = 2 ^ 8 from rfl, Nat.xor_mod_two_pow, Nat.mod_eq_of_lt (a := v) hv]

theorem step_lt {poly c v : Nat} (hp : poly < 4294967296) (hc : c < 4294967296) (hv : v < 256) : step poly c v < 4294967296 :=
  divN_lt hp 8 _ (xor32 hc (by omega))

/-- The tables of slicing. -/
def TT (poly j k : Nat) : Nat := divN poly (8 * (j + 1)) k

theorem TT_zero (poly k : Nat) : TT poly 0 k = divN poly 8 k := rfl
theorem TT_succ (poly j k : Nat) : TT poly 0 (TT poly j k &&& 255) ^^^ (TT poly j k >>> 8) = TT poly (j + 1) k := by
  unfold TT
  rw [← div8_table, ← divN_add]
  congr 1
  omega
theorem TT_lt {poly j k : Nat} (hp : poly < 4294967296) (hk : k < 256) : TT poly j k < 4294967296 := divN_lt hp _ _ (by omega)

def le32 (a b c d : Nat) : Nat := a ||| ((b <<< 8) % 4294967296) ||| ((c <<< 16) % 4294967296) ||| ((d <<< 24) % 4294967296)

theorem or_xor8 {a b k : Nat} (h : a < 2 ^ k) : a ||| (b <<< k) = a ^^^ (b * 2 ^ k) := by
  rw [← Nat.shiftLeft_eq]
  apply Nat.eq_of_testBit_eq
  intro i
  simp only [Nat.testBit_or, Nat.testBit_xor, Nat.testBit_shiftLeft]
  by_cases hi : k ≤ i
  · have : a.testBit i = false := Nat.testBit_lt_two_pow (Nat.lt_of_lt_of_le h (Nat.pow_le_pow_right (by decide) hi))
    simp [this]
  · simp [hi]

theorem or_lt {a b k : Nat} (ha : a < 2 ^ k) (hb : b < 2 ^ k) : a ||| b < 2 ^ k := Nat.or_lt_two_pow ha hb

theorem le32_xor {a b c d : Nat} (ha : a < 256) (hb : b < 256) (hc : c < 256) (hd : d < 256) : le32 a b c d = a ^^^ (b * 2 ^ 8) ^^^ (c * 2 ^ 16) ^^^ (d * 2 ^ 24) := by
  unfold le32
  rw [show (b <<< 8) % 4294967296 = b <<< 8 by rw [Nat.shiftLeft_eq]; omega, show (c <<< 16) % 4294967296 = c <<< 16 by rw [Nat.shiftLeft_eq]; omega,
    show (d <<< 24) % 4294967296 = d <<< 24 by rw [Nat.shiftLeft_eq]; omega]
  have h1 : a ||| b <<< 8 < 2 ^ 16 := or_lt (by omega) (by rw [Nat.shiftLeft_eq]; omega)
  have h2 : a ||| b <<< 8 ||| c <<< 16 < 2 ^ 24 := or_lt (by omega) (by rw [Nat.shiftLeft_eq]; omega)
  rw [or_xor8 h2, or_xor8 h1, or_xor8 (k := 8) (by omega)]

theorem le32_lt {a b c d : Nat} (ha : a < 256) (hb : b < 256) (hc : c < 256) (hd : d < 256) : le32 a b c d < 4294967296 :=
  or_lt (k := 32) (or_lt (or_lt (by omega) (by omega)) (by omega)) (by omega)

theorem divN_shl8 (poly n y : Nat) (k : Nat) : divN poly (n + k) (y * 2 ^ k) = divN poly n y := by rw [divN_add, divN_shl]

/-- A number of four bytes, divided. -/
theorem div_bytes (poly n x : Nat) (hx : x < 4294967296) : divN poly (n + 32) x =
    divN poly (n + 8) (x >>> 24) ^^^ divN poly (n + 16) ((x >>> 16) &&& 255) ^^^ divN poly (n + 24) ((x >>> 8) &&& 255) ^^^ divN poly (n + 32) (x &&& 255) := by
  conv => lhs; rw [split8 x, divN_xor]
  rw [show n + 32 = (n + 24) + 8 by omega, divN_shl8]
  conv => lhs; rhs; rw [split8 (x >>> 8), divN_xor, ← Nat.shiftRight_add]
  rw [show n + 24 = (n + 16) + 8 by omega, divN_shl8]
  conv => lhs; rhs; rhs; rw [split8 (x >>> (8 + 8)), divN_xor, ← Nat.shiftRight_add]
  rw [show n + 16 = (n + 8) + 8 by omega, divN_shl8]
  rw [Nat.xor_comm]
  congr 1
  rw [Nat.xor_comm]
  congr 1
  rw [Nat.xor_comm]

theorem swap_about (p7 p6 p5 p4 q4 q5 q6 q7 : Nat) : p7 ^^^ p6 ^^^ p5 ^^^ p4 ^^^ q4 ^^^ q5 ^^^ q6 ^^^ q7 = q4 ^^^ q5 ^^^ q6 ^^^ q7 ^^^ p4 ^^^ p5 ^^^ p6 ^^^ p7 := by
  have lc : ∀ a b c : Nat, a ^^^ (b ^^^ c) = b ^^^ (a ^^^ c) := fun a b c => by rw [← Nat.xor_assoc, Nat.xor_comm a b, Nat.xor_assoc]
  simp only [Nat.xor_assoc, Nat.xor_comm, lc]

theorem fold8 (poly c v0 v1 v2 v3 v4 v5 v6 v7 : Nat) : [v0, v1, v2, v3, v4, v5, v6, v7].foldl (step poly) c =
    divN poly 64 (c ^^^ v0 ^^^ (v1 * 2 ^ 8) ^^^ (v2 * 2 ^ 16) ^^^ (v3 * 2 ^ 24)) ^^^ divN poly 32 v4 ^^^ divN poly 24 v5 ^^^ divN poly 16 v6 ^^^ divN poly 8 v7 := by
  have e1 := divN_shl8 poly 56 v1 8
  have e2 := divN_shl8 poly 48 v2 16
  have e3 := divN_shl8 poly 40 v3 24
  simp only [Nat.reduceAdd] at e1 e2 e3
  simp only [divN_xor]
  rw [e1, e2, e3]
  simp only [List.foldl, step, divN_xor, ← divN_add, Nat.reduceAdd]

/-- Eight steps at once. -/
theorem slice8 (poly : Nat) {c v0 v1 v2 v3 v4 v5 v6 v7 : Nat} (hc : c < 4294967296) (h0 : v0 < 256) (h1 : v1 < 256) (h2 : v2 < 256) (h3 : v3 < 256) :
    TT poly 0 v7 ^^^ TT poly 1 v6 ^^^ TT poly 2 v5 ^^^ TT poly 3 v4 ^^^ TT poly 4 ((c ^^^ le32 v0 v1 v2 v3) >>> 24) ^^^ TT poly 5 (((c ^^^ le32 v0 v1 v2 v3) >>> 16) &&& 255) ^^^
      TT poly 6 (((c ^^^ le32 v0 v1 v2 v3) >>> 8) &&& 255) ^^^ TT poly 7 ((c ^^^ le32 v0 v1 v2 v3) &&& 255) =
    [v0, v1, v2, v3, v4, v5, v6, v7].foldl (step poly) c := by
  have hle := le32_lt h0 h1 h2 h3
  have hb := div_bytes poly 32 (c ^^^ le32 v0 v1 v2 v3) (xor32 hc hle)
  have hx : c ^^^ v0 ^^^ (v1 * 2 ^ 8) ^^^ (v2 * 2 ^ 16) ^^^ (v3 * 2 ^ 24) = c ^^^ le32 v0 v1 v2 v3 := by
    rw [le32_xor h0 h1 h2 h3]; simp only [Nat.xor_assoc]
  rw [fold8, hx, show (64 : Nat) = 32 + 32 from rfl, hb]
  exact swap_about _ _ _ _ _ _ _ _

theorem xor_twice (a x : Nat) : a ^^^ (a ^^^ x) = x := by rw [← Nat.xor_assoc, Nat.xor_self, Nat.zero_xor]
def notK (k x : Nat) : Nat := k ^^^ x
theorem notK_notK (k x : Nat) : notK k (notK k x) = x := xor_twice k x
abbrev not32 (x : Nat) : Nat := notK 4294967295 x
theorem not32_lt {x : Nat} (h : x < 4294967296) : not32 x < 4294967296 := xor32 (by decide) h
theorem not32_not32 (x : Nat) : not32 (not32 x) = x := notK_notK 4294967295 x

def nats (l : List UInt8) : List Nat := l.map (·.toNat)
theorem nats_lt {l : List UInt8} {v : Nat} (h : v ∈ nats l) : v < 256 := by
  obtain ⟨x, _, rfl⟩ := List.mem_map.1 h
  exact x.toNat_lt

/-- The check: how it goes on with bytes. -/
def crcOn (poly crc : Nat) (l : List UInt8) : Nat := not32 ((nats l).foldl (step poly) (not32 crc))

theorem fold_lt {poly : Nat} (hp : poly < 4294967296) : ∀ (l : List Nat) (c : Nat), (∀ v ∈ l, v < 256) → c < 4294967296 → l.foldl (step poly) c < 4294967296
  | [], _, _, h => h
  | v :: r, c, hl, hc => fold_lt hp r _ (fun x hx => hl x (List.mem_cons_of_mem _ hx)) (step_lt hp hc (hl v (List.mem_cons_self ..)))

theorem crcOn_lt {poly crc : Nat} (hp : poly < 4294967296) (hc : crc < 4294967296) (l : List UInt8) : crcOn poly crc l < 4294967296 :=
  not32_lt (fold_lt hp _ _ (fun _ h => nats_lt h) (not32_lt hc))

theorem crcOn_append (poly crc : Nat) (a b : List UInt8) : crcOn poly (crcOn poly crc a) b = crcOn poly crc (a ++ b) := by
  simp [crcOn, not32_not32, nats, List.foldl_append]

/-! ### What is known of memory -/

abbrev u8 (x : UInt8) : Value := .int .u8 ((x.toNat : Nat) : Int)

/-- Known bytes. -/
def KB (K : Known) (b o : Nat) (l : List UInt8) : Prop := ∀ j (h : j < l.length), cellAt K b (o + j) = some (u8 l[j])

theorem KB.at {K : Known} {b o : Nat} {l : List UInt8} (h : KB K b o l) {j : Nat} (hj : j < l.length) : cellAt K b (o + j * 1) = some (u8 l[j]) := by rw [Nat.mul_one]; exact h j hj

/-- What reads as bytes in a world is known in it. -/
theorem Reads.kb {H0 : Known} {L : Frags} {b o : Nat} {l : List UInt8} (h : Reads H0 L b o (bytesV l)) {w : World} (hw : Agree H0 L w.heap) : KB (fun b => w.heap[b]?) b o l := by
  intro j hj
  have := h w hw j _ (bytesV_get hj)
  unfold World.cell? at this
  unfold cellAt
  simp only at this ⊢
  split at this
  · rename_i c t fr hb
    rw [hb]
    simpa using this
  · cases this

theorem KB.reads {K : Known} {b o : Nat} {l : List UInt8} {L : Frags} (h : KB K b o l) : Reads K L b o (bytesV l) := by
  refine Reads.known fun j u hj => ?_
  have hl : j < l.length := by
    have := (List.getElem?_eq_some_iff.1 hj).1
    simpa [bytesV] using this
  rw [bytesV_get hl] at hj
  cases hj
  exact h j hl

theorem ptr_to {b o o' : Nat} (h : o = o') : Value.pointer (some ⟨b, o, none⟩) = .pointer (some ⟨b, o', none⟩) := by rw [h]
theorem slice_to {b o o' l l' c c' : Nat} (ho : o = o') (hl : l = l') (hc : c = c') : Value.slice (some ⟨b, o, none⟩) l c = .slice (some ⟨b, o', none⟩) l' c' := by rw [ho, hl, hc]

theorem eight {l : List UInt8} {k : Nat} (h : 8 < l.length - k) : ∃ v0 v1 v2 v3 v4 v5 v6 v7 r, l.drop k = v0 :: v1 :: v2 :: v3 :: v4 :: v5 :: v6 :: v7 :: r ∧ l.drop (k + 8) = r := by
  have hl : 8 < (l.drop k).length := by rw [List.length_drop]; exact h
  have e : l.drop (k + 8) = (l.drop k).drop 8 := by rw [List.drop_drop]
  match hd : l.drop k, hl with
  | a0 :: a1 :: a2 :: a3 :: a4 :: a5 :: a6 :: a7 :: r, _ => exact ⟨a0, a1, a2, a3, a4, a5, a6, a7, r, rfl, by rw [e, hd]; rfl⟩

/-- Known tables. -/
def KT (K : Known) (b : Nat) (poly : Nat) : Prop := ∀ j k, j < 8 → k < 256 → cellAt K b (j * 256 + k) = some (u32 (TT poly j k))

theorem KT.at {K : Known} {b poly j k : Nat} (h : KT K b poly) (hj : j < 8) (hk : k < 256) : cellAt K b (0 + j * 256 + k * 1) = some (u32 (TT poly j k)) := by
  rw [Nat.mul_one, Nat.zero_add]; exact h j k hj hk

theorem fold_take {poly : Nat} {l : List UInt8} {c0 i : Nat} (h : i < l.length) : (nats (l.take (i + 1))).foldl (step poly) c0 = step poly ((nats (l.take i)).foldl (step poly) c0) l[i].toNat := by
  unfold nats
  rw [List.take_add_one, List.getElem?_eq_getElem h, Option.toList, List.map_append, List.foldl_append]
  rfl

theorem fold_take_all {poly : Nat} {l : List UInt8} {c0 : Nat} : (nats (l.take l.length)).foldl (step poly) c0 = (nats l).foldl (step poly) c0 := by rw [List.take_length]

theorem fold_drop8 {poly : Nat} {l : List UInt8} {c : Nat} (h : 8 < l.length) :
    (nats l).foldl (step poly) c = (nats (l.drop 8)).foldl (step poly) ([(l[0]'(by omega)).toNat, (l[1]'(by omega)).toNat, (l[2]'(by omega)).toNat, (l[3]'(by omega)).toNat, (l[4]'(by omega)).toNat, (l[5]'(by omega)).toNat, (l[6]'(by omega)).toNat, (l[7]'(by omega)).toNat].foldl (step poly) c) := by
  match l, h with
  | a0 :: a1 :: a2 :: a3 :: a4 :: a5 :: a6 :: a7 :: a8 :: r, _ => rfl

theorem KB.drop {K : Known} {b o : Nat} {l : List UInt8} (h : KB K b o l) (k : Nat) : KB K b (o + k) (l.drop k) := by
  intro j hj
  have := h (k + j) (by simp at hj; omega)
  rw [Nat.add_assoc, this]
  simp

theorem and255_lt (x : Nat) : x &&& 255 < 256 := by rw [← mod256]; omega

/-- The tables as they are filled: all of the first, of the others the columns below i, and of column i the rows below j. -/
structure TabAt (poly : Nat) (cs : List Value) (i j : Nat) : Prop where
  len : cs.length = 2048
  first : ∀ k, k < 256 → cs[k]? = some (u32 (TT poly 0 k))
  cols : ∀ j' k, j' < 8 → k < i → cs[j' * 256 + k]? = some (u32 (TT poly j' k))
  col : i < 256 → ∀ j', j' < j → cs[j' * 256 + i]? = some (u32 (TT poly j' i))

theorem fillT_get (poly : Nat) : ∀ (i : Nat) (cs : List Value), i ≤ cs.length → ∀ k, k < i → (fillT poly i cs)[k]? = some (u32 (divN poly 8 k))
  | 0, _, _, k, hk => by omega
  | i + 1, cs, h, k, hk => by
    rw [fillT, List.getElem?_set, fillT_length]
    by_cases hik : i = k
    · subst hik; simp [show i < cs.length by omega]
    · rw [if_neg hik]; exact fillT_get poly i cs (by omega) k (by omega)

theorem TabAt.init {poly : Nat} {cs : List Value} (h : cs.length = 2048) : TabAt poly (fillT poly 256 cs) 0 1 :=
  ⟨by rw [fillT_length]; exact h, fun k hk => fillT_get poly 256 cs (by omega) k hk, fun _ _ _ h => by omega, fun _ j hj => by
    have : j = 0 := by omega
    subst this
    exact fillT_get poly 256 cs (by omega) 0 (by omega)⟩

theorem TabAt.set {poly : Nat} {cs : List Value} {i j : Nat} (h : TabAt poly cs i j) (hj : j < 8) (hj1 : 1 ≤ j) (hi : i < 256) : TabAt poly (cs.set (j * 256 + i) (u32 (TT poly j i))) i (j + 1) := by
  refine ⟨by rw [List.length_set]; exact h.len, fun k hk => ?_, fun j' k hj' hk => ?_, fun hi j' hj' => ?_⟩
  · rw [List.getElem?_set, if_neg (by omega)]; exact h.first k hk
  · rw [List.getElem?_set, if_neg (by omega)]; exact h.cols j' k hj' hk
  · rw [List.getElem?_set]
    by_cases e : j = j'
    · subst e; rw [if_pos rfl, if_pos (by rw [h.len]; omega)]
    · rw [if_neg (by omega)]; exact h.col hi j' (by omega)

theorem TabAt.next {poly : Nat} {cs : List Value} {i : Nat} (h : TabAt poly cs i 8) (hi : i < 256) : TabAt poly cs (i + 1) 1 := by
  refine ⟨h.len, h.first, fun j' k hj' hk => ?_, fun hi' j' hj' => ?_⟩
  · by_cases e : k = i
    · subst e; exact h.col hi j' hj'
    · exact h.cols j' k hj' (by omega)
  · have : j' = 0 := by omega
    subst this
    rw [Nat.zero_mul, Nat.zero_add]; exact h.first _ hi'
end Go.Eng
