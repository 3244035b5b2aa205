/-
  Texts of this proof,merged: Crc,Bytes,WBytes,Src,WIo,Eng7,WCrc,WGz1,WFl0,Str,WGz2,Head,Huf,Inf,Gz,HTab.
-/
import Derived.Test.YtbjbmpcgiokdaaaDoorMp1
set_option linter.unusedVariables false
set_option linter.unusedSimpArgs false
namespace Go.Eng
open Go

abbrev u32 (x : Nat) : Value := .int .u32 (x : Int)

def div1 (poly c : Nat) : Nat := if c &&& 1 = 1 then c >>> 1 ^^^ poly else c >>> 1

def divN (poly : Nat) : Nat → Nat → Nat
  | 0,c => c
  | n + 1,c => div1 poly (divN poly n c)

theorem xor32 {a b : Nat} (ha : a < 4294967296) (hb : b < 4294967296) : a ^^^ b < 4294967296 := Nat.xor_lt_two_pow (n := 32) ha hb
theorem xor8 {a b : Nat} (ha : a < 256) (hb : b < 256) : a ^^^ b < 256 := Nat.xor_lt_two_pow (n := 8) ha hb

theorem div1_lt {poly c : Nat} (hp : poly < 4294967296) (hc : c < 4294967296) : div1 poly c < 4294967296 := by
  unfold div1
  split
  · exact xor32 (by omega) hp
  · omega

theorem divN_lt {poly : Nat} (hp : poly < 4294967296) : ∀ n c,c < 4294967296 → divN poly n c < 4294967296
  | 0,_,h => h
  | n + 1,c,h => div1_lt hp (divN_lt hp n c h)

/-- One round of the inner loop. -/
theorem divN_odd {poly j i c : Nat} (h : c = divN poly j i) (ho : ((c &&& 1 : Nat) : Int) = 1) : c >>> 1 ^^^ poly = divN poly (j + 1) i := by
  have ho' : c &&& 1 = 1 := by exact_mod_cast ho
  rw [divN,← h,div1,if_pos ho']
theorem divN_even {poly j i c : Nat} (h : c = divN poly j i) (ho : ¬ ((c &&& 1 : Nat) : Int) = 1) : c >>> 1 = divN poly (j + 1) i := by
  have ho' : ¬ (c &&& 1 = 1) := fun h => ho (by exact_mod_cast h)
  rw [divN,← h,div1,if_neg ho']

/-- The first table as it is filled. -/
def fillT (poly : Nat) : Nat → List Value → List Value
  | 0,cs => cs
  | i + 1,cs => (fillT poly i cs).set i (u32 (divN poly 8 i))

theorem fillT_length (poly : Nat) : ∀ i cs,(fillT poly i cs).length = cs.length
  | 0,_ => rfl
  | i + 1,cs => by rw [fillT,List.length_set]; exact fillT_length poly i cs

/-! ### Linear laws -/

theorem and1_xor (a b : Nat) : (a ^^^ b) &&& 1 = if (a &&& 1) = (b &&& 1) then 0 else 1 := by
  have h := Nat.xor_mod_two_pow (a := a) (b := b) (n := 1)
  simp only [Nat.and_one_is_mod]
  rw [show (2 : Nat) ^ 1 = 2 from rfl] at h
  rw [h]
  have ha : a % 2 = 0 ∨ a % 2 = 1 := by omega
  have hb : b % 2 = 0 ∨ b % 2 = 1 := by omega
  rcases ha with ha | ha <;> rcases hb with hb | hb <;> rw [ha,hb] <;> rfl

theorem shr_xor (a b n : Nat) : (a ^^^ b) >>> n = (a >>> n) ^^^ (b >>> n) := by
  apply Nat.eq_of_testBit_eq
  intro i
  simp [Nat.testBit_xor,Nat.testBit_shiftRight]

theorem xor_right_comm (a b c : Nat) : a ^^^ b ^^^ c = a ^^^ c ^^^ b := by rw [Nat.xor_assoc,Nat.xor_comm b c,← Nat.xor_assoc]

theorem div1_xor (poly a b : Nat) : div1 poly (a ^^^ b) = div1 poly a ^^^ div1 poly b := by
  have ha : a &&& 1 = 0 ∨ a &&& 1 = 1 := by rw [Nat.and_one_is_mod]; omega
  have hb : b &&& 1 = 0 ∨ b &&& 1 = 1 := by rw [Nat.and_one_is_mod]; omega
  unfold div1
  rw [and1_xor,shr_xor]
  rcases ha with ha | ha <;> rcases hb with hb | hb <;> simp only [ha,hb] <;> simp only [if_true,if_false,Nat.zero_ne_one,Nat.one_ne_zero]
  · rw [Nat.xor_assoc]
  · exact xor_right_comm _ _ _
  · rw [Nat.xor_assoc,Nat.xor_comm (b >>> 1) poly,← Nat.xor_assoc,← Nat.xor_assoc,Nat.xor_assoc (a >>> 1),Nat.xor_self,Nat.xor_zero]

theorem divN_xor (poly : Nat) : ∀ n a b,divN poly n (a ^^^ b) = divN poly n a ^^^ divN poly n b
  | 0,_,_ => rfl
  | n + 1,a,b => by rw [divN,divN_xor poly n,div1_xor]; rfl

theorem divN_add (poly m : Nat) : ∀ n x,divN poly (n + m) x = divN poly n (divN poly m x)
  | 0,x => by rw [Nat.zero_add]; rfl
  | n + 1,x => by rw [show n + 1 + m = (n + m) + 1 by omega,divN,divN_add poly m n]; rfl

theorem div1_even (poly y : Nat) : div1 poly (2 * y) = y := by
  have h : ¬ (2 * y &&& 1 = 1) := by rw [Nat.and_one_is_mod]; omega
  rw [div1,if_neg h]; omega

theorem divN_shl (poly y : Nat) : ∀ n,divN poly n (y * 2 ^ n) = y
  | 0 => by simp [divN]
  | n + 1 => by
    rw [divN_add poly 1 n,show y * 2 ^ (n + 1) = 2 * (y * 2 ^ n) by rw [Nat.pow_succ,Nat.mul_comm (2 ^ n) 2,Nat.mul_left_comm]]
    show divN poly n (div1 poly (2 * (y * 2 ^ n))) = y
    rw [div1_even]; exact divN_shl poly y n

theorem split8 (x : Nat) : x = (x &&& 255) ^^^ ((x >>> 8) * 2 ^ 8) := by
  apply Nat.eq_of_testBit_eq
  intro i
  rw [show (255 : Nat) = 2 ^ 8 - 1 from rfl,Nat.and_two_pow_sub_one_eq_mod,← Nat.shiftLeft_eq]
  simp only [Nat.testBit_xor,Nat.testBit_mod_two_pow,Nat.testBit_shiftLeft,Nat.testBit_shiftRight]
  by_cases h : i < 8
  · simp [h,Nat.not_le.2 h]
  · simp [h,Nat.not_lt.1 h,show 8 + (i - 8) = i by omega]

/-- Eight steps: by the table. -/
theorem div8_table (poly x : Nat) : divN poly 8 x = divN poly 8 (x &&& 255) ^^^ (x >>> 8) := by
  conv => lhs; rw [split8 x]
  rw [divN_xor,divN_shl]

theorem mod256 (x : Nat) : x % 256 = x &&& 255 := by rw [show (255 : Nat) = 2 ^ 8 - 1 from rfl,Nat.and_two_pow_sub_one_eq_mod]

theorem shr8_small {v : Nat} (h : v < 256) : v >>> 8 = 0 := by omega

/-- A step by the table is a division. -/
def step (poly c v : Nat) : Nat := divN poly 8 (c ^^^ v)

theorem step_table (poly : Nat) {c v : Nat} (hv : v < 256) : divN poly 8 (c % 256 ^^^ v) ^^^ (c >>> 8) = step poly c v := by
  unfold step
  rw [div8_table poly (c ^^^ v),shr_xor,shr8_small hv,Nat.xor_zero,mod256]
  congr 2
  rw [← mod256,← mod256,show (256 : Nat) = 2 ^ 8 from rfl,Nat.xor_mod_two_pow,Nat.mod_eq_of_lt (a := v) hv]

theorem step_lt {poly c v : Nat} (hp : poly < 4294967296) (hc : c < 4294967296) (hv : v < 256) : step poly c v < 4294967296 :=
  divN_lt hp 8 _ (xor32 hc (by omega))

/-- The tables of slicing. -/
def TT (poly j k : Nat) : Nat := divN poly (8 * (j + 1)) k

theorem TT_succ (poly j k : Nat) : TT poly 0 (TT poly j k &&& 255) ^^^ (TT poly j k >>> 8) = TT poly (j + 1) k := by
  unfold TT
  rw [← div8_table,← divN_add]
  congr 1
  omega
theorem TT_lt {poly j k : Nat} (hp : poly < 4294967296) (hk : k < 256) : TT poly j k < 4294967296 := divN_lt hp _ _ (by omega)

def le32 (a b c d : Nat) : Nat := a ||| ((b <<< 8) % 4294967296) ||| ((c <<< 16) % 4294967296) ||| ((d <<< 24) % 4294967296)

theorem or_xor8 {a b k : Nat} (h : a < 2 ^ k) : a ||| (b <<< k) = a ^^^ (b * 2 ^ k) := by
  rw [← Nat.shiftLeft_eq]
  apply Nat.eq_of_testBit_eq
  intro i
  simp only [Nat.testBit_or,Nat.testBit_xor,Nat.testBit_shiftLeft]
  by_cases hi : k ≤ i
  · have : a.testBit i = false := Nat.testBit_lt_two_pow (Nat.lt_of_lt_of_le h (Nat.pow_le_pow_right (by decide) hi))
    simp [this]
  · simp [hi]

theorem or_lt {a b k : Nat} (ha : a < 2 ^ k) (hb : b < 2 ^ k) : a ||| b < 2 ^ k := Nat.or_lt_two_pow ha hb

theorem le32_xor {a b c d : Nat} (ha : a < 256) (hb : b < 256) (hc : c < 256) (hd : d < 256) : le32 a b c d = a ^^^ (b * 2 ^ 8) ^^^ (c * 2 ^ 16) ^^^ (d * 2 ^ 24) := by
  unfold le32
  rw [show (b <<< 8) % 4294967296 = b <<< 8 by rw [Nat.shiftLeft_eq]; omega,show (c <<< 16) % 4294967296 = c <<< 16 by rw [Nat.shiftLeft_eq]; omega,
    show (d <<< 24) % 4294967296 = d <<< 24 by rw [Nat.shiftLeft_eq]; omega]
  have h1 : a ||| b <<< 8 < 2 ^ 16 := or_lt (by omega) (by rw [Nat.shiftLeft_eq]; omega)
  have h2 : a ||| b <<< 8 ||| c <<< 16 < 2 ^ 24 := or_lt (by omega) (by rw [Nat.shiftLeft_eq]; omega)
  rw [or_xor8 h2,or_xor8 h1,or_xor8 (k := 8) (by omega)]

theorem le32_lt {a b c d : Nat} (ha : a < 256) (hb : b < 256) (hc : c < 256) (hd : d < 256) : le32 a b c d < 4294967296 :=
  or_lt (k := 32) (or_lt (or_lt (by omega) (by omega)) (by omega)) (by omega)

theorem divN_shl8 (poly n y : Nat) (k : Nat) : divN poly (n + k) (y * 2 ^ k) = divN poly n y := by rw [divN_add,divN_shl]

/-- A number of four bytes,divided. -/
theorem div_bytes (poly n x : Nat) (hx : x < 4294967296) : divN poly (n + 32) x =
    divN poly (n + 8) (x >>> 24) ^^^ divN poly (n + 16) ((x >>> 16) &&& 255) ^^^ divN poly (n + 24) ((x >>> 8) &&& 255) ^^^ divN poly (n + 32) (x &&& 255) := by
  conv => lhs; rw [split8 x,divN_xor]
  rw [show n + 32 = (n + 24) + 8 by omega,divN_shl8]
  conv => lhs; rhs; rw [split8 (x >>> 8),divN_xor,← Nat.shiftRight_add]
  rw [show n + 24 = (n + 16) + 8 by omega,divN_shl8]
  conv => lhs; rhs; rhs; rw [split8 (x >>> (8 + 8)),divN_xor,← Nat.shiftRight_add]
  rw [show n + 16 = (n + 8) + 8 by omega,divN_shl8]
  rw [Nat.xor_comm]
  congr 1
  rw [Nat.xor_comm]
  congr 1
  rw [Nat.xor_comm]

theorem swap_about (p7 p6 p5 p4 q4 q5 q6 q7 : Nat) : p7 ^^^ p6 ^^^ p5 ^^^ p4 ^^^ q4 ^^^ q5 ^^^ q6 ^^^ q7 = q4 ^^^ q5 ^^^ q6 ^^^ q7 ^^^ p4 ^^^ p5 ^^^ p6 ^^^ p7 := by
  have lc : ∀ a b c : Nat,a ^^^ (b ^^^ c) = b ^^^ (a ^^^ c) := fun a b c => by rw [← Nat.xor_assoc,Nat.xor_comm a b,Nat.xor_assoc]
  simp only [Nat.xor_assoc,Nat.xor_comm,lc]

theorem fold8 (poly c v0 v1 v2 v3 v4 v5 v6 v7 : Nat) : [v0,v1,v2,v3,v4,v5,v6,v7].foldl (step poly) c =
    divN poly 64 (c ^^^ v0 ^^^ (v1 * 2 ^ 8) ^^^ (v2 * 2 ^ 16) ^^^ (v3 * 2 ^ 24)) ^^^ divN poly 32 v4 ^^^ divN poly 24 v5 ^^^ divN poly 16 v6 ^^^ divN poly 8 v7 := by
  have e1 := divN_shl8 poly 56 v1 8
  have e2 := divN_shl8 poly 48 v2 16
  have e3 := divN_shl8 poly 40 v3 24
  simp only [Nat.reduceAdd] at e1 e2 e3
  simp only [divN_xor]
  rw [e1,e2,e3]
  simp only [List.foldl,step,divN_xor,← divN_add,Nat.reduceAdd]

/-- Eight steps at once. -/
theorem slice8 (poly : Nat) {c v0 v1 v2 v3 v4 v5 v6 v7 : Nat} (hc : c < 4294967296) (h0 : v0 < 256) (h1 : v1 < 256) (h2 : v2 < 256) (h3 : v3 < 256) :
    TT poly 0 v7 ^^^ TT poly 1 v6 ^^^ TT poly 2 v5 ^^^ TT poly 3 v4 ^^^ TT poly 4 ((c ^^^ le32 v0 v1 v2 v3) >>> 24) ^^^ TT poly 5 (((c ^^^ le32 v0 v1 v2 v3) >>> 16) &&& 255) ^^^
      TT poly 6 (((c ^^^ le32 v0 v1 v2 v3) >>> 8) &&& 255) ^^^ TT poly 7 ((c ^^^ le32 v0 v1 v2 v3) &&& 255) =
    [v0,v1,v2,v3,v4,v5,v6,v7].foldl (step poly) c := by
  have hle := le32_lt h0 h1 h2 h3
  have hb := div_bytes poly 32 (c ^^^ le32 v0 v1 v2 v3) (xor32 hc hle)
  have hx : c ^^^ v0 ^^^ (v1 * 2 ^ 8) ^^^ (v2 * 2 ^ 16) ^^^ (v3 * 2 ^ 24) = c ^^^ le32 v0 v1 v2 v3 := by
    rw [le32_xor h0 h1 h2 h3]; simp only [Nat.xor_assoc]
  rw [fold8,hx,show (64 : Nat) = 32 + 32 from rfl,hb]
  exact swap_about _ _ _ _ _ _ _ _

theorem xor_twice (a x : Nat) : a ^^^ (a ^^^ x) = x := by rw [← Nat.xor_assoc,Nat.xor_self,Nat.zero_xor]
def notK (k x : Nat) : Nat := k ^^^ x
theorem notK_notK (k x : Nat) : notK k (notK k x) = x := xor_twice k x
abbrev not32 (x : Nat) : Nat := notK 4294967295 x
theorem not32_lt {x : Nat} (h : x < 4294967296) : not32 x < 4294967296 := xor32 (by decide) h
theorem not32_not32 (x : Nat) : not32 (not32 x) = x := notK_notK 4294967295 x

def nats (l : List UInt8) : List Nat := l.map (·.toNat)
theorem nats_lt {l : List UInt8} {v : Nat} (h : v ∈ nats l) : v < 256 := by
  obtain ⟨x,_,rfl⟩ := List.mem_map.1 h
  exact x.toNat_lt

/-- The check: how it goes on with bytes. -/
def crcOn (poly crc : Nat) (l : List UInt8) : Nat := not32 ((nats l).foldl (step poly) (not32 crc))

theorem fold_lt {poly : Nat} (hp : poly < 4294967296) : ∀ (l : List Nat) (c : Nat),(∀ v ∈ l,v < 256) → c < 4294967296 → l.foldl (step poly) c < 4294967296
  | [],_,_,h => h
  | v::r,c,hl,hc => fold_lt hp r _ (fun x hx => hl x (List.mem_cons_of_mem _ hx)) (step_lt hp hc (hl v (List.mem_cons_self ..)))

theorem crcOn_lt {poly crc : Nat} (hp : poly < 4294967296) (hc : crc < 4294967296) (l : List UInt8) : crcOn poly crc l < 4294967296 :=
  not32_lt (fold_lt hp _ _ (fun _ h => nats_lt h) (not32_lt hc))

theorem crcOn_append (poly crc : Nat) (a b : List UInt8) : crcOn poly (crcOn poly crc a) b = crcOn poly crc (a ++ b) := by
  simp [crcOn,not32_not32,nats,List.foldl_append]

/-! ### What is known of memory -/

abbrev u8 (x : UInt8) : Value := .int .u8 ((x.toNat : Nat) : Int)

/-- Known bytes. -/
def KB (K : Known) (b o : Nat) (l : List UInt8) : Prop := ∀ j (h : j < l.length),cellAt K b (o + j) = some (u8 l[j])

theorem KB.at {K : Known} {b o : Nat} {l : List UInt8} (h : KB K b o l) {j : Nat} (hj : j < l.length) : cellAt K b (o + j * 1) = some (u8 l[j]) := by rw [Nat.mul_one]; exact h j hj

/-- What reads as bytes in a world is known in it. -/
theorem Reads.kb {H0 : Known} {L : Frags} {b o : Nat} {l : List UInt8} (h : Reads H0 L b o (bytesV l)) {w : World} (hw : Agree H0 L w.heap) : KB (fun b => w.heap[b]?) b o l := by
  intro j hj
  have := h w hw j _ (bytesV_get hj)
  unfold World.cell? at this
  unfold cellAt
  simp only at this ⊢
  split at this
  · rename_i c t fr hb
    rw [hb]
    simpa using this
  · cases this

theorem KB.reads {K : Known} {b o : Nat} {l : List UInt8} {L : Frags} (h : KB K b o l) : Reads K L b o (bytesV l) := by
  refine Reads.known fun j u hj => ?_
  have hl : j < l.length := by
    have := (List.getElem?_eq_some_iff.1 hj).1
    simpa [bytesV] using this
  rw [bytesV_get hl] at hj
  cases hj
  exact h j hl

theorem ptr_to {b o o' : Nat} (h : o = o') : Value.pointer (some ⟨b,o,none⟩) = .pointer (some ⟨b,o',none⟩) := by rw [h]
theorem slice_to {b o o' l l' c c' : Nat} (ho : o = o') (hl : l = l') (hc : c = c') : Value.slice (some ⟨b,o,none⟩) l c = .slice (some ⟨b,o',none⟩) l' c' := by rw [ho,hl,hc]

theorem eight {l : List UInt8} {k : Nat} (h : 8 < l.length - k) : ∃ v0 v1 v2 v3 v4 v5 v6 v7 r,l.drop k = v0::v1::v2::v3::v4::v5::v6::v7::r ∧ l.drop (k + 8) = r := by
  have hl : 8 < (l.drop k).length := by rw [List.length_drop]; exact h
  have e : l.drop (k + 8) = (l.drop k).drop 8 := by rw [List.drop_drop]
  match hd : l.drop k,hl with
  | a0::a1::a2::a3::a4::a5::a6::a7::r,_ => exact ⟨a0,a1,a2,a3,a4,a5,a6,a7,r,rfl,by rw [e,hd]; rfl⟩

/-- Known tables. -/
def KT (K : Known) (b : Nat) (poly : Nat) : Prop := ∀ j k,j < 8 → k < 256 → cellAt K b (j * 256 + k) = some (u32 (TT poly j k))

theorem KT.at {K : Known} {b poly j k : Nat} (h : KT K b poly) (hj : j < 8) (hk : k < 256) : cellAt K b (0 + j * 256 + k * 1) = some (u32 (TT poly j k)) := by
  rw [Nat.mul_one,Nat.zero_add]; exact h j k hj hk

theorem fold_take {poly : Nat} {l : List UInt8} {c0 i : Nat} (h : i < l.length) : (nats (l.take (i + 1))).foldl (step poly) c0 = step poly ((nats (l.take i)).foldl (step poly) c0) l[i].toNat := by
  unfold nats
  rw [List.take_add_one,List.getElem?_eq_getElem h,Option.toList,List.map_append,List.foldl_append]
  rfl

theorem fold_take_all {poly : Nat} {l : List UInt8} {c0 : Nat} : (nats (l.take l.length)).foldl (step poly) c0 = (nats l).foldl (step poly) c0 := by rw [List.take_length]

theorem KB.drop {K : Known} {b o : Nat} {l : List UInt8} (h : KB K b o l) (k : Nat) : KB K b (o + k) (l.drop k) := by
  intro j hj
  have := h (k + j) (by simp at hj; omega)
  rw [Nat.add_assoc,this]
  simp

theorem and255_lt (x : Nat) : x &&& 255 < 256 := by rw [← mod256]; omega

/-- The tables as they are filled: all of the first,of the others the columns below i,and of column i the rows below j. -/
structure TabAt (poly : Nat) (cs : List Value) (i j : Nat) : Prop where
  len : cs.length = 2048
  first : ∀ k,k < 256 → cs[k]? = some (u32 (TT poly 0 k))
  cols : ∀ j' k,j' < 8 → k < i → cs[j' * 256 + k]? = some (u32 (TT poly j' k))
  col : i < 256 → ∀ j',j' < j → cs[j' * 256 + i]? = some (u32 (TT poly j' i))

theorem fillT_get (poly : Nat) : ∀ (i : Nat) (cs : List Value),i ≤ cs.length → ∀ k,k < i → (fillT poly i cs)[k]? = some (u32 (divN poly 8 k))
  | 0,_,_,k,hk => by omega
  | i + 1,cs,h,k,hk => by
    rw [fillT,List.getElem?_set,fillT_length]
    by_cases hik : i = k
    · subst hik; simp [show i < cs.length by omega]
    · rw [if_neg hik]; exact fillT_get poly i cs (by omega) k (by omega)

theorem TabAt.init {poly : Nat} {cs : List Value} (h : cs.length = 2048) : TabAt poly (fillT poly 256 cs) 0 1 :=
  ⟨by rw [fillT_length]; exact h,fun k hk => fillT_get poly 256 cs (by omega) k hk,fun _ _ _ h => by omega,fun _ j hj => by
    have : j = 0 := by omega
    subst this
    exact fillT_get poly 256 cs (by omega) 0 (by omega)⟩

theorem TabAt.set {poly : Nat} {cs : List Value} {i j : Nat} (h : TabAt poly cs i j) (hj : j < 8) (hj1 : 1 ≤ j) (hi : i < 256) : TabAt poly (cs.set (j * 256 + i) (u32 (TT poly j i))) i (j + 1) := by
  refine ⟨by rw [List.length_set]; exact h.len,fun k hk => ?_,fun j' k hj' hk => ?_,fun hi j' hj' => ?_⟩
  · rw [List.getElem?_set,if_neg (by omega)]; exact h.first k hk
  · rw [List.getElem?_set,if_neg (by omega)]; exact h.cols j' k hj' hk
  · rw [List.getElem?_set]
    by_cases e : j = j'
    · subst e; rw [if_pos rfl,if_pos (by rw [h.len]; omega)]
    · rw [if_neg (by omega)]; exact h.col hi j' (by omega)

theorem TabAt.next {poly : Nat} {cs : List Value} {i : Nat} (h : TabAt poly cs i 8) (hi : i < 256) : TabAt poly cs (i + 1) 1 := by
  refine ⟨h.len,h.first,fun j' k hj' hk => ?_,fun hi' j' hj' => ?_⟩
  · by_cases e : k = i
    · subst e; exact h.col hi j' hj'
    · exact h.cols j' k hj' (by omega)
  · have : j' = 0 := by omega
    subst this
    rw [Nat.zero_mul,Nat.zero_add]; exact h.first _ hi'
end Go.Eng
namespace Go.Eng
open Go Go.Proofs

theorem Sl.one {s m : Nat} {v : Value} {xs : List Value} {Lf : Frags} (h : Sl s v m xs Lf) (hm : 0 < m) : ∃ b o c cs,v = .slice (some ⟨b,o,none⟩) m c ∧ Lf = [⟨b,o,cs⟩] ∧ cs.length = c * s ∧ m ≤ c ∧ c ≤ 9223372036854775807 ∧ cs.take (m * s) = xs := by
  rcases h.2 with ⟨_,h1,_⟩ | h1
  · omega
  · exact h1

theorem infoB : Tryd.prog.info? 5 = some Tryd.t5 := by kernel_rfl

theorem one_bytesV (l : List UInt8) : (bytesV l).all one = true := by
  rw [List.all_eq_true]
  intro v hv
  obtain ⟨b,_,rfl⟩ := List.mem_map.1 hv
  rfl

theorem bytesV_length (l : List UInt8) : (bytesV l).length = l.length := by simp [bytesV]
theorem bytesV_append (a b : List UInt8) : bytesV (a ++ b) = bytesV a ++ bytesV b := by simp [bytesV]
theorem bytesV_drop (a : List UInt8) (k : Nat) : bytesV (a.drop k) = (bytesV a).drop k := by simp [bytesV,List.map_drop]
theorem bytesV_take (a : List UInt8) (k : Nat) : bytesV (a.take k) = (bytesV a).take k := by simp [bytesV,List.map_take]

section
variable {K : Known} {n : Nat} {env : Env} {L : Frags} {ty : TypeId}

/-- append of bytes. -/
theorem X.appendB {x y : Operand} {v : Value} {k yc : Nat} {ya : Option Addr} {xs ys : List UInt8} {Lf : Frags}
    (hx : ev? env x = some v) (hy : ev? env y = some (.slice ya k yc)) (hsl : Sl 1 v xs.length (bytesV xs) Lf) (hk : k = ys.length)
    (hread : ys = [] ∨ ∃ yb yo,ya = some ⟨yb,yo,none⟩ ∧ Reads K (Lf ++ L) yb yo (bytesV ys)) (hb : xs.length + ys.length ≤ 140737488355328) :
    OpX Tryd.prog K n (.call { callee := .builtin .append,args := #[x,y],argTypes := #[22,22] }) ty env (Lf ++ L) fun v' L' =>
      ∃ Lf',Sl 1 v' (xs ++ ys).length (bytesV (xs ++ ys)) Lf' ∧ L' = Lf' ++ L := by
  subst hk
  have h := X.append (P := Tryd.prog) (n := n) (ty := ty) (L := L) (s := 1) (bytes := 1) (t := 22) Tryd.underlying22 infoB (z := .int .u8 0) rfl rfl rfl rfl (by decide) hx hy hsl (by rw [bytesV_length,Nat.mul_one])
    (hread.imp (fun e => by rw [e]; rfl) id) (one_bytesV ys) (by omega) hb
  refine OpX.mono h fun v' L' => ?_
  rintro ⟨Lf',h1,h2⟩
  exact ⟨Lf',by rw [List.length_append,bytesV_append]; exact h1,h2⟩

/-- append of nothing. -/
theorem X.appendNone {x y : Operand} {b o m c yc : Nat} {ya : Option Addr} (hx : ev? env x = some (.slice (some ⟨b,o,none⟩) m c)) (hy : ev? env y = some (.slice ya 0 yc)) (hmc : m ≤ c) :
    OpX Tryd.prog K n (.call { callee := .builtin .append,args := #[x,y],argTypes := #[22,22] }) ty env L fun v' L' => v' = .slice (some ⟨b,o,none⟩) m c ∧ L' = L := by
  intro ac w hf hw
  have hrun : (Builtin.append_ #[22,22] ty #[.slice (some ⟨b,o,none⟩) m c,.slice ya 0 yc]).run Tryd.prog w = .ok (.slice (some ⟨b,o,none⟩) m c) w := by
    cases ya <;> simp [Builtin.append_,run_underlying Tryd.underlying22,sizeOf,typeInfo,infoB,Tryd.t5,Builtin.lenOf,Builtin.firstCells,loadCells,loadCellsFrom,storeCells,hmc]
  have : (exop ac.eval (.call { callee := .builtin .append,args := #[x,y],argTypes := #[22,22] }) ty).run Tryd.prog w = .ok (.value (.slice (some ⟨b,o,none⟩) m c)) w := by
    simp only [exop,execOp,resolve]
    simp [hf.eval hx,hf.eval hy,invoke_builtin,builtin_eq .append _ _ _ _ _ rfl hrun]
  rw [this]
  exact ⟨_,⟨rfl,rfl⟩,To.refl hw⟩

/-- copy of bytes into all of a fragment or its beginning. -/
theorem X.copyB (i : Nat) {x y : Operand} {b o dl dc sl sc : Nat} {sa : Option Addr} {cs : List Value} {l : List UInt8}
    (hL : L[i]? = some ⟨b,o,cs⟩) (hx : ev? env x = some (.slice (some ⟨b,o,none⟩) dl dc)) (hy : ev? env y = some (.slice sa sl sc)) (hlen : sl = l.length)
    (hread : l = [] ∨ ∃ yb yo,sa = some ⟨yb,yo,none⟩ ∧ Reads K L yb yo (bytesV l)) (hdl : dl ≤ cs.length) :
    OpX Tryd.prog K n (.call { callee := .builtin .copy,args := #[x,y],argTypes := #[22,22] }) ty env L fun v L' =>
      v = .int .i64 ((Nat.min l.length dl : Nat) : Int) ∧ L' = L.set i ⟨b,o,bytesV (l.take dl) ++ cs.drop (Nat.min l.length dl)⟩ := by
  subst hlen
  have hvl : (bytesV (l.take dl)).length = Nat.min l.length dl := by rw [bytesV_length,List.length_take]; exact Nat.min_comm _ _
  have h := X.copy (P := Tryd.prog) (H0 := K) (n := n) (ty := ty) (xT := Tryd.t5) i (s := 1) (k := 0) (t := 22) (t2 := 22) (vs := bytesV (l.take dl)) Tryd.underlying22 Tryd.sizeOf5 hL hx hy (by rw [hvl,Nat.mul_one])
    (by
      rcases hread with h | ⟨yb,yo,h1,h2⟩
      · left; rw [h]; simp [bytesV]
      · exact .inr ⟨yb,yo,h1,by rw [bytesV_take]; exact h2.take _⟩)
    (fun h => by
      rcases hread with h1 | ⟨yb,yo,h1,_⟩
      · rw [h1]; rfl
      · rw [h1] at h; cases h) (one_bytesV _) (by rw [hvl,Nat.zero_add]; exact Nat.le_trans (Nat.min_le_right _ _) hdl)
  refine OpX.mono h fun v L' => ?_
  rintro ⟨rfl,rfl⟩
  refine ⟨rfl,?_⟩
  rw [hvl,Nat.zero_add,List.take_zero,List.nil_append]
end
end Go.Eng
namespace Go.Eng
open Go Go.Proofs
set_option maxRecDepth 100000

theorem bytes_get {l : List UInt8} {cs : List Value} {i : Nat} (h : i < l.length) : (bytesV l ++ cs)[i]? = some (u8 l[i]) := by
  rw [List.getElem?_append_left (by rw [bytesV_length]; exact h)]
  exact bytesV_get h

theorem bytes_part {l : List UInt8} {cs : List Value} (i : Nat) : ((bytesV l ++ cs).drop i).take (bytesV (l.drop i)).length = bytesV (l.drop i) := by
  rw [bytesV_length,List.length_drop]
  by_cases h : i ≤ l.length
  · rw [List.drop_append_of_le_length (by rw [bytesV_length]; exact h),← bytesV_drop,List.take_append_of_le_length (by rw [bytesV_length,List.length_drop]; omega),List.take_of_length_le (by rw [bytesV_length,List.length_drop]; omega)]
  · rw [show l.drop i = [] from List.drop_eq_nil_of_le (by omega),show l.length - i = 0 by omega]; simp [bytesV]

theorem newReader_spec {K : Known} (a : Option Addr) (n c : Nat) : Fn Tryd.prog K 23 #[.slice a n c] ([]) (fun r L => ∃ b,r = .pointer (some ⟨b,0,none⟩) ∧ L = [⟨b,0,[.slice a n c,.int .i64 0,.int .i64 (-1)]⟩]) := by
 refine Fn.intro (args := [.slice a n c]) (RR := Ret1 2 _) Tryd.func23 rfl rfl Tryd.ntmps23 (res1 Tryd.results23) ?_
 refine C.reenv (env2 := [(0,.slice a n c)]) rfl ?_
 refine C.sr ?_
 refine E.pure (S.assign rfl) rfl ?_
 refine E.kp [(0,_),(2,_)] rfl ?_
 refine C.sr ?_
 refine E.pure (S.move rfl) rfl ?_
 refine E.pure (S.build (v := .agg #[.slice a n c,.int .i64 0,.int .i64 (-1)]) rfl (fun w => by simp [Instr.build,Instr.fill,Value.cells,Tryd.zeroValue95,ev?,get?])) rfl ?_
 refine E.loud1 (X.box rfl) rfl ?_; rintro _ _ ⟨b5,rfl,rfl⟩; refine E.relist (L2 := [_]) rfl ?_
 refine E.pure (S.assign rfl) rfl ?_
 refine E.kp [(2,_)] rfl ?_
 refine C.ret ?_
 exact ⟨_,rfl,_,rfl,rfl⟩
theorem readByte_end {K : Known} (rb : Nat) (data : List UInt8) (i : Nat) (hd : data.length ≤ 4611686018427387904) {p : Int} {ea : Fin 5 → Addr} (hs : Sents K ea) (a : Option Addr) (c : Nat) (hi : i = data.length) : Fn Tryd.prog K 108 #[.pointer (some ⟨rb,0,none⟩)] ([⟨rb,0,[.slice a data.length c,.int .i64 (i : Int),.int .i64 p]⟩]) (fun r L => r = .tuple #[.int .u8 0,Er.val ea .eof] ∧ L = [⟨rb,0,[.slice a data.length c,.int .i64 (i : Int),.int .i64 (-1)]⟩]) := by
 refine Fn.intro (args := [.pointer (some ⟨rb,0,none⟩)]) (RR := Ret2 2 3 _) Tryd.func108 rfl rfl Tryd.ntmps108 (res2 Tryd.results108) ?_
 refine C.reenv (env2 := [(0,.pointer (some ⟨rb,0,none⟩))]) rfl ?_
 refine C.sr ?_
 refine E.pure (S.assign rfl) rfl ?_
 refine E.pure (S.assign (v := Er.val ea .none) rfl) rfl ?_
 refine E.kp [(0,_),(2,_),(3,_)] rfl ?_
 refine C.sr ?_
 refine E.pure (S.move rfl) rfl ?_
 refine E.pure (S.nilPtr rfl) rfl ?_
 refine E.pure (S.field rfl fa95_2) rfl ?_
 refine E.loud0 (X.store 0 (k := 2) rfl rfl rfl rfl rfl Tryd.sizeOf3) ?_; rintro _ _ ⟨rfl,rfl⟩; refine E.relist (L2 := [_]) rfl ?_
 refine E.kp [(0,_),(2,_),(3,_)] rfl ?_
 refine C.seq ?_
 refine C.seq ?_
 refine C.draw [0,1,2,4,0,16,32,64,128,264] (.pure 0 496 (.pure 1 497 (.pure 2 499 (.pure 4 15 (.pure 5 31 (.pure 6 63 (.seg [(3,503),(7,127),(8,255),(9,511)] .done))))))) mixed (by decide +kernel) ?_
 refine D.pure rfl (S.move rfl) rfl ?_
 refine D.pure rfl (S.nilPtr rfl) rfl ?_
 refine D.pure rfl (S.field rfl fa95_1) rfl ?_
 refine D.pure rfl (S.move rfl) rfl ?_
 refine D.pure rfl (S.nilPtr rfl) rfl ?_
 refine D.pure rfl (S.field rfl fa95_0) rfl ?_
 refine D.seg (by decide) ?_
 refine W.still rfl (S.load 0 (k := 1) rfl rfl rfl Tryd.isAgg2) rfl ?_
 refine W.still rfl (S.load 0 (k := 0) rfl rfl rfl Tryd.isAgg22) rfl ?_
 refine W.pure rfl (S.lenSl rfl Tryd.underlying22) rfl ?_
 refine W.pure rfl (S.ge rfl rfl) rfl ?_
 refine W.nil ?_
 refine D.kp [(0,_),(2,_),(3,_),(17,_)] rfl ?_
 refine C.ifp rfl (fun h17 => ?_) (fun h17 => ?_)
 ·
  refine C.seq ?_
  refine C.draw [0,0,3] (.pure 1 1 (.seg [(0,2),(2,3)] .done)) mixed (by decide +kernel) ?_
  refine D.pure rfl (S.assign rfl) rfl ?_
  refine D.seg (by decide) ?_
  refine W.still rfl (S.loadBase rfl hs.g0 Tryd.isAgg59) rfl ?_
  refine W.pure rfl (S.assign rfl) rfl ?_
  refine W.nil ?_
  refine D.kp [(0,_),(2,_),(3,_),(17,_)] rfl ?_
  refine C.ret ?_
  exact ⟨_,_,rfl,rfl,rfl,rfl⟩
 exact absurd hi (by omega)
theorem readByte_next {K : Known} (rb : Nat) (data : List UInt8) (i : Nat) (hd : data.length ≤ 4611686018427387904) {p : Int} {ea : Fin 5 → Addr} (db o c : Nat) (cs : List Value) (hi : i < data.length) : Fn Tryd.prog K 108 #[.pointer (some ⟨rb,0,none⟩)] ([⟨rb,0,[.slice (some ⟨db,o,none⟩) data.length c,.int .i64 (i : Int),.int .i64 p]⟩,⟨db,o,bytesV data ++ cs⟩]) (fun r L => r = .tuple #[u8 data[i],Er.val ea .none] ∧ L = [⟨rb,0,[.slice (some ⟨db,o,none⟩) data.length c,.int .i64 ((i + 1 : Nat) : Int),.int .i64 (-1)]⟩,⟨db,o,bytesV data ++ cs⟩]) := by
 refine Fn.intro (args := [.pointer (some ⟨rb,0,none⟩)]) (RR := Ret2 2 3 _) Tryd.func108 rfl rfl Tryd.ntmps108 (res2 Tryd.results108) ?_
 refine C.reenv (env2 := [(0,.pointer (some ⟨rb,0,none⟩))]) rfl ?_
 refine C.sr ?_
 refine E.pure (S.assign rfl) rfl ?_
 refine E.pure (S.assign (v := Er.val ea .none) rfl) rfl ?_
 refine E.kp [(0,_),(2,_),(3,_)] rfl ?_
 refine C.sr ?_
 refine E.pure (S.move rfl) rfl ?_
 refine E.pure (S.nilPtr rfl) rfl ?_
 refine E.pure (S.field rfl fa95_2) rfl ?_
 refine E.loud0 (X.store 0 (k := 2) rfl rfl rfl rfl rfl Tryd.sizeOf3) ?_; rintro _ _ ⟨rfl,rfl⟩; refine E.relist (L2 := [_,_]) rfl ?_
 refine E.kp [(0,_),(2,_),(3,_)] rfl ?_
 refine C.seq ?_
 refine C.seq ?_
 refine C.draw [0,1,2,4,0,16,32,64,128,264] (.pure 0 496 (.pure 1 497 (.pure 2 499 (.pure 4 15 (.pure 5 31 (.pure 6 63 (.seg [(3,503),(7,127),(8,255),(9,511)] .done))))))) mixed (by decide +kernel) ?_
 refine D.pure rfl (S.move rfl) rfl ?_
 refine D.pure rfl (S.nilPtr rfl) rfl ?_
 refine D.pure rfl (S.field rfl fa95_1) rfl ?_
 refine D.pure rfl (S.move rfl) rfl ?_
 refine D.pure rfl (S.nilPtr rfl) rfl ?_
 refine D.pure rfl (S.field rfl fa95_0) rfl ?_
 refine D.seg (by decide) ?_
 refine W.still rfl (S.load 0 (k := 1) rfl rfl rfl Tryd.isAgg2) rfl ?_
 refine W.still rfl (S.load 0 (k := 0) rfl rfl rfl Tryd.isAgg22) rfl ?_
 refine W.pure rfl (S.lenSl rfl Tryd.underlying22) rfl ?_
 refine W.pure rfl (S.ge rfl rfl) rfl ?_
 refine W.nil ?_
 refine D.kp [(0,_),(2,_),(3,_),(17,_)] rfl ?_
 refine C.ifp rfl (fun h17 => ?_) (fun h17 => ?_)
 ·
  exact absurd hi (by omega)
 refine C.skip ?_
 refine C.seq ?_
 refine C.draw [0,1,2,4,0,16,32,64,136,256,1023] (.pure 0 240 (.pure 1 241 (.pure 2 243 (.pure 4 15 (.pure 5 31 (.pure 6 63 (.seg [(3,247),(7,127),(8,255),(9,511),(10,1023)] .done))))))) mixed (by decide +kernel) ?_
 refine D.pure rfl (S.move rfl) rfl ?_
 refine D.pure rfl (S.nilPtr rfl) rfl ?_
 refine D.pure rfl (S.field rfl fa95_0) rfl ?_
 refine D.pure rfl (S.move rfl) rfl ?_
 refine D.pure rfl (S.nilPtr rfl) rfl ?_
 refine D.pure rfl (S.field rfl fa95_1) rfl ?_
 refine D.seg (by decide) ?_
 refine W.still rfl (S.load 0 (k := 0) rfl rfl rfl Tryd.isAgg22) rfl ?_
 refine W.still rfl (S.load 0 (k := 1) rfl rfl rfl Tryd.isAgg2) rfl ?_
 refine W.pure rfl (S.ixSl rfl rfl (by omega) Tryd.underlying22 Tryd.sizeOf5) rfl ?_
 refine W.reslot (v := .pointer (some ⟨db,o + i,none⟩)) (by simp) ?_
 refine W.still rfl (S.load 1 (k := i) rfl rfl (bytes_get hi) Tryd.isAgg5) rfl ?_
 refine W.pure rfl (S.assign rfl) rfl ?_
 refine W.nil ?_
 refine D.kp [(0,_),(2,_),(3,_),(4,_),(17,_)] rfl ?_
 refine C.sr ?_
 refine E.pure (S.move rfl) rfl ?_
 refine E.pure (S.nilPtr rfl) rfl ?_
 refine E.pure (S.field rfl fa95_1) rfl ?_
 refine E.still (S.load 0 (k := 1) rfl rfl rfl Tryd.isAgg2) rfl ?_
 refine E.pure (S.add (b := ((1 : Nat) : Int)) rfl rfl (N.add64 (by omega))) rfl ?_
 refine E.pure (S.nilPtr rfl) rfl ?_
 refine E.pure (S.field rfl fa95_1) rfl ?_
 refine E.loud0 (X.store 0 (k := 1) rfl rfl rfl rfl rfl Tryd.sizeOf2) ?_; rintro _ _ ⟨rfl,rfl⟩; refine E.relist (L2 := [_,_]) rfl ?_
 refine E.kp [(0,_),(2,_),(3,_),(4,_),(17,_)] rfl ?_
 refine C.sr ?_
 refine E.pure (S.move rfl) rfl ?_
 refine E.pure (S.assign rfl) rfl ?_
 refine E.pure (S.assign (v := Er.val ea .none) rfl) rfl ?_
 refine E.kp [(0,_),(2,_),(3,_),(4,_),(17,_)] rfl ?_
 refine C.ret ?_
 exact ⟨_,_,rfl,rfl,rfl,rfl⟩
theorem readerRead_end {K : Known} (rb : Nat) (data : List UInt8) (i : Nat) (hd : data.length ≤ 4611686018427387904) {p : Int} {ea : Fin 5 → Addr} (hs : Sents K ea) (a : Option Addr) (c : Nat) (hi : i = data.length) (dst : Value) : Fn Tryd.prog K 107 #[.pointer (some ⟨rb,0,none⟩),dst] ([⟨rb,0,[.slice a data.length c,.int .i64 (i : Int),.int .i64 p]⟩]) (fun r L => r = .tuple #[.int .i64 0,Er.val ea .eof] ∧ L = [⟨rb,0,[.slice a data.length c,.int .i64 (i : Int),.int .i64 p]⟩]) := by
 refine Fn.intro (args := [.pointer (some ⟨rb,0,none⟩),dst]) (RR := Ret2 4 5 _) Tryd.func107 rfl rfl Tryd.ntmps107 (res2 Tryd.results107) ?_
 refine C.reenv (env2 := [(0,.pointer (some ⟨rb,0,none⟩)),(1,dst)]) rfl ?_
 refine C.sr ?_
 refine E.pure (S.assign rfl) rfl ?_
 refine E.pure (S.assign (v := Er.val ea .none) rfl) rfl ?_
 refine E.kp [(0,_),(1,_),(4,_),(5,_)] rfl ?_
 refine C.seq ?_
 refine C.seq ?_
 refine C.draw [0,1,2,4,0,16,32,64,128,264] (.pure 0 496 (.pure 1 497 (.pure 2 499 (.pure 4 15 (.pure 5 31 (.pure 6 63 (.seg [(3,503),(7,127),(8,255),(9,511)] .done))))))) mixed (by decide +kernel) ?_
 refine D.pure rfl (S.move rfl) rfl ?_
 refine D.pure rfl (S.nilPtr rfl) rfl ?_
 refine D.pure rfl (S.field rfl fa95_1) rfl ?_
 refine D.pure rfl (S.move rfl) rfl ?_
 refine D.pure rfl (S.nilPtr rfl) rfl ?_
 refine D.pure rfl (S.field rfl fa95_0) rfl ?_
 refine D.seg (by decide) ?_
 refine W.still rfl (S.load 0 (k := 1) rfl rfl rfl Tryd.isAgg2) rfl ?_
 refine W.still rfl (S.load 0 (k := 0) rfl rfl rfl Tryd.isAgg22) rfl ?_
 refine W.pure rfl (S.lenSl rfl Tryd.underlying22) rfl ?_
 refine W.pure rfl (S.ge rfl rfl) rfl ?_
 refine W.nil ?_
 refine D.kp [(0,_),(1,_),(4,_),(5,_),(15,_)] rfl ?_
 refine C.ifp rfl (fun h15 => ?_) (fun h15 => ?_)
 ·
  refine C.seq ?_
  refine C.draw [0,0,3] (.pure 1 1 (.seg [(0,2),(2,3)] .done)) mixed (by decide +kernel) ?_
  refine D.pure rfl (S.assign rfl) rfl ?_
  refine D.seg (by decide) ?_
  refine W.still rfl (S.loadBase rfl hs.g0 Tryd.isAgg59) rfl ?_
  refine W.pure rfl (S.assign rfl) rfl ?_
  refine W.nil ?_
  refine D.kp [(0,_),(1,_),(4,_),(5,_),(15,_)] rfl ?_
  refine C.ret ?_
  exact ⟨_,_,rfl,rfl,rfl,rfl⟩
 exact absurd hi (by omega)
theorem readerRead_next {K : Known} (rb : Nat) (data : List UInt8) (i : Nat) (hd : data.length ≤ 4611686018427387904) {p : Int} {ea : Fin 5 → Addr} (db o c : Nat) (ds : List Value) (hi : i < data.length) (hc : data.length ≤ c) (tb to m mc : Nat) (cs : List Value) (hm : m = cs.length) (hml : m ≤ 4611686018427387904) : Fn Tryd.prog K 107 #[.pointer (some ⟨rb,0,none⟩),.slice (some ⟨tb,to,none⟩) (m) (mc)] ([⟨rb,0,[.slice (some ⟨db,o,none⟩) data.length c,.int .i64 (i : Int),.int .i64 p]⟩,⟨db,o,bytesV data ++ ds⟩,⟨tb,to,cs⟩]) (fun r L => r = .tuple #[.int .i64 ((Nat.min (data.drop i).length m : Nat) : Int),Er.val ea .none] ∧ L = [⟨rb,0,[.slice (some ⟨db,o,none⟩) data.length c,.int .i64 ((i + Nat.min (data.drop i).length m : Nat) : Int),.int .i64 (-1)]⟩,⟨db,o,bytesV data ++ ds⟩,⟨tb,to,bytesV ((data.drop i).take m) ++ cs.drop (Nat.min (data.drop i).length m)⟩]) := by
 refine Fn.intro (args := [.pointer (some ⟨rb,0,none⟩),.slice (some ⟨tb,to,none⟩) (m) (mc)]) (RR := Ret2 4 5 _) Tryd.func107 rfl rfl Tryd.ntmps107 (res2 Tryd.results107) ?_
 refine C.reenv (env2 := [(0,.pointer (some ⟨rb,0,none⟩)),(1,.slice (some ⟨tb,to,none⟩) (m) (mc))]) rfl ?_
 refine C.sr ?_
 refine E.pure (S.assign rfl) rfl ?_
 refine E.pure (S.assign (v := Er.val ea .none) rfl) rfl ?_
 refine E.kp [(0,_),(1,_),(4,_),(5,_)] rfl ?_
 refine C.seq ?_
 refine C.seq ?_
 refine C.draw [0,1,2,4,0,16,32,64,128,264] (.pure 0 496 (.pure 1 497 (.pure 2 499 (.pure 4 15 (.pure 5 31 (.pure 6 63 (.seg [(3,503),(7,127),(8,255),(9,511)] .done))))))) mixed (by decide +kernel) ?_
 refine D.pure rfl (S.move rfl) rfl ?_
 refine D.pure rfl (S.nilPtr rfl) rfl ?_
 refine D.pure rfl (S.field rfl fa95_1) rfl ?_
 refine D.pure rfl (S.move rfl) rfl ?_
 refine D.pure rfl (S.nilPtr rfl) rfl ?_
 refine D.pure rfl (S.field rfl fa95_0) rfl ?_
 refine D.seg (by decide) ?_
 refine W.still rfl (S.load 0 (k := 1) rfl rfl rfl Tryd.isAgg2) rfl ?_
 refine W.still rfl (S.load 0 (k := 0) rfl rfl rfl Tryd.isAgg22) rfl ?_
 refine W.pure rfl (S.lenSl rfl Tryd.underlying22) rfl ?_
 refine W.pure rfl (S.ge rfl rfl) rfl ?_
 refine W.nil ?_
 refine D.kp [(0,_),(1,_),(4,_),(5,_),(15,_)] rfl ?_
 refine C.ifp rfl (fun h15 => ?_) (fun h15 => ?_)
 ·
  exact absurd hi (by omega)
 refine C.skip ?_
 refine C.sr ?_
 refine E.pure (S.move rfl) rfl ?_
 refine E.pure (S.nilPtr rfl) rfl ?_
 refine E.pure (S.field rfl fa95_2) rfl ?_
 refine E.loud0 (X.store 0 (k := 2) rfl rfl rfl rfl rfl Tryd.sizeOf3) ?_; rintro _ _ ⟨rfl,rfl⟩; refine E.relist (L2 := [_,_,_]) rfl ?_
 refine E.kp [(0,_),(1,_),(4,_),(5,_),(15,_)] rfl ?_
 refine C.seq ?_
 refine C.draw [0,0,2,4,8,0,32,64,128,272,513,2047] (.pure 0 1022 (.pure 1 481 (.pure 2 483 (.pure 3 487 (.pure 5 31 (.pure 6 63 (.pure 7 127 (.seg [(4,495),(8,255),(9,511)] (.alt 10 (.pure 11 2047 .done) .stop))))))))) mixed (by decide +kernel) ?_
 refine D.pure rfl (S.move rfl) rfl ?_
 refine D.pure rfl (S.move rfl) rfl ?_
 refine D.pure rfl (S.nilPtr rfl) rfl ?_
 refine D.pure rfl (S.field rfl fa95_0) rfl ?_
 refine D.pure rfl (S.move rfl) rfl ?_
 refine D.pure rfl (S.nilPtr rfl) rfl ?_
 refine D.pure rfl (S.field rfl fa95_1) rfl ?_
 refine D.seg (by decide) ?_
 refine W.still rfl (S.load 0 (k := 0) rfl rfl rfl Tryd.isAgg22) rfl ?_
 refine W.still rfl (S.load 0 (k := 1) rfl rfl rfl Tryd.isAgg2) rfl ?_
 refine W.pure rfl (S.slL rfl rfl (by omega) Tryd.underlying22 Tryd.sizeOf5) rfl ?_
 refine W.reslot (v := .slice (some ⟨db,o + i,none⟩) ((data.drop i).length) (c - i)) (slice_to (by rw [part,if_neg (by omega)]; omega) (by rw [List.length_drop]) rfl) ?_
 refine W.nil ?_
 refine D.one ?_
 refine O.loud1 rfl (X.copyB 2 rfl rfl rfl rfl (.inr ⟨_,_,rfl,Reads.frag (i := 1) rfl (bytes_part i)⟩) (Nat.le_of_eq hm)) rfl ?_; rintro _ _ ⟨rfl,rfl⟩; refine D.relist (L2 := [_,_,_]) rfl ?_
 refine D.pure rfl (S.assign rfl) rfl ?_
 refine D.kp [(0,_),(4,_),(5,_),(15,_)] rfl ?_
 refine C.seq ?_
 have hle : Nat.min (data.drop i).length m ≤ m := Nat.min_le_right _ _
 refine C.region ?_
 refine E.pure (S.move rfl) rfl ?_
 refine E.pure (S.nilPtr rfl) rfl ?_
 refine E.pure (S.field rfl fa95_1) rfl ?_
 refine E.still (S.load 0 (k := 1) rfl rfl rfl Tryd.isAgg2) rfl ?_
 refine E.pure (S.move rfl) rfl ?_
 refine E.pure (S.add rfl rfl (N.add64 (by omega))) rfl ?_
 refine E.pure (S.nilPtr rfl) rfl ?_
 refine E.pure (S.field rfl fa95_1) rfl ?_
 refine E.loud0 (X.store 0 (k := 1) rfl rfl rfl rfl rfl Tryd.sizeOf2) ?_; rintro _ _ ⟨rfl,rfl⟩; refine E.relist (L2 := [_,_,_]) rfl ?_
 refine E.kp [(0,_),(4,_),(5,_),(15,_)] rfl ?_
 refine C.ret ?_
 exact ⟨_,_,rfl,rfl,rfl,rfl⟩
theorem clone_nil {K : Known} : Fn Tryd.prog K 24 #[.slice none 0 0] ([]) (fun r L => r = .slice none 0 0 ∧ L = []) := by
 refine Fn.intro (args := [.slice none 0 0]) (RR := Ret1 2 _) Tryd.func24 rfl rfl Tryd.ntmps24 (res1 Tryd.results24) ?_
 refine C.reenv (env2 := [(0,.slice none 0 0)]) rfl ?_
 refine C.sr ?_
 refine E.pure (S.assign rfl) rfl ?_
 refine E.kp [(0,_),(2,_)] rfl ?_
 refine C.seq ?_
 refine C.sr ?_
 refine E.pure (S.move rfl) rfl ?_
 refine E.pure (S.eqSlNil rfl Tryd.underlying22) rfl ?_
 refine E.kp [(0,_),(2,_),(4,_)] rfl ?_
 refine C.yes rfl (rfl) ?_
 refine C.sr ?_
 refine E.pure (S.assign rfl) rfl ?_
 refine E.kp [(0,_),(2,_),(4,_)] rfl ?_
 refine C.ret ?_
 exact ⟨_,rfl,rfl,rfl⟩
/-- A slice of bytes of one's own. -/
def Own (data : List UInt8) (v : Value) (g : Frag) : Prop := ∃ b o c cs,v = .slice (some ⟨b,o,none⟩) data.length c ∧ g = ⟨b,o,bytesV data ++ cs⟩ ∧ data.length ≤ c

theorem clone_empty {K : Known} (a : Addr) (c : Nat) : Fn Tryd.prog K 24 #[.slice (some a) 0 c] ([]) (fun r L => ∃ g,Own [] r g ∧ L = [g]) := by
 refine Fn.intro (args := [.slice (some a) 0 c]) (RR := Ret1 2 _) Tryd.func24 rfl rfl Tryd.ntmps24 (res1 Tryd.results24) ?_
 refine C.reenv (env2 := [(0,.slice (some a) 0 c)]) rfl ?_
 refine C.sr ?_
 refine E.pure (S.assign rfl) rfl ?_
 refine E.kp [(0,_),(2,_)] rfl ?_
 refine C.seq ?_
 refine C.sr ?_
 refine E.pure (S.move rfl) rfl ?_
 refine E.pure (S.eqSlNil rfl Tryd.underlying22) rfl ?_
 refine E.kp [(0,_),(2,_),(4,_)] rfl ?_
 refine C.no rfl (rfl) ?_
 refine C.skip ?_
 refine C.sr ?_
 refine E.loud1 (X.buildSlice (vs := []) (e := 5) (i := Tryd.t5) (z := .int .u8 0) (fun w => by simp [Instr.buildSlice,Instr.fill,newRow,Tryd.runUnderlying22,Tryd.typeInfo5]; rw [show Array.map (fun _ => (default : Value)) (Array.range 0) = #[] from Array.eq_empty_of_size_eq_zero (by simp)]) rfl) rfl ?_; rintro _ _ ⟨nb,rfl,rfl⟩; refine E.relist (L2 := [_]) rfl ?_
 refine E.pure (S.move rfl) rfl ?_
 refine E.loud1 (X.appendNone rfl rfl (Nat.le_refl 0)) rfl ?_; rintro _ _ ⟨rfl,rfl⟩; refine E.relist (L2 := [_]) rfl ?_
 refine E.pure (S.assign rfl) rfl ?_
 refine E.kp [(0,_),(2,_),(4,_)] rfl ?_
 refine C.ret ?_
 exact ⟨_,rfl,_,⟨_,_,_,[],rfl,rfl,Nat.le_refl 0⟩,rfl⟩
theorem clone_full {K : Known} (db o c : Nat) (data : List UInt8) (hp : KB K db o data) (hl : data.length ≤ 140737488355328) (hne : 0 < data.length) : Fn Tryd.prog K 24 #[.slice (some ⟨db,o,none⟩) (data.length) (c)] ([]) (fun r L => ∃ g,Own data r g ∧ L = [g]) := by
 refine Fn.intro (args := [.slice (some ⟨db,o,none⟩) (data.length) (c)]) (RR := Ret1 2 _) Tryd.func24 rfl rfl Tryd.ntmps24 (res1 Tryd.results24) ?_
 refine C.reenv (env2 := [(0,.slice (some ⟨db,o,none⟩) (data.length) (c))]) rfl ?_
 refine C.sr ?_
 refine E.pure (S.assign rfl) rfl ?_
 refine E.kp [(0,_),(2,_)] rfl ?_
 refine C.seq ?_
 refine C.sr ?_
 refine E.pure (S.move rfl) rfl ?_
 refine E.pure (S.eqSlNil rfl Tryd.underlying22) rfl ?_
 refine E.kp [(0,_),(2,_),(4,_)] rfl ?_
 refine C.no rfl (rfl) ?_
 refine C.skip ?_
 refine C.sr ?_
 refine E.loud1 (X.buildSlice (vs := []) (e := 5) (i := Tryd.t5) (z := .int .u8 0) (fun w => by simp [Instr.buildSlice,Instr.fill,newRow,Tryd.runUnderlying22,Tryd.typeInfo5]; rw [show Array.map (fun _ => (default : Value)) (Array.range 0) = #[] from Array.eq_empty_of_size_eq_zero (by simp)]) rfl) rfl ?_; rintro _ _ ⟨nb,rfl,rfl⟩; refine E.relist (L2 := [_]) rfl ?_
 refine E.pure (S.move rfl) rfl ?_
 refine E.loud1 (X.appendB (L := []) (xs := []) (ys := data) (Lf := [⟨nb,0,[]⟩]) rfl rfl ⟨rfl,.inr ⟨nb,0,0,[],rfl,rfl,rfl,Nat.le_refl 0,by decide,rfl⟩⟩ rfl (.inr ⟨_,_,rfl,hp.reads⟩) (by simpa using hl)) rfl ?_
 rintro r _ ⟨Lf,hsl,rfl⟩
 obtain ⟨b5,o5,c5,cs5,rfl,rfl,hcl,hlc,_,htk⟩ := hsl.one (by simpa using hne)
 rw [List.nil_append] at hlc htk
 rw [Nat.mul_one] at htk
 refine E.relist (L2 := [⟨b5,o5,cs5⟩]) rfl ?_
 refine E.reslot (v := .slice (some ⟨b5,o5,none⟩) data.length c5) rfl ?_
 refine E.pure (S.assign rfl) rfl ?_
 refine E.kp [(0,_),(2,_),(4,_)] rfl ?_
 refine C.ret ?_
 exact ⟨_,rfl,_,⟨b5,o5,c5,cs5.drop data.length,rfl,by rw [← htk]; simp,hlc⟩,rfl⟩
/-- bytes.Clone of bytes that can be read. -/
theorem clone_spec {K : Known} {L : Frags} (db o c : Nat) (data : List UInt8) (hr : Reads K L db o (bytesV data)) (hl : data.length ≤ 140737488355328) :
    Fn Tryd.prog K 24 #[.slice (some ⟨db,o,none⟩) (data.length) (c)] L (fun r L' => ∃ g,Own data r g ∧ L' = g::L) := by
  refine Fn.mono (Fn.still (R := fun r L => ∃ g,Own data r g ∧ L = [g]) fun w hw => ?_) ?_
  · cases data with
    | nil => exact clone_empty _ _
    | cons x t => exact clone_full db o c (x::t) (hr.kb hw) hl (by simp)
  · rintro v L' ⟨L1,⟨g,h1,rfl⟩,rfl⟩
    exact ⟨g,h1,rfl⟩

end Go.Eng
namespace Go.Eng
open Go Go.Proofs
set_option maxRecDepth 100000

def rdByte (l : List UInt8) : Nat := match l with
  | [] => 0
  | c::_ => c.toNat
def rdErr (l : List UInt8) : Er := match l with
  | [] => .eof
  | _ => .none

structure Src (K : Known) (ea : Fin 5 → Addr) where
  t : TypeId
  v : Value
  rd : FuncId
  rb : FuncId
  At : List UInt8 → Frag → Frag → Frag → Prop
  mRead : ∀ w,(method (Tryd.prog.types.size + Made.depth) t v "Read").run Tryd.prog w = .ok (rd,v) w
  mByte : ∀ w,(method (Tryd.prog.types.size + Made.depth) t v "ReadByte").run Tryd.prog w = .ok (rb,v) w
  nRead : ∀ w,(nilAhead (Tryd.prog.types.size + Made.depth) t v "Read").run Tryd.prog w = .ok (some false) w
  nByte : ∀ w,(nilAhead (Tryd.prog.types.size + Made.depth) t v "ReadByte").run Tryd.prog w = .ok (some false) w
  both : ∀ want,Tryd.prog.underlying 71 = some (.interface want) → (Tryd.prog.info? t).map (fun i => (lacking want i.methods).isEmpty) = some true
  cRead : ∀ args w,(callFunc rd args).run Tryd.prog w = .ok (.enter rd args) w
  cByte : ∀ args w,(callFunc rb args).run Tryd.prog w = .ok (.enter rb args) w
  read : ∀ l g1 g2 g3 b o m mc cs,At l g1 g2 g3 → 0 < m → m = cs.length → m ≤ 4611686018427387904 → Fn Tryd.prog K rd #[v,.slice (some ⟨b,o,none⟩) m mc] [g1,g2,g3,⟨b,o,cs⟩]
    fun r L => ∃ k h1 h2 h3,At (l.drop k) h1 h2 h3 ∧ k ≤ m ∧ k ≤ l.length ∧ (l ≠ [] → 0 < k) ∧ r = .tuple #[.int .i64 (k : Int),Er.val ea (rdErr l)] ∧ L = [h1,h2,h3,⟨b,o,bytesV (l.take k) ++ cs.drop k⟩]
  byte : ∀ l g1 g2 g3,At l g1 g2 g3 → Fn Tryd.prog K rb #[v] [g1,g2,g3]
    fun r L => ∃ h1 h2 h3,At (l.drop 1) h1 h2 h3 ∧ r = .tuple #[.int .u8 ((rdByte l : Nat) : Int),Er.val ea (rdErr l)] ∧ L = [h1,h2,h3]

theorem depthS : ∃ d,Tryd.prog.types.size + Made.depth = d + 1 := by
  have : 0 < Made.depth := by decide
  exact ⟨Tryd.prog.types.size + Made.depth - 1,by omega⟩

theorem bmRead (b : Nat) (w : World) : (method (Tryd.prog.types.size + Made.depth) 54 (.pointer (some ⟨b,0,none⟩)) "Read").run Tryd.prog w = .ok (107,.pointer (some ⟨b,0,none⟩)) w := by
  obtain ⟨d,hd⟩ := depthS
  rw [hd]
  simp [method,Tryd.typeInfo54,Tryd.t54,Tryd.runUnderlying54,follow,receiverAt,Place.get]
theorem bmByte (b : Nat) (w : World) : (method (Tryd.prog.types.size + Made.depth) 54 (.pointer (some ⟨b,0,none⟩)) "ReadByte").run Tryd.prog w = .ok (108,.pointer (some ⟨b,0,none⟩)) w := by
  obtain ⟨d,hd⟩ := depthS
  rw [hd]
  simp [method,Tryd.typeInfo54,Tryd.t54,Tryd.runUnderlying54,follow,receiverAt,Place.get]
theorem bnRead (b : Nat) (w : World) : (nilAhead (Tryd.prog.types.size + Made.depth) 54 (.pointer (some ⟨b,0,none⟩)) "Read").run Tryd.prog w = .ok (some false) w := by
  obtain ⟨d,hd⟩ := depthS
  rw [hd]
  simp [nilAhead,Tryd.typeInfo54,Tryd.t54,followBlind]
theorem bnByte (b : Nat) (w : World) : (nilAhead (Tryd.prog.types.size + Made.depth) 54 (.pointer (some ⟨b,0,none⟩)) "ReadByte").run Tryd.prog w = .ok (some false) w := by
  obtain ⟨d,hd⟩ := depthS
  rw [hd]
  simp [nilAhead,Tryd.typeInfo54,Tryd.t54,followBlind]

theorem bmBoth0 : (Tryd.prog.info? 54).map (fun i => (lacking #[("Read",89),("ReadByte",139)] i.methods).isEmpty) = some true := by kernel_rfl
theorem bmBoth (want : Array (String × TypeId)) (h : Tryd.prog.underlying 71 = some (.interface want)) : (Tryd.prog.info? 54).map (fun i => (lacking want i.methods).isEmpty) = some true := by
  have h2 := (Tryd.underlying71).symm.trans h
  simp only [Option.some.injEq,TypeDesc.interface.injEq] at h2
  rw [← h2]
  exact bmBoth0

/-- What a bytes.Reader at place i holds: its struct; its bytes; nothing. -/
def ReaderAt (rb : Nat) (a : Option Addr) (c : Nat) (data : List UInt8) (i : Nat) (g1 g2 g3 : Frag) : Prop :=
  g1 = ⟨rb,0,[.slice a data.length c,.int .i64 (i : Int),.int .i64 (-1)]⟩ ∧ i ≤ data.length ∧ data.length ≤ 4611686018427387904 ∧ data.length ≤ c ∧
    (data = [] ∨ ∃ db o cs,a = some ⟨db,o,none⟩ ∧ g2 = ⟨db,o,bytesV data ++ cs⟩) ∧ g3 = ⟨rb,0,[]⟩

/-- A bytes.Reader as a source. -/
def readerSrc (K : Known) (ea : Fin 5 → Addr) (hs : Sents K ea) (rb : Nat) (a : Option Addr) (c : Nat) (data : List UInt8) : Src K ea where
  t := 54
  v := .pointer (some ⟨rb,0,none⟩)
  rd := 107
  rb := 108
  At l g1 g2 g3 := ∃ i,l = data.drop i ∧ ReaderAt rb a c data i g1 g2 g3
  mRead := bmRead rb
  mByte := bmByte rb
  nRead := bnRead rb
  nByte := bnByte rb
  both := bmBoth
  cRead := Tryd.call107
  cByte := Tryd.call108
  read := by
    rintro l g1 g2 g3 b o m mc cs ⟨i,rfl,rfl,hi,hd,hc,hg,rfl⟩ hm0 hm hml
    by_cases he : i = data.length
    · have hnil : data.drop i = [] := by rw [he,List.drop_length]
      refine Fn.mono (Fn.pick [0] (A := [_]) (F := [_,_,_]) rfl (readerRead_end rb data i hd hs a c he _)) ?_
      rintro r _ ⟨_,⟨rfl,rfl⟩,rfl⟩
      refine ⟨0,_,_,_,⟨i,by rw [hnil]; rfl,rfl,hi,hd,hc,hg,rfl⟩,by omega,by omega,fun h => absurd hnil h,by rw [hnil]; rfl,by rw [hnil]; rfl⟩
    · have hi' : i < data.length := by omega
      rcases hg with rfl | ⟨db,o',ds,rfl,rfl⟩
      · simp at hi'
      · have hdl : (data.drop i).length = data.length - i := List.length_drop
        refine Fn.sameR (Fn.pick [0,0,1] (A := [_,_,_]) (F := [_]) rfl (readerRead_next (ea := ea) rb data i hd db o' c ds hi' hc b o m mc cs hm hml)) ?_
        rintro r _ ⟨_,⟨rfl,rfl⟩,rfl⟩
        have hmin : Nat.min (data.drop i).length m = min (data.drop i).length m := rfl
        have hk : Nat.min (data.drop i).length m ≤ data.length - i := by rw [← hdl]; exact Nat.min_le_left _ _
        have hne : data.drop i ≠ [] := fun h => by rw [h] at hdl; simp at hdl; omega
        have htk : (data.drop i).take (Nat.min (data.drop i).length m) = (data.drop i).take m := by
          rw [List.take_eq_take_iff,hmin]; omega
        refine ⟨_,Same.perm (((List.Perm.swap _ _ _).cons _).cons _),Nat.min (data.drop i).length m,_,_,_,⟨i + Nat.min (data.drop i).length m,List.drop_drop ..,rfl,by omega,hd,hc,.inr ⟨db,o',ds,rfl,rfl⟩,rfl⟩,
          Nat.min_le_right _ _,Nat.min_le_left _ _,fun _ => ?_,?_,?_⟩
        · rw [hmin,hdl]; omega
        · have : rdErr (data.drop i) = .none := by
            unfold rdErr
            split
            · rename_i h; exact absurd h hne
            · rfl
          rw [this]
        · rw [htk]
  byte := by
    rintro l g1 g2 g3 ⟨i,rfl,rfl,hi,hd,hc,hg,rfl⟩
    by_cases he : i = data.length
    · have hnil : data.drop i = [] := by rw [he,List.drop_length]
      refine Fn.mono (Fn.pick [0] (A := [_]) (F := [_,_]) rfl (readByte_end rb data i hd hs a c he)) ?_
      rintro r _ ⟨_,⟨rfl,rfl⟩,rfl⟩
      exact ⟨_,_,_,⟨i,by rw [hnil]; rfl,rfl,hi,hd,hc,hg,rfl⟩,by rw [hnil]; rfl,rfl⟩
    · have hi' : i < data.length := by omega
      rcases hg with rfl | ⟨db,o',ds,rfl,rfl⟩
      · simp at hi'
      · have hcons : data.drop i = data[i]::data.drop (i + 1) := List.drop_eq_getElem_cons hi'
        refine Fn.mono (Fn.pick [0,0] (A := [_,_]) (F := [_]) rfl (readByte_next (ea := ea) rb data i hd db o' c ds hi')) ?_
        rintro r _ ⟨_,⟨rfl,rfl⟩,rfl⟩
        exact ⟨_,_,_,⟨i + 1,by rw [hcons]; rfl,rfl,by omega,hd,hc,.inr ⟨db,o',ds,rfl,rfl⟩,rfl⟩,by rw [hcons]; rfl,rfl⟩
end Go.Eng
namespace Go.Eng
open Go Go.Proofs
set_option maxRecDepth 100000


/-- How ReadFull ends. -/
def fullErr (l : List UInt8) (m : Nat) : Er := if m ≤ l.length then .none else if l.length = 0 then .eof else .unexp

theorem rdErr_nil {l : List UInt8} (h : l.length = 0) : rdErr l = .eof := by
  rw [List.eq_nil_of_length_eq_zero h]; rfl
theorem rdErr_cons {l : List UInt8} (h : l.length ≠ 0) : rdErr l = .none := by
  cases l with
  | nil => simp at h
  | cons c r => rfl

theorem min_i {l : List UInt8} {m : Nat} : Nat.min m l.length = min m l.length := rfl

theorem more_bytes {l : List UInt8} {cs : List Value} (k j : Nat) (hk : k ≤ l.length) : bytesV (l.take k) ++ (bytesV ((l.drop k).take j) ++ (cs.drop k).drop j) = bytesV (l.take (k + j)) ++ cs.drop (k + j) := by
  rw [← List.append_assoc,← bytesV_append,← List.take_add,List.drop_drop]


theorem ra_step {l : List UInt8} {k j m : Nat} (hk : k ≤ l.length) (hj : j ≤ (l.drop k).length) (hkm : k < m) : rdErr (l.drop k) = .none ∨ (rdErr (l.drop k) = .eof ∧ k + j = l.length ∧ k + j < m) := by
  by_cases hz : (l.drop k).length = 0
  · rw [List.length_drop] at hz hj
    exact .inr ⟨rdErr_nil (by rw [List.length_drop]; exact hz),by omega,by omega⟩
  · exact .inl (rdErr_cons hz)
theorem ra_lt {l : List UInt8} {k j m : Nat} (hj : l.drop k ≠ [] → 0 < j) (hkm : k < m) :
    2 * (m - (k + j)) + (if (rdErr (l.drop k)).isNone then 1 else 0) < 2 * (m - k) + (if Er.none.isNone then 1 else 0) := by
  have h1 : (if Er.none.isNone = true then 1 else 0) = 1 := rfl
  rw [h1]
  by_cases hz : (l.drop k).length = 0
  · rw [rdErr_nil hz]
    have : (if Er.eof.isNone = true then 1 else 0) = 0 := rfl
    rw [this]; omega
  · rw [rdErr_cons hz,h1]
    have := hj (fun h => hz (by rw [h]; rfl))
    omega
theorem fullErr_all {l : List UInt8} {m : Nat} (h : m ≤ l.length) : fullErr l m = .none := by rw [fullErr,if_pos h]
theorem fullErr_eof {l : List UInt8} {m : Nat} (h : l.length < m) (h0 : l.length = 0) : fullErr l m = .eof := by rw [fullErr,if_neg (by omega),if_pos h0]
theorem fullErr_part {l : List UInt8} {m : Nat} (h : l.length < m) (h0 : l.length ≠ 0) : fullErr l m = .unexp := by rw [fullErr,if_neg (by omega),if_neg h0]
theorem full_end {l : List UInt8} {k m : Nat} (h : k = l.length) (hm : k < m) : l.take k = l.take m ∧ l.drop k = l.drop m ∧ Nat.min m l.length = k := by
  subst h
  rw [List.take_length,List.take_of_length_le (by omega),List.drop_length,List.drop_eq_nil_of_le (by omega)]
  exact ⟨rfl,rfl,Nat.min_eq_right (by omega)⟩

theorem readAtLeast_spec {K : Known} {ea : Fin 5 → Addr} (hs : Sents K ea) (src : Src K ea) (l : List UInt8) (x1 x2 x3 : Frag) (b o m mc : Nat) (cs : List Value) (hA : src.At l x1 x2 x3) (hm : m = cs.length) (hmc : m ≤ mc) (hml : m ≤ 4611686018427387904) : Fn Tryd.prog K 54 #[.iface src.t src.v,.slice (some ⟨b,o,none⟩) (m) (mc),.int .i64 ((m : Nat) : Int)] ([x1,x2,x3,⟨b,o,cs⟩]) (fun r L => ∃ f1 f2 f3,src.At (l.drop m) f1 f2 f3 ∧ r = .tuple #[.int .i64 ((Nat.min m l.length : Nat) : Int),Er.val ea (fullErr l m)] ∧ L = [f1,f2,f3,⟨b,o,bytesV (l.take m) ++ cs.drop (Nat.min m l.length)⟩]) := by
 refine Fn.intro (args := [.iface src.t src.v,.slice (some ⟨b,o,none⟩) (m) (mc),.int .i64 ((m : Nat) : Int)]) (RR := Ret2 6 7 _) Tryd.func54 rfl rfl Tryd.ntmps54 (res2 Tryd.results54) ?_
 refine C.reenv (env2 := [(0,.iface src.t src.v),(1,.slice (some ⟨b,o,none⟩) (m) (mc)),(2,.int .i64 ((m : Nat) : Int))]) rfl ?_
 refine C.sr ?_
 refine E.pure (S.assign rfl) rfl ?_
 refine E.pure (S.assign (v := Er.val ea .none) rfl) rfl ?_
 refine E.kp [(0,_),(1,_),(2,_),(6,_),(7,_)] rfl ?_
 refine C.seq ?_
 refine C.sr ?_
 refine E.pure (S.move rfl) rfl ?_
 refine E.pure (S.lenSl rfl Tryd.underlying22) rfl ?_
 refine E.pure (S.move rfl) rfl ?_
 refine E.pure (S.lt rfl rfl) rfl ?_
 refine E.kp [(0,_),(1,_),(2,_),(6,_),(7,_),(12,_)] rfl ?_
 refine C.ifp rfl (fun h12 => ?_) (fun h12 => ?_)
 ·
  exact absurd h12 (by omega)
 refine C.skip ?_
 refine C.cut (M := fun ee ll => ∃ (k : Nat),∃ (e : Er),∃ (g1 : Frag),∃ (g2 : Frag),∃ (g3 : Frag),keeps ee [0,1,2,6,7] = some [(0,.iface src.t src.v),(1,.slice (some ⟨b,o,none⟩) (m) (mc)),(2,.int .i64 ((m : Nat) : Int)),(6,.int .i64 ((k : Nat) : Int)),(7,Er.val ea e)] ∧ ll = [g1,g2,g3,⟨b,o,bytesV (l.take k) ++ cs.drop k⟩] ∧ (src.At (l.drop k) g1 g2 g3) ∧ (k = m ∧ k ≤ l.length ∨ (e = .eof ∧ k = l.length ∧ k < m))) ?_ ?_
 ·
  refine C.block ?_
  refine C.loop (fun mm ee ll => ∃ (k : Nat),∃ (e : Er),∃ (g1 : Frag),∃ (g2 : Frag),∃ (g3 : Frag),keeps ee [0,1,2,6,7] = some [(0,.iface src.t src.v),(1,.slice (some ⟨b,o,none⟩) (m) (mc)),(2,.int .i64 ((m : Nat) : Int)),(6,.int .i64 ((k : Nat) : Int)),(7,Er.val ea e)] ∧ ll = [g1,g2,g3,⟨b,o,bytesV (l.take k) ++ cs.drop k⟩] ∧ (k ≤ l.length) ∧ (k ≤ m) ∧ (src.At (l.drop k) g1 g2 g3) ∧ (e = .none ∨ (e = .eof ∧ k = l.length ∧ k < m)) ∧ mm = 2 * (m - k) + (if e.isNone then 1 else 0)) (_) ⟨0,.none,x1,x2,x3,rfl,rfl,by omega,by omega,hA,.inl rfl,rfl⟩ ?_
  rintro m0 _ _ ⟨k,e,g1,g2,g3,hk0,rfl,hk,hkm,hG,hE,hm0⟩
  refine C.weaken _ hk0 ?_
  refine C.seq ?_
  refine C.sr ?_
  refine E.pure (S.move rfl) rfl ?_
  refine E.pure (S.move rfl) rfl ?_
  refine E.pure (S.lt rfl rfl) rfl ?_
  refine E.pure (S.move rfl) rfl ?_
  refine E.fork (fun g17 => ?_) (fun g17 => ?_)
  ·
   refine E.wanted 17 rfl rfl ?_
   refine E.pure (S.move rfl) rfl ?_
   refine E.wanted 17 rfl rfl ?_
   refine E.still (S.eqErNil rfl) rfl ?_
   refine E.pure (S.pickT rfl rfl) rfl ?_
   refine E.kp [(0,_),(1,_),(2,_),(6,_),(7,_),(20,_)] rfl ?_
   first | refine C.ifp rfl (fun h20 => ?_) (fun h20 => ?_) | refine C.ifNone rfl (fun h20 => ?_) (fun h20 => ?_) | refine C.ifSome rfl (fun h20 => ?_) (fun h20 => ?_) | refine C.ifSe rfl (fun h20 => ?_) (fun h20 => ?_) | refine C.ifNotSe rfl (fun h20 => ?_) (fun h20 => ?_) | refine C.cond rfl (fun h20 => ?_) (fun h20 => ?_)
   ·
    subst h20
    refine C.skip ?_
    refine C.block ?_
    refine C.sr ?_
    refine E.pure (S.assign rfl) rfl ?_
    refine E.kp [(0,_),(1,_),(2,_),(6,_),(7,_),(8,_),(20,_)] rfl ?_
    refine C.seq ?_
    have hkm2 : k < m := by omega
    have hxs : (bytesV (l.take k)).length = k := by rw [bytesV_length,List.length_take]; omega
    have hcs : cs.length - k = m - k := by omega
    refine C.same (Same.splitAt (k := k) 3 rfl rfl rfl hxs rfl) ?_
    refine C.relist (L2 := [⟨b,o,bytesV (l.take k)⟩,⟨b,o + k,cs.drop k⟩,g1,g2,g3]) rfl ?_
    refine C.draw [0,0,0,6,1,16,49,72,128,256,256,1023,4095] (.pure 0 14 (.pure 1 117 (.pure 2 115 (.pure 3 119 (.pure 4 15 (.pure 5 31 (.pure 6 63 (.alt 7 (.pure 8 255 (.pure 9 1535 (.pure 10 3071 (.pure 11 2047 (.pure 12 4095 .done))))) .stop)))))))) mixed (by decide +kernel) ?_
    refine D.pure rfl (S.move rfl) rfl ?_
    refine D.pure rfl (S.move rfl) rfl ?_
    refine D.pure rfl (S.move rfl) rfl ?_
    refine D.pure rfl (S.slL rfl rfl (by omega) Tryd.underlying22 Tryd.sizeOf5) rfl ?_
    refine D.reslot (v := .slice (some ⟨b,o + k,none⟩) (m - k) (mc - k)) (slice_to (by rw [part,if_neg (by omega)]; omega) rfl rfl) ?_
    refine D.pure rfl (S.mkMethod rfl) rfl ?_
    first | refine D.pure rfl (S.nilPtr rfl) rfl ?_ | refine D.pure rfl (S.nilIface rfl) rfl ?_ | refine D.pure rfl (S.nilFunc rfl) rfl ?_ | refine D.pure rfl (S.nilMethod rfl src.nRead) rfl ?_
    refine D.pure rfl (S.move rfl) rfl ?_
    refine D.one ?_
    refine O.loud1 rfl (OpX.pick [2,2,2,1] (F := [_]) rfl (X.invoke rfl rfl src.mRead src.cRead (src.read _ _ _ _ b (o + k) (m - k) (mc - k) (cs.drop k) hG (by omega) (by rw [List.length_drop]; omega) (by omega)))) rfl ?_; rintro _ _ ⟨_,⟨j,f1,f2,f3,hF,hj1,hj2,hj3,rfl,rfl⟩,rfl⟩; refine D.relist (L2 := [_,_,_,_,_]) rfl ?_
    refine D.pure rfl (S.move rfl) rfl ?_
    refine D.pure rfl (S.extract rfl rfl) rfl ?_
    refine D.pure rfl (S.extract rfl rfl) rfl ?_
    refine D.pure rfl (S.assign rfl) rfl ?_
    refine D.pure rfl (S.assign rfl) rfl ?_
    refine D.kp [(0,_),(1,_),(2,_),(6,_),(7,_),(8,_),(20,_)] rfl ?_
    refine C.same (Same.joinAt 4 3 rfl rfl (by rw [hxs])) ?_
    refine C.relist (L2 := [⟨b,o,bytesV (l.take k) ++ (bytesV ((l.drop k).take j) ++ (cs.drop k).drop j)⟩,f1,f2,f3]) rfl ?_
    rw [more_bytes k j hk]
    refine C.perml [1,1,1,0] (A := [_,_,_,_]) (F := []) rfl ?_
    refine C.relist (L2 := [f1,f2,f3,⟨b,o,bytesV (l.take (k + j)) ++ cs.drop (k + j)⟩]) rfl ?_
    refine C.region ?_
    refine E.pure (S.move rfl) rfl ?_
    refine E.pure (S.move rfl) rfl ?_
    refine E.pure (S.add rfl rfl (N.add64 (by omega))) rfl ?_
    refine E.pure (S.assign rfl) rfl ?_
    refine E.kp [(0,_),(1,_),(2,_),(6,_),(7,_),(8,_),(20,_)] rfl ?_
    refine ⟨_,?_,k + j,_,f1,f2,f3,rfl,rfl,by rw [List.length_drop] at hj2; omega,by omega,by rw [← List.drop_drop]; exact hF,ra_step hk hj2 hkm2,rfl⟩; (rw [hm0]; exact ra_lt hj3 hkm2)
   refine C.exit rfl ?_
   exact ⟨_,_,_,_,_,rfl,rfl,hG,by first | exact .inl ⟨by omega,hk⟩ | exact .inr (hE.resolve_left h20)⟩
  refine E.guardNo 17 false rfl rfl rfl rfl ?_
  refine E.guardNo 17 false rfl rfl rfl rfl ?_
  refine E.pure (S.pickF rfl rfl) rfl ?_
  refine E.kp [(0,_),(1,_),(2,_),(6,_),(7,_),(20,_)] rfl ?_
  refine C.no rfl (rfl) ?_
  refine C.exit rfl ?_
  exact ⟨_,_,_,_,_,rfl,rfl,hG,by first | exact .inl ⟨by omega,hk⟩ | exact .inr (hE.resolve_left h20)⟩
 rintro _ _ ⟨k,e,g1,g2,g3,hq7,rfl,hG,hkm⟩
 refine C.weaken _ hq7 ?_
 refine C.seq ?_
 refine C.sr ?_
 refine E.pure (S.move rfl) rfl ?_
 refine E.pure (S.move rfl) rfl ?_
 refine E.pure (S.ge rfl rfl) rfl ?_
 refine E.kp [(0,_),(1,_),(2,_),(6,_),(7,_),(37,_)] rfl ?_
 refine C.ifp rfl (fun h37 => ?_) (fun h37 => ?_)
 ·
  obtain ⟨rfl,hkl⟩ : k = m ∧ k ≤ l.length := hkm.resolve_right (by omega)
  refine C.region ?_
  refine E.pure (S.assign (v := Er.val ea .none) rfl) rfl ?_
  refine E.kp [(0,_),(1,_),(2,_),(6,_),(7,_),(37,_)] rfl ?_
  refine C.ret ?_
  exact ⟨_,_,rfl,rfl,g1,g2,g3,hG,by rw [fullErr_all hkl,min_i,Nat.min_eq_left hkl],by rw [min_i,Nat.min_eq_left hkl]⟩
 obtain ⟨he,hkl,hkm3⟩ := hkm.resolve_left (by omega)
 obtain ⟨q1,q2,q3⟩ := full_end hkl hkm3
 rw [q2] at hG
 refine C.sr ?_
 refine E.pure (S.move rfl) rfl ?_
 refine E.pure (S.gt (b := ((0 : Nat) : Int)) rfl rfl) rfl ?_
 refine E.pure (S.move rfl) rfl ?_
 refine E.fork (fun g40 => ?_) (fun g40 => ?_)
 ·
  refine E.wanted 40 rfl rfl ?_
  refine E.pure (S.move rfl) rfl ?_
  refine E.wanted 40 rfl rfl ?_
  refine E.still (S.loadBase rfl hs.g0 Tryd.isAgg59) rfl ?_
  refine E.wanted 40 rfl rfl ?_
  refine E.still (S.eqEr hs rfl rfl) rfl ?_
  refine E.pure (S.pickT rfl rfl) rfl ?_
  refine E.kp [(0,_),(1,_),(2,_),(6,_),(7,_),(37,_),(44,_)] rfl ?_
  first | refine C.ifp rfl (fun h44 => ?_) (fun h44 => ?_) | refine C.ifNone rfl (fun h44 => ?_) (fun h44 => ?_) | refine C.ifSome rfl (fun h44 => ?_) (fun h44 => ?_) | refine C.ifSe rfl (fun h44 => ?_) (fun h44 => ?_) | refine C.ifNotSe rfl (fun h44 => ?_) (fun h44 => ?_) | refine C.cond rfl (fun h44 => ?_) (fun h44 => ?_)
  ·
   refine C.region ?_
   refine E.still (S.loadBase rfl hs.g3 Tryd.isAgg59) rfl ?_
   refine E.pure (S.assign rfl) rfl ?_
   refine E.kp [(0,_),(1,_),(2,_),(6,_),(7,_),(37,_),(44,_)] rfl ?_
   refine C.ret ?_
   first | exact ⟨_,_,rfl,rfl,g1,g2,g3,hG,by rw [fullErr_all hkl,min_i,Nat.min_eq_left hkl],by rw [min_i,Nat.min_eq_left hkl]⟩ | exact ⟨_,_,rfl,rfl,g1,g2,g3,hG,by rw [fullErr_part (by omega) (by omega),q3],by rw [q1,q3]⟩ | exact ⟨_,_,rfl,rfl,g1,g2,g3,hG,by rw [fullErr_eof (by omega) (by omega),q3,he],by rw [q1,q3]⟩
  exact absurd he h44
 refine E.guardNo 40 false rfl rfl rfl rfl ?_
 refine E.guardNo 40 false rfl rfl rfl rfl ?_
 refine E.guardNo 40 false rfl rfl rfl rfl ?_
 refine E.pure (S.pickF rfl rfl) rfl ?_
 refine E.kp [(0,_),(1,_),(2,_),(6,_),(7,_),(37,_),(44,_)] rfl ?_
 refine C.no rfl (rfl) ?_
 refine C.skip ?_
 refine C.ret ?_
 first | exact ⟨_,_,rfl,rfl,g1,g2,g3,hG,by rw [fullErr_all hkl,min_i,Nat.min_eq_left hkl],by rw [min_i,Nat.min_eq_left hkl]⟩ | exact ⟨_,_,rfl,rfl,g1,g2,g3,hG,by rw [fullErr_part (by omega) (by omega),q3],by rw [q1,q3]⟩ | exact ⟨_,_,rfl,rfl,g1,g2,g3,hG,by rw [fullErr_eof (by omega) (by omega),q3,he],by rw [q1,q3]⟩
theorem readFull_spec {K : Known} {ea : Fin 5 → Addr} (hs : Sents K ea) (src : Src K ea) (l : List UInt8) (x1 x2 x3 : Frag) (b o m mc : Nat) (cs : List Value) (hA : src.At l x1 x2 x3) (hm : m = cs.length) (hmc : m ≤ mc) (hml : m ≤ 4611686018427387904) : Fn Tryd.prog K 45 #[.iface src.t src.v,.slice (some ⟨b,o,none⟩) (m) (mc)] ([x1,x2,x3,⟨b,o,cs⟩]) (fun r L => ∃ f1 f2 f3,src.At (l.drop m) f1 f2 f3 ∧ r = .tuple #[.int .i64 ((Nat.min m l.length : Nat) : Int),Er.val ea (fullErr l m)] ∧ L = [f1,f2,f3,⟨b,o,bytesV (l.take m) ++ cs.drop (Nat.min m l.length)⟩]) := by
 refine Fn.intro (args := [.iface src.t src.v,.slice (some ⟨b,o,none⟩) (m) (mc)]) (RR := Ret2 4 5 _) Tryd.func45 rfl rfl Tryd.ntmps45 (res2 Tryd.results45) ?_
 refine C.reenv (env2 := [(0,.iface src.t src.v),(1,.slice (some ⟨b,o,none⟩) (m) (mc))]) rfl ?_
 refine C.sr ?_
 refine E.pure (S.assign rfl) rfl ?_
 refine E.pure (S.assign (v := Er.val ea .none) rfl) rfl ?_
 refine E.kp [(0,_),(1,_),(4,_),(5,_)] rfl ?_
 refine C.sr ?_
 refine E.pure (S.move rfl) rfl ?_
 refine E.pure (S.move rfl) rfl ?_
 refine E.pure (S.move rfl) rfl ?_
 refine E.pure (S.lenSl rfl Tryd.underlying22) rfl ?_
 refine E.loud1 (OpX.pick [0,0,0,0] (F := []) rfl (X.call rfl Tryd.call54 (readAtLeast_spec hs src l x1 x2 x3 b o m mc cs hA hm hmc hml))) rfl ?_; rintro _ _ ⟨_,⟨f1,f2,f3,hF,rfl,rfl⟩,rfl⟩; refine E.relist (L2 := [_,_,_,_]) rfl ?_
 refine E.pure (S.extract rfl rfl) rfl ?_
 refine E.pure (S.extract rfl rfl) rfl ?_
 refine E.pure (S.assign rfl) rfl ?_
 refine E.pure (S.assign rfl) rfl ?_
 refine E.kp [(4,_),(5,_)] rfl ?_
 refine C.ret ?_
 exact ⟨_,_,rfl,rfl,f1,f2,f3,hF,rfl,rfl⟩
end Go.Eng
namespace Go.Eng
open Go

section
variable {P : Program} {K : Known} {n : Nat}

def CellAt (env : Env) (L : Frags) (p m : Nat) (vs : List Value) : Prop := ∃ (b o i : Nat),get? env p = some (.pointer (some ⟨b,o,none⟩)) ∧ L[i]? = some (⟨b,o,vs⟩ : Frag) ∧ vs.length = m

def RetC (p m : Nat) (R : Value → Frags → Prop) : Post := fun env L => ∃ vs,CellAt env L p m vs ∧ R (.agg vs.toArray) L
def RetC1 (p m t : Nat) (R : Value → Frags → Prop) : Post := fun env L => ∃ vs u,CellAt env L p m vs ∧ get? env t = some u ∧ R (.tuple #[.agg vs.toArray,u]) L
theorem run_cell {env : Env} {L : Frags} {p m : Nat} {vs : List Value} {a : Act} {w : World} {ty : TypeId} (h : CellAt env L p m vs) (hf : Fits n env a) (hw : Agree K L w.heap)
    (hag : ∀ w,(isAgg ty).run P w = .ok true w) (hsz : ∀ w,(sizeOf ty).run P w = .ok m w) :
    ∃ ad,(asAddr (a.tmps[p]?.getD undef)).run P w = .ok ad w ∧ (loadVar ty ad).run P w = .ok (.agg vs.toArray) w := by
  obtain ⟨b,o,i,h1,h2,h3⟩ := h
  have e := hf.val p _ h1
  rw [Array.getD_eq_getD_getElem?] at e
  have := run_loadAgg (P := P) (w := w) (b := b) (o := o) hag hsz h3 (fun j v hj => cell_of_ok (hw.at h2) hj)
  refine ⟨⟨b,o,none⟩,by rw [e]; rfl,?_⟩
  simpa [Instr.loadAt,Instr.sureAddr] using this

theorem resC {fn : Func} {R : Value → Frags → Prop} {p ty m : Nat} (hres : fn.results = #[.cell p ty]) (hag : ∀ w,(isAgg ty).run P w = .ok true w) (hsz : ∀ w,(sizeOf ty).run P w = .ok m w) :
    ∀ env' L' a w,RetC p m R env' L' → Fits n env' a → Agree K L' w.heap → ∃ v,(results fn a.tmps).run P w = .ok v w ∧ R v L' := by
  rintro env' L' a w ⟨vs,h1,h2⟩ f hw
  obtain ⟨ad,e1,e2⟩ := run_cell (P := P) h1 f hw hag hsz
  refine ⟨_,?_,h2⟩
  simp only [results,hres]
  simp [Sem.run_bind,e1,e2]

theorem resC1 {fn : Func} {R : Value → Frags → Prop} {p ty m t : Nat} (hres : fn.results = #[.cell p ty,.tmp t]) (hag : ∀ w,(isAgg ty).run P w = .ok true w) (hsz : ∀ w,(sizeOf ty).run P w = .ok m w) :
    ∀ env' L' a w,RetC1 p m t R env' L' → Fits n env' a → Agree K L' w.heap → ∃ v,(results fn a.tmps).run P w = .ok v w ∧ R v L' := by
  rintro env' L' a w ⟨vs,u,h1,ht,h2⟩ f hw
  obtain ⟨ad,e1,e2⟩ := run_cell (P := P) h1 f hw hag hsz
  refine ⟨_,?_,h2⟩
  have ft := f.val t u ht
  rw [Array.getD_eq_getD_getElem?] at ft
  simp only [results,hres]
  simp [Sem.run_bind,e1,e2,ft]

/-! ### A run in many parts -/

def chunksOk : Nat → List (Nat × List Value) → Prop
  | _,[] => False
  | o,[p] => p.1 = o
  | o,p::q::r => p.1 = o ∧ chunksOk (o + p.2.length) (q::r)

theorem Same.chunks (b : Nat) (F : Frags) : ∀ (l : List (Nat × List Value)) (o : Nat),chunksOk o l → Same (⟨b,o,(l.map (·.2)).flatten⟩::F) (l.map (fun p => (⟨b,p.1,p.2⟩ : Frag)) ++ F)
  | [],_,h => h.elim
  | [p],o,h => by
    have h' : p.1 = o := h
    subst h'
    simp only [List.map_cons,List.map_nil,List.flatten_cons,List.flatten_nil,List.append_nil]
    exact Same.refl _
  | p::q::r,o,h => by
    obtain ⟨o',cs⟩ := p
    have h1 : o' = o := h.1
    subst h1
    have ih := Same.chunks b F (q::r) (o' + cs.length) h.2
    have s1 := Same.split b o' cs (((q::r).map (·.2)).flatten) F
    have s2 : Same ([⟨b,o',cs⟩] ++ (⟨b,o' + cs.length,((q::r).map (·.2)).flatten⟩::F)) ([⟨b,o',cs⟩] ++ ((q::r).map (fun p => (⟨b,p.1,p.2⟩ : Frag)) ++ F)) := Same.appendL _ ih
    exact s1.trans s2

/-! ### Structs of values -/

def evParts (env : Env) : List (Nat × Operand) → Option (List (Nat × Value))
  | [] => some []
  | p::r => match ev? env p.2,evParts env r with
    | some v,some l => some ((p.1,v)::l)
    | _,_ => none

theorem evParts_eval {env : Env} {a : Act} (hf : Fits n env a) : ∀ {l : List (Nat × Operand)} {ps : List (Nat × Value)},evParts env l = some ps → l.map (fun p => (p.1,a.eval p.2)) = ps
  | [],_,h => by simp only [evParts,Option.some.injEq] at h; exact h
  | p::r,ps,h => by
    simp only [evParts] at h
    split at h
    · rename_i v l hv hl
      simp only [Option.some.injEq] at h
      subst h
      rw [List.map_cons,hf.eval hv,evParts_eval hf hl]
    · cases h

/-- T{..} of values ps. -/
theorem S.buildV {env : Env} {ty t : Nat} {l : List (Nat × Operand)} {v : Value} (ps : List (Nat × Value)) (hps : evParts env l = some ps)
    (hrun : ∀ w,(Instr.build t ps.toArray).run P w = .ok v w) : OpP P n (.build t l.toArray) ty env v := by
  intro ac w hf
  have e := evParts_eval hf hps
  have e2 : (Array.map (fun (x : Nat × Operand) => match x with | (i,x) => (i,ac.eval x)) l.toArray) = ps.toArray := by
    rw [← e]; simp
  simp only [exop,execOp,e2]
  simp [hrun]

/-- []T{..} of values ps. -/
theorem X.buildSliceV {env : Env} {L : Frags} {ty t e m : Nat} {l : List (Nat × Operand)} {vs : List Value} (ps : List (Nat × Value)) (hps : evParts env l = some ps)
    (hrun : ∀ w,(Instr.buildSlice t m ps.toArray).run P w = .ok (.slice (some ⟨w.heap.size,0,none⟩) m m) (w.alloc (.cells vs.toArray e))) :
    OpX P K n (.buildSlice t m l.toArray) ty env L fun v L' => ∃ b,v = .slice (some ⟨b,0,none⟩) m m ∧ L' = ⟨b,0,vs⟩::L := by
  intro ac w hf hw
  have e1 := evParts_eval hf hps
  have e2 : (Array.map (fun (x : Nat × Operand) => match x with | (i,x) => (i,ac.eval x)) l.toArray) = ps.toArray := by
    rw [← e1]; simp
  have hr : (exop ac.eval (.buildSlice t m l.toArray) ty).run P w = .ok (.value (.slice (some ⟨w.heap.size,0,none⟩) m m)) (w.alloc (.cells vs.toArray e)) := by
    simp only [exop,execOp,e2]
    simp [hrun]
  rw [hr]
  exact ⟨_,⟨_,rfl,rfl⟩,To.new hw _ _⟩

theorem fill_one {place : Nat → Option (Nat × Nat)} {cells : Array Value} {i off : Nat} {v : Value} {rest : List (Nat × Value)} (h1 : place i = some (off,1)) (hv : one v = true) (ho : off < cells.size) :
    Instr.fill place cells ((i,v)::rest) = Instr.fill place (cells.setIfInBounds off v) rest := by
  rw [Instr.fill,h1]
  simp only [one_cells hv]
  rw [if_neg (by simp; omega)]
  simp

theorem fill_nil {place : Nat → Option (Nat × Nat)} {cells : Array Value} : Instr.fill place cells [] = some cells := rfl

/-! ### u16,u64 numbers from others -/

end
end Go.Eng
namespace Go.Eng
open Go Go.Proofs
set_option maxRecDepth 100000

theorem simplePopulateTable_spec {K : Known} (b o poly : Nat) (hp : poly < 4294967296) (cs : List Value) (hcs : 256 ≤ cs.length) : Fn Tryd.prog K 64 #[.int .u32 ((poly : Nat) : Int),.pointer (some ⟨b,o,none⟩)] ([⟨b,o,cs⟩]) (fun v L => v = .tuple #[] ∧ L = [⟨b,o,fillT poly 256 cs⟩]) := by
 refine Fn.intro (args := [.int .u32 ((poly : Nat) : Int),.pointer (some ⟨b,o,none⟩)]) (RR := Ret0 _) Tryd.func64 rfl rfl Tryd.ntmps64 (res0 Tryd.results64) ?_
 refine C.reenv (env2 := [(0,.int .u32 ((poly : Nat) : Int)),(1,.pointer (some ⟨b,o,none⟩))]) rfl ?_
 refine C.sr ?_
 refine E.pure (S.assign rfl) rfl ?_
 refine E.kp [(0,_),(1,_),(4,_)] rfl ?_
 refine C.block ?_
 refine C.loop (fun mm ee ll => ∃ (i : Nat),keeps ee [0,1,4] = some [(0,.int .u32 ((poly : Nat) : Int)),(1,.pointer (some ⟨b,o,none⟩)),(4,.int .i64 ((i : Nat) : Int))] ∧ ll = [⟨b,o,fillT poly i cs⟩] ∧ (i ≤ 256) ∧ mm = 256 - i) (_) ⟨0,rfl,rfl,by omega,rfl⟩ ?_
 rintro m0 _ _ ⟨i,hk0,rfl,hi,hm0⟩
 refine C.weaken _ hk0 ?_
 refine C.seq ?_
 refine C.sr ?_
 refine E.pure (S.move rfl) rfl ?_
 refine E.pure (S.lt (b := ((256 : Nat) : Int)) rfl rfl) rfl ?_
 refine E.kp [(0,_),(1,_),(4,_),(8,_)] rfl ?_
 refine C.ifp rfl (fun h8 => ?_) (fun h8 => ?_)
 ·
  refine C.skip ?_
  refine C.seq ?_
  refine C.block ?_
  refine C.sr ?_
  refine E.pure (S.move rfl) rfl ?_
  refine E.pure (S.conv rfl Tryd.underlying3 Tryd.underlying52 (N.in_u32 (by omega))) rfl ?_
  refine E.pure (S.assign rfl) rfl ?_
  refine E.kp [(0,_),(1,_),(4,_),(5,_),(8,_)] rfl ?_
  refine C.seq ?_
  refine C.sr ?_
  refine E.pure (S.assign rfl) rfl ?_
  refine E.kp [(0,_),(1,_),(4,_),(5,_),(6,_),(8,_)] rfl ?_
  refine C.block ?_
  refine C.loop (fun mm ee ll => ∃ (j : Nat),∃ (c : Nat),keeps ee [0,1,4,5,6] = some [(0,.int .u32 ((poly : Nat) : Int)),(1,.pointer (some ⟨b,o,none⟩)),(4,.int .i64 ((i : Nat) : Int)),(5,.int .u32 ((c : Nat) : Int)),(6,.int .i64 ((j : Nat) : Int))] ∧ ll = [⟨b,o,fillT poly i cs⟩] ∧ (j ≤ 8) ∧ (c = divN poly j i) ∧ (c < 4294967296) ∧ mm = 8 - j) (_) ⟨0,i,rfl,rfl,by omega,rfl,by omega,rfl⟩ ?_
  rintro m1 _ _ ⟨j,c,hk1,rfl,hj,hc,hb,hm1⟩
  refine C.weaken _ hk1 ?_
  refine C.seq ?_
  refine C.sr ?_
  refine E.pure (S.move rfl) rfl ?_
  refine E.pure (S.lt (b := ((8 : Nat) : Int)) rfl rfl) rfl ?_
  refine E.kp [(0,_),(1,_),(4,_),(5,_),(6,_),(14,_)] rfl ?_
  refine C.ifp rfl (fun h14 => ?_) (fun h14 => ?_)
  ·
   refine C.skip ?_
   refine C.seq ?_
   refine C.block ?_
   refine C.sr ?_
   refine E.pure (S.move rfl) rfl ?_
   refine E.pure (S.and (b := ((1 : Nat) : Int)) rfl rfl (N.and_u32 (by omega) (by omega))) rfl ?_
   refine E.pure (S.eq (b := ((1 : Nat) : Int)) rfl rfl) rfl ?_
   refine E.kp [(0,_),(1,_),(4,_),(5,_),(6,_),(14,_),(19,_)] rfl ?_
   refine C.ifp rfl (fun h19 => ?_) (fun h19 => ?_)
   ·
    have q1 := divN_odd hc h19
    have q2 : c >>> 1 ^^^ poly < 4294967296 := xor32 (by omega) hp
    refine C.region ?_
    refine E.pure (S.move rfl) rfl ?_
    refine E.pure (S.shr (b := ((1 : Nat) : Int)) rfl rfl (by omega) (N.shr_u32 (by omega) _)) rfl ?_
    refine E.pure (S.move rfl) rfl ?_
    refine E.pure (S.xor rfl rfl (N.xor_u32 (by omega) (by omega))) rfl ?_
    refine E.pure (S.assign rfl) rfl ?_
    refine E.kp [(0,_),(1,_),(4,_),(5,_),(6,_),(14,_),(19,_)] rfl ?_
    refine C.region ?_
    refine E.pure (S.move rfl) rfl ?_
    refine E.pure (S.add (b := ((1 : Nat) : Int)) rfl rfl (N.add64 (by omega))) rfl ?_
    refine E.pure (S.assign rfl) rfl ?_
    refine E.kp [(0,_),(1,_),(4,_),(5,_),(6,_),(14,_),(19,_)] rfl ?_
    refine ⟨_,?_,j + 1,_,rfl,rfl,by omega,by assumption,by assumption,rfl⟩; omega
   have q1 := divN_even hc h19
   have q2 : c >>> 1 < 4294967296 := by omega
   refine C.region ?_
   refine E.pure (S.move rfl) rfl ?_
   refine E.pure (S.shr (b := ((1 : Nat) : Int)) rfl rfl (by omega) (N.shr_u32 (by omega) _)) rfl ?_
   refine E.pure (S.assign rfl) rfl ?_
   refine E.kp [(0,_),(1,_),(4,_),(5,_),(6,_),(14,_),(19,_)] rfl ?_
   refine C.region ?_
   refine E.pure (S.move rfl) rfl ?_
   refine E.pure (S.add (b := ((1 : Nat) : Int)) rfl rfl (N.add64 (by omega))) rfl ?_
   refine E.pure (S.assign rfl) rfl ?_
   refine E.kp [(0,_),(1,_),(4,_),(5,_),(6,_),(14,_),(19,_)] rfl ?_
   refine ⟨_,?_,j + 1,_,rfl,rfl,by omega,by assumption,by assumption,rfl⟩; omega
  have hj8 : j = 8 := by omega
  subst hj8
  subst hc
  have hlt : Nat.blt i (fillT poly i cs).length = true := by rw [fillT_length,Nat.blt_eq]; omega
  refine C.exit rfl ?_
  refine C.region ?_
  refine E.pure (S.move rfl) rfl ?_
  refine E.pure (S.move rfl) rfl ?_
  refine E.pure (S.move rfl) rfl ?_
  refine E.pure (S.nilPtr rfl) rfl ?_
  refine E.pure (S.ixArr (i := i) (s := 1) (m := 256) rfl rfl (by omega) Tryd.underlying131 Tryd.sizeOf52) rfl ?_
  refine E.loud0 (X.store 0 (k := i * 1) rfl rfl rfl rfl (by rw [Nat.mul_one]; exact hlt) Tryd.sizeOf52) ?_; rintro _ _ ⟨rfl,rfl⟩; refine E.relist (L2 := [_]) rfl ?_
  refine E.kp [(0,_),(1,_),(4,_),(5,_),(6,_),(14,_)] rfl ?_
  refine C.region ?_
  refine E.pure (S.move rfl) rfl ?_
  refine E.pure (S.add (b := ((1 : Nat) : Int)) rfl rfl (N.add64 (by omega))) rfl ?_
  refine E.pure (S.assign rfl) rfl ?_
  refine E.kp [(0,_),(1,_),(4,_),(5,_),(6,_),(14,_)] rfl ?_
  refine ⟨_,?_,i + 1,rfl,(by rw [fillT,Nat.mul_one]),by omega,rfl⟩; omega
 have hi8 : i = 256 := by omega
 subst hi8
 refine C.exit rfl ?_
 exact ⟨rfl,rfl⟩
theorem simpleUpdate_spec {K : Known} (crc poly tb pb po cap : Nat) (l : List UInt8) (hpoly : poly < 4294967296) (hcrc : crc < 4294967296) (hT : KT K tb poly) (hp : KB K pb po l) (hl : l.length ≤ 9223372036854775807) : Fn Tryd.prog K 63 #[.int .u32 ((crc : Nat) : Int),.pointer (some ⟨tb,0 + 0 * 256,none⟩),.slice (some ⟨pb,po,none⟩) (l.length) (cap)] ([]) (fun v L => v = u32 (crcOn poly crc l) ∧ L = []) := by
 refine Fn.intro (args := [.int .u32 ((crc : Nat) : Int),.pointer (some ⟨tb,0 + 0 * 256,none⟩),.slice (some ⟨pb,po,none⟩) (l.length) (cap)]) (RR := Ret1 6 _) Tryd.func63 rfl rfl Tryd.ntmps63 (res1 Tryd.results63) ?_
 refine C.reenv (env2 := [(0,.int .u32 ((crc : Nat) : Int)),(1,.pointer (some ⟨tb,0 + 0 * 256,none⟩)),(2,.slice (some ⟨pb,po,none⟩) (l.length) (cap))]) rfl ?_
 refine C.sr ?_
 refine E.pure (S.assign rfl) rfl ?_
 refine E.kp [(0,_),(1,_),(2,_),(6,_)] rfl ?_
 refine C.sr ?_
 refine E.pure (S.move rfl) rfl ?_
 refine E.pure (S.not32 rfl (by omega)) rfl ?_
 refine E.pure (S.assign rfl) rfl ?_
 refine E.kp [(0,_),(1,_),(2,_),(6,_)] rfl ?_
 refine C.seq ?_
 refine C.sr ?_
 refine E.pure (S.move rfl) rfl ?_
 refine E.pure (S.lenSl rfl Tryd.underlying22) rfl ?_
 refine E.pure (S.move rfl) rfl ?_
 refine E.kp [(0,_),(1,_),(6,_),(11,_),(12,_),(13,_)] rfl ?_
 refine C.block ?_
 refine C.loop (fun mm ee ll => ∃ (i : Nat),∃ (c : Nat),keeps ee [0,1,11,12,13] = some [(0,.int .u32 ((c : Nat) : Int)),(1,.pointer (some ⟨tb,0 + 0 * 256,none⟩)),(11,.slice (some ⟨pb,po,none⟩) (l.length) (cap)),(12,.int .i64 ((l.length : Nat) : Int)),(13,.int .i64 ((i : Nat) : Int))] ∧ ll = [] ∧ (i ≤ l.length) ∧ (c = (nats (l.take i)).foldl (step poly) (not32 crc)) ∧ (c < 4294967296) ∧ mm = l.length - i) (_) ⟨0,_,rfl,rfl,by omega,rfl,not32_lt hcrc,rfl⟩ ?_
 rintro m0 _ _ ⟨i,c,hk0,rfl,hi,hc,hb,hm0⟩
 refine C.weaken _ hk0 ?_
 refine C.sr ?_
 refine E.pure (S.lt rfl rfl) rfl ?_
 refine E.kp [(0,_),(1,_),(11,_),(12,_),(13,_),(14,_)] rfl ?_
 refine C.seq ?_
 refine C.ifp rfl (fun h14 => ?_) (fun h14 => ?_)
 ·
  have hi2 : i < l.length := by omega
  have hv := l[i].toNat_lt
  have hx := xor8 (Nat.mod_lt c (by decide : 256 > 0)) hv
  have hx2 := TT_lt (poly := poly) (j := 0) hpoly hx
  have hc2 := (fold_take (poly := poly) (c0 := not32 crc) hi2).trans (by rw [← hc])
  have hst := step_table poly (c := c) hv
  refine C.skip ?_
  refine C.seq ?_
  refine C.block ?_
  refine C.sr ?_
  refine E.pure (S.ixSl rfl rfl (by omega) Tryd.underlying22 Tryd.sizeOf5) rfl ?_
  refine E.still (S.loadBase rfl (hp.at hi2) Tryd.isAgg5) rfl ?_
  refine E.pure (S.assign rfl) rfl ?_
  refine E.kp [(0,_),(1,_),(8,_),(11,_),(12,_),(13,_),(14,_)] rfl ?_
  refine C.region ?_
  refine E.pure (S.move rfl) rfl ?_
  refine E.pure (S.move rfl) rfl ?_
  first | refine E.pure (S.conv rfl Tryd.underlying52 Tryd.underlying5 (N.in_u8 (by omega))) rfl ?_ | refine E.pure (S.conv rfl Tryd.underlying52 Tryd.underlying5 (N.mod_u8 _)) rfl ?_
  refine E.pure (S.move rfl) rfl ?_
  refine E.pure (S.xor rfl rfl (N.xor_u8 (by omega) (by omega))) rfl ?_
  refine E.pure (S.nilPtr rfl) rfl ?_
  refine E.pure (S.ixArr rfl rfl (by omega) Tryd.underlying131 Tryd.sizeOf52) rfl ?_
  refine E.still (S.loadBase rfl (hT.at (by decide) hx) Tryd.isAgg52) rfl ?_
  refine E.pure (S.move rfl) rfl ?_
  refine E.pure (S.shr (b := ((8 : Nat) : Int)) rfl rfl (by omega) (N.shr_u32 (by omega) _)) rfl ?_
  refine E.pure (S.xor rfl rfl (N.xor_u32 (by omega) (by omega))) rfl ?_
  refine E.reslot (v := u32 (step poly c l[i].toNat)) (congrArg u32 hst) ?_
  refine E.pure (S.assign rfl) rfl ?_
  refine E.kp [(0,_),(1,_),(8,_),(11,_),(12,_),(13,_),(14,_)] rfl ?_
  refine C.region ?_
  refine E.pure (S.add (b := ((1 : Nat) : Int)) rfl rfl (N.add64 (by omega))) rfl ?_
  refine E.pure (S.move rfl) rfl ?_
  refine E.kp [(0,_),(1,_),(8,_),(11,_),(12,_),(13,_),(14,_)] rfl ?_
  refine ⟨_,?_,i + 1,_,rfl,rfl,by omega,hc2.symm,step_lt hpoly hb l[i].toNat_lt,rfl⟩; omega
 have hi2 : i = l.length := by omega
 subst hi2
 rw [fold_take_all] at hc
 refine C.exit rfl ?_
 refine C.sr ?_
 refine E.pure (S.move rfl) rfl ?_
 refine E.pure (S.not32 rfl (by omega)) rfl ?_
 refine E.pure (S.assign rfl) rfl ?_
 refine E.kp [(0,_),(1,_),(6,_),(11,_),(12,_),(13,_),(14,_)] rfl ?_
 refine C.ret ?_
 exact ⟨_,rfl,by rw [hc]; rfl,rfl⟩
theorem zc135 : (Value.agg Tryd.zeroCells135).cells.toList.length = 2048 := by kernel_rfl

theorem slicingMakeTable_spec {K : Known} (poly : Nat) (hpoly : poly < 4294967296) : Fn Tryd.prog K 53 #[.int .u32 ((poly : Nat) : Int)] ([]) (fun v L => ∃ b cs,v = .pointer (some ⟨b,0,none⟩) ∧ L = [⟨b,0,cs⟩] ∧ TabAt poly cs 256 1) := by
 refine Fn.intro (args := [.int .u32 ((poly : Nat) : Int)]) (RR := Ret1 2 _) Tryd.func53 rfl rfl Tryd.ntmps53 (res1 Tryd.results53) ?_
 refine C.reenv (env2 := [(0,.int .u32 ((poly : Nat) : Int))]) rfl ?_
 refine C.sr ?_
 refine E.pure (S.assign rfl) rfl ?_
 refine E.kp [(0,_),(2,_)] rfl ?_
 refine C.sr ?_
 refine E.loud1 (X.alloc Tryd.zeroValue135) rfl ?_; rintro _ _ ⟨b7,rfl,rfl⟩; refine E.relist (L2 := [_]) rfl ?_
 have hz := zc135
 generalize (Value.agg Tryd.zeroCells135).cells.toList = cs0 at hz ⊢
 refine E.pure (S.assign rfl) rfl ?_
 refine E.kp [(0,_),(2,_),(3,_)] rfl ?_
 refine C.sr ?_
 refine E.pure (S.move rfl) rfl ?_
 refine E.pure (S.move rfl) rfl ?_
 refine E.pure (S.nilPtr rfl) rfl ?_
 refine E.pure (S.ixArr (i := 0) rfl rfl (by omega) Tryd.underlying135 Tryd.sizeOf131) rfl ?_
 refine E.loud1 (OpX.pick [0] (F := []) rfl (X.call rfl Tryd.call64 (simplePopulateTable_spec b7 0 poly hpoly cs0 (by omega)))) rfl ?_; rintro _ _ ⟨_,⟨rfl,rfl⟩,rfl⟩; refine E.relist (L2 := [_]) rfl ?_
 refine E.kp [(2,_),(3,_)] rfl ?_
 refine C.seq ?_
 refine C.sr ?_
 refine E.pure (S.assign rfl) rfl ?_
 refine E.kp [(2,_),(3,_),(4,_)] rfl ?_
 refine C.block ?_
 refine C.loop (fun mm ee ll => ∃ (i : Nat),∃ (cs : List Value),keeps ee [3,4] = some [(3,.pointer (some ⟨b7,0,none⟩)),(4,.int .i64 ((i : Nat) : Int))] ∧ ll = [⟨b7,0,cs⟩] ∧ (i ≤ 256) ∧ (TabAt poly cs i 1) ∧ mm = 256 - i) (_) ⟨0,_,rfl,rfl,by omega,TabAt.init hz,rfl⟩ ?_
 rintro m0 _ _ ⟨i,cs,hk0,rfl,hi,hT,hm0⟩
 refine C.weaken _ hk0 ?_
 refine C.seq ?_
 refine C.sr ?_
 refine E.pure (S.move rfl) rfl ?_
 refine E.pure (S.lt (b := ((256 : Nat) : Int)) rfl rfl) rfl ?_
 refine E.kp [(3,_),(4,_),(14,_)] rfl ?_
 refine C.ifp rfl (fun h14 => ?_) (fun h14 => ?_)
 ·
  have hi2 : i < 256 := by omega
  refine C.skip ?_
  refine C.seq ?_
  refine C.block ?_
  refine C.sr ?_
  refine E.pure (S.move rfl) rfl ?_
  refine E.pure (S.move rfl) rfl ?_
  refine E.pure (S.nilPtr rfl) rfl ?_
  refine E.pure (S.ixArr (i := 0) rfl rfl (by omega) Tryd.underlying135 Tryd.sizeOf131) rfl ?_
  refine E.pure (S.ixArr rfl rfl (by omega) Tryd.underlying131 Tryd.sizeOf52) rfl ?_
  refine E.reslot (v := .pointer (some ⟨b7,0 + i,none⟩)) (by simp) ?_
  refine E.still (S.load 0 rfl rfl (hT.first i hi2) Tryd.isAgg52) rfl ?_
  refine E.pure (S.assign rfl) rfl ?_
  refine E.kp [(3,_),(4,_),(5,_),(14,_)] rfl ?_
  refine C.sr ?_
  refine E.pure (S.assign rfl) rfl ?_
  refine E.kp [(3,_),(4,_),(5,_),(6,_),(14,_)] rfl ?_
  refine C.block ?_
  refine C.loop (fun mm ee ll => ∃ (j : Nat),∃ (c : Nat),∃ (cs2 : List Value),keeps ee [3,4,5,6] = some [(3,.pointer (some ⟨b7,0,none⟩)),(4,.int .i64 ((i : Nat) : Int)),(5,.int .u32 ((c : Nat) : Int)),(6,.int .i64 ((j : Nat) : Int))] ∧ ll = [⟨b7,0,cs2⟩] ∧ (1 ≤ j ∧ j ≤ 8) ∧ (TabAt poly cs2 i j) ∧ (c = TT poly (j - 1) i) ∧ mm = 8 - j) (_) ⟨1,TT poly 0 i,cs,rfl,rfl,by omega,hT,rfl,rfl⟩ ?_
  rintro m1 _ _ ⟨j,c,cs2,hk1,rfl,hj,hT2,hc,hm1⟩
  refine C.weaken _ hk1 ?_
  refine C.seq ?_
  refine C.sr ?_
  refine E.pure (S.move rfl) rfl ?_
  refine E.pure (S.lt (b := ((8 : Nat) : Int)) rfl rfl) rfl ?_
  refine E.kp [(3,_),(4,_),(5,_),(6,_),(24,_)] rfl ?_
  refine C.ifp rfl (fun h24 => ?_) (fun h24 => ?_)
  ·
   have hcl : c < 4294967296 := by rw [hc]; exact TT_lt hpoly hi2
   have hxl := TT_lt (poly := poly) (j := 0) hpoly (and255_lt c)
   have hst : u32 (TT poly 0 (c &&& 255) ^^^ c >>> 8) = u32 (TT poly j i) := by
     rw [hc,TT_succ,show j - 1 + 1 = j by omega]
   have hxi := TT_lt (poly := poly) (j := j) hpoly hi2
   refine C.skip ?_
   refine C.seq ?_
   refine C.block ?_
   refine C.sr ?_
   refine E.pure (S.move rfl) rfl ?_
   refine E.pure (S.move rfl) rfl ?_
   refine E.pure (S.and (b := ((255 : Nat) : Int)) rfl rfl (N.and_u32 (by omega) (by omega))) rfl ?_
   refine E.pure (S.nilPtr rfl) rfl ?_
   refine E.pure (S.ixArr (i := 0) rfl rfl (by omega) Tryd.underlying135 Tryd.sizeOf131) rfl ?_
   refine E.pure (S.ixArr rfl rfl (and255_lt c) Tryd.underlying131 Tryd.sizeOf52) rfl ?_
   refine E.reslot (v := .pointer (some ⟨b7,0 + (c &&& 255),none⟩)) (by simp) ?_
   refine E.still (S.load 0 rfl rfl (hT2.first _ (and255_lt c)) Tryd.isAgg52) rfl ?_
   refine E.pure (S.move rfl) rfl ?_
   refine E.pure (S.shr (b := ((8 : Nat) : Int)) rfl rfl (by omega) (N.shr_u32 (by omega) _)) rfl ?_
   refine E.pure (S.xor rfl rfl (N.xor_u32 (by omega) (by omega))) rfl ?_
   refine E.reslot (v := u32 (TT poly j i)) hst ?_
   refine E.pure (S.assign rfl) rfl ?_
   refine E.kp [(3,_),(4,_),(5,_),(6,_),(24,_)] rfl ?_
   refine C.region ?_
   refine E.pure (S.move rfl) rfl ?_
   refine E.pure (S.move rfl) rfl ?_
   refine E.pure (S.move rfl) rfl ?_
   refine E.pure (S.move rfl) rfl ?_
   refine E.pure (S.nilPtr rfl) rfl ?_
   refine E.pure (S.ixArr rfl rfl (by omega) Tryd.underlying135 Tryd.sizeOf131) rfl ?_
   refine E.pure (S.ixArr rfl rfl (by omega) Tryd.underlying131 Tryd.sizeOf52) rfl ?_
   refine E.reslot (v := .pointer (some ⟨b7,0 + (j * 256 + i),none⟩)) (by simp [Nat.add_assoc]) ?_
   refine E.loud0 (X.store 0 (k := j * 256 + i) rfl rfl rfl rfl (by rw [hT2.len,Nat.blt_eq]; omega) Tryd.sizeOf52) ?_; rintro _ _ ⟨rfl,rfl⟩; refine E.relist (L2 := [_]) rfl ?_
   refine E.kp [(3,_),(4,_),(5,_),(6,_),(24,_)] rfl ?_
   refine C.region ?_
   refine E.pure (S.move rfl) rfl ?_
   refine E.pure (S.add (b := ((1 : Nat) : Int)) rfl rfl (N.add64 (by omega))) rfl ?_
   refine E.pure (S.assign rfl) rfl ?_
   refine E.kp [(3,_),(4,_),(5,_),(6,_),(24,_)] rfl ?_
   refine ⟨_,?_,j + 1,TT poly j i,_,rfl,rfl,by omega,hT2.set (by omega) (by omega) hi2,rfl,rfl⟩; omega
  have hj8 : j = 8 := by omega
  subst hj8
  refine C.exit rfl ?_
  refine C.region ?_
  refine E.pure (S.move rfl) rfl ?_
  refine E.pure (S.add (b := ((1 : Nat) : Int)) rfl rfl (N.add64 (by omega))) rfl ?_
  refine E.pure (S.assign rfl) rfl ?_
  refine E.kp [(3,_),(4,_),(5,_),(6,_),(24,_)] rfl ?_
  refine ⟨_,?_,i + 1,_,rfl,rfl,by omega,hT2.next hi2,rfl⟩; omega
 have hi2 : i = 256 := by omega
 subst hi2
 refine C.exit rfl ?_
 refine C.sr ?_
 refine E.pure (S.move rfl) rfl ?_
 refine E.pure (S.assign rfl) rfl ?_
 refine E.kp [(2,_),(3,_),(4,_),(14,_)] rfl ?_
 refine C.ret ?_
 exact ⟨_,rfl,_,_,rfl,rfl,hT⟩
theorem crcLe32_spec {K : Known} (pb po n cap : Nat) (v0 v1 v2 v3 : UInt8) (l : List UInt8) (hn : 4 ≤ n) (hp : KB K pb po (v0::v1::v2::v3::l)) : Fn Tryd.prog K 62 #[.slice (some ⟨pb,po,none⟩) (n) (cap)] ([]) (fun v L => v = u32 (le32 v0.toNat v1.toNat v2.toNat v3.toNat) ∧ L = []) := by
 refine Fn.intro (args := [.slice (some ⟨pb,po,none⟩) (n) (cap)]) (RR := Ret1 2 _) Tryd.func62 rfl rfl Tryd.ntmps62 (res1 Tryd.results62) ?_
 refine C.reenv (env2 := [(0,.slice (some ⟨pb,po,none⟩) (n) (cap))]) rfl ?_
 refine C.sr ?_
 have g0 : cellAt K pb (po + 0 * 1) = some (u8 v0) := hp.at (j := 0) (by simp only [List.length_cons]; omega)
 have g1 : cellAt K pb (po + 1 * 1) = some (u8 v1) := hp.at (j := 1) (by simp only [List.length_cons]; omega)
 have g2 : cellAt K pb (po + 2 * 1) = some (u8 v2) := hp.at (j := 2) (by simp only [List.length_cons]; omega)
 have g3 : cellAt K pb (po + 3 * 1) = some (u8 v3) := hp.at (j := 3) (by simp only [List.length_cons]; omega)
 have e0 := v0.toNat_lt
 have e1 := v1.toNat_lt
 have e2 := v2.toNat_lt
 have e3 := v3.toNat_lt
 have f1 := or_lt (a := v0.toNat) (b := v1.toNat <<< 8 % 4294967296) (k := 32) (by omega) (by omega)
 have f2 := or_lt (b := v2.toNat <<< 16 % 4294967296) (k := 32) f1 (by omega)
 rw [show (2 : Nat) ^ 32 = 4294967296 from rfl] at f1 f2
 refine E.pure (S.assign rfl) rfl ?_
 refine E.kp [(0,_),(2,_)] rfl ?_
 refine C.sr ?_
 refine E.pure (S.move rfl) rfl ?_
 refine E.pure (S.ixSl (i := 3) rfl rfl (by omega) Tryd.underlying22 Tryd.sizeOf5) rfl ?_
 refine E.still (S.loadBase rfl (by assumption) Tryd.isAgg5) rfl ?_
 refine E.kp [(0,_),(2,_)] rfl ?_
 refine C.seq ?_
 refine C.draw [0,1,2,4,0,16,32,64,128,264,0,1024,2048,4096,8192,16896,0,65536,131072,262144,524288,1081344,4194303] (.pure 0 2063856 (.pure 1 2063857 (.pure 4 2063375 (.pure 5 2063391 (.pure 10 2032639 (.pure 11 2033663 (.pure 16 65535 (.pure 17 131071 (.seg [(2,2063859),(3,2063863),(6,2063423),(7,2063487),(8,2063615),(9,2063871),(12,2035711),(13,2039807),(14,2047999),(15,2064383),(18,262143),(19,524287),(20,1048575),(21,2097151),(22,4194303)] .done))))))))) mixed (by decide +kernel) ?_
 refine D.pure rfl (S.move rfl) rfl ?_
 refine D.pure rfl (S.ixSl (i := 0) rfl rfl (by omega) Tryd.underlying22 Tryd.sizeOf5) rfl ?_
 refine D.pure rfl (S.move rfl) rfl ?_
 refine D.pure rfl (S.ixSl (i := 1) rfl rfl (by omega) Tryd.underlying22 Tryd.sizeOf5) rfl ?_
 refine D.pure rfl (S.move rfl) rfl ?_
 refine D.pure rfl (S.ixSl (i := 2) rfl rfl (by omega) Tryd.underlying22 Tryd.sizeOf5) rfl ?_
 refine D.pure rfl (S.move rfl) rfl ?_
 refine D.pure rfl (S.ixSl (i := 3) rfl rfl (by omega) Tryd.underlying22 Tryd.sizeOf5) rfl ?_
 refine D.seg (by decide) ?_
 refine W.still rfl (S.loadBase rfl (by assumption) Tryd.isAgg5) rfl ?_
 refine W.pure rfl (S.conv rfl Tryd.underlying5 Tryd.underlying52 (N.in_u32 (by omega))) rfl ?_
 refine W.still rfl (S.loadBase rfl (by assumption) Tryd.isAgg5) rfl ?_
 refine W.pure rfl (S.conv rfl Tryd.underlying5 Tryd.underlying52 (N.in_u32 (by omega))) rfl ?_
 refine W.pure rfl (S.shl (b := ((8 : Nat) : Int)) rfl rfl (by omega) (N.shl_u32 _ _)) rfl ?_
 refine W.pure rfl (S.or rfl rfl (N.or_u32 (by omega) (by omega))) rfl ?_
 refine W.still rfl (S.loadBase rfl (by assumption) Tryd.isAgg5) rfl ?_
 refine W.pure rfl (S.conv rfl Tryd.underlying5 Tryd.underlying52 (N.in_u32 (by omega))) rfl ?_
 refine W.pure rfl (S.shl (b := ((16 : Nat) : Int)) rfl rfl (by omega) (N.shl_u32 _ _)) rfl ?_
 refine W.pure rfl (S.or rfl rfl (N.or_u32 (by omega) (by omega))) rfl ?_
 refine W.still rfl (S.loadBase rfl (by assumption) Tryd.isAgg5) rfl ?_
 refine W.pure rfl (S.conv rfl Tryd.underlying5 Tryd.underlying52 (N.in_u32 (by omega))) rfl ?_
 refine W.pure rfl (S.shl (b := ((24 : Nat) : Int)) rfl rfl (by omega) (N.shl_u32 _ _)) rfl ?_
 refine W.pure rfl (S.or rfl rfl (N.or_u32 (by omega) (by omega))) rfl ?_
 refine W.pure rfl (S.assign rfl) rfl ?_
 refine W.nil ?_
 refine D.kp [(0,_),(2,_)] rfl ?_
 refine C.ret ?_
 exact ⟨_,rfl,rfl,rfl⟩
theorem slicingUpdate_spec {K : Known} (crc poly tb pb po cap : Nat) (l : List UInt8) (hpoly : poly < 4294967296) (hcrc : crc < 4294967296) (hT : KT K tb poly) (hp : KB K pb po l) (hl : l.length ≤ 9223372036854775807) (hcap : l.length ≤ cap) : Fn Tryd.prog K 52 #[.int .u32 ((crc : Nat) : Int),.pointer (some ⟨tb,0,none⟩),.slice (some ⟨pb,po,none⟩) (l.length) (cap)] ([]) (fun v L => v = u32 (crcOn poly crc l) ∧ L = []) := by
 refine Fn.intro (args := [.int .u32 ((crc : Nat) : Int),.pointer (some ⟨tb,0,none⟩),.slice (some ⟨pb,po,none⟩) (l.length) (cap)]) (RR := Ret1 6 _) Tryd.func52 rfl rfl Tryd.ntmps52 (res1 Tryd.results52) ?_
 refine C.reenv (env2 := [(0,.int .u32 ((crc : Nat) : Int)),(1,.pointer (some ⟨tb,0,none⟩)),(2,.slice (some ⟨pb,po,none⟩) (l.length) (cap))]) rfl ?_
 refine C.sr ?_
 refine E.pure (S.assign rfl) rfl ?_
 refine E.kp [(0,_),(1,_),(2,_),(6,_)] rfl ?_
 refine C.cut (M := fun ee ll => ∃ (k : Nat),∃ (c : Nat),keeps ee [0,1,2] = some [(0,.int .u32 ((c : Nat) : Int)),(1,.pointer (some ⟨tb,0,none⟩)),(2,.slice (some ⟨pb,po + k,none⟩) (l.length - k) (cap - k))] ∧ ll = [] ∧ (k ≤ l.length) ∧ (c < 4294967296) ∧ (crcOn poly c (l.drop k) = crcOn poly crc l)) ?_ ?_
 ·
  refine C.sr ?_
  refine E.pure (S.move rfl) rfl ?_
  refine E.pure (S.lenSl rfl Tryd.underlying22) rfl ?_
  refine E.pure (S.ge (b := ((16 : Nat) : Int)) rfl rfl) rfl ?_
  refine E.kp [(0,_),(1,_),(2,_),(6,_),(9,_)] rfl ?_
  refine C.ifp rfl (fun h9 => ?_) (fun h9 => ?_)
  ·
   refine C.sr ?_
   refine E.pure (S.move rfl) rfl ?_
   refine E.pure (S.not32 rfl (by omega)) rfl ?_
   refine E.pure (S.assign rfl) rfl ?_
   refine E.kp [(0,_),(1,_),(2,_),(6,_),(9,_)] rfl ?_
   refine C.seq ?_
   refine C.block ?_
   refine C.loop (fun mm ee ll => ∃ (k : Nat),∃ (c : Nat),keeps ee [0,1,2] = some [(0,.int .u32 ((c : Nat) : Int)),(1,.pointer (some ⟨tb,0,none⟩)),(2,.slice (some ⟨pb,po + k,none⟩) (l.length - k) (cap - k))] ∧ ll = [] ∧ (k ≤ l.length) ∧ (c < 4294967296) ∧ (not32 ((nats (l.drop k)).foldl (step poly) c) = crcOn poly crc l) ∧ mm = l.length - k) (_) ⟨0,_,rfl,rfl,by omega,not32_lt hcrc,rfl,rfl⟩ ?_
   rintro m0 _ _ ⟨k,c,hk0,rfl,hk,hb,hc,hm0⟩
   refine C.weaken _ hk0 ?_
   refine C.seq ?_
   refine C.sr ?_
   refine E.pure (S.move rfl) rfl ?_
   refine E.pure (S.lenSl rfl Tryd.underlying22) rfl ?_
   refine E.pure (S.gt (b := ((8 : Nat) : Int)) rfl rfl) rfl ?_
   refine E.kp [(0,_),(1,_),(2,_),(14,_)] rfl ?_
   refine C.ifp rfl (fun h14 => ?_) (fun h14 => ?_)
   ·
    have h8 : 8 < l.length - k := by omega
    obtain ⟨v0,v1,v2,v3,v4,v5,v6,v7,r,hd,hd8⟩ := eight h8
    have hB := hp.drop k
    rw [hd] at hB
    have hle := le32_lt v0.toNat_lt v1.toNat_lt v2.toNat_lt v3.toNat_lt
    obtain ⟨zz,hC⟩ : ∃ zz,zz = c ^^^ le32 v0.toNat v1.toNat v2.toNat v3.toNat := ⟨_,rfl⟩
    have hCl : zz < 4294967296 := by rw [hC]; exact xor32 hb hle
    refine C.skip ?_
    refine C.block ?_
    refine C.sr ?_
    refine E.pure (S.move rfl) rfl ?_
    refine E.pure (S.move rfl) rfl ?_
    refine E.loud1 (OpX.pick [] (F := []) rfl (X.call rfl Tryd.call62 (crcLe32_spec pb (po + k) (l.length - k) (cap - k) v0 v1 v2 v3 (v4::v5::v6::v7::r) (by omega) hB))) rfl ?_; rintro _ _ ⟨_,⟨rfl,rfl⟩,rfl⟩; refine E.relist (L2 := []) rfl ?_
    refine E.pure (S.xor rfl rfl (N.xor_u32 (by omega) (by omega))) rfl ?_
    refine E.reslot (v := u32 zz) (congrArg u32 hC.symm) ?_
    refine E.pure (S.assign rfl) rfl ?_
    refine E.kp [(0,_),(1,_),(2,_),(14,_)] rfl ?_
    refine C.seq ?_
    have g0 : cellAt K pb (po + k + 0 * 1) = some (u8 v0) := hB.at (j := 0) (by simp only [List.length_cons]; omega)
    have g1 : cellAt K pb (po + k + 1 * 1) = some (u8 v1) := hB.at (j := 1) (by simp only [List.length_cons]; omega)
    have g2 : cellAt K pb (po + k + 2 * 1) = some (u8 v2) := hB.at (j := 2) (by simp only [List.length_cons]; omega)
    have g3 : cellAt K pb (po + k + 3 * 1) = some (u8 v3) := hB.at (j := 3) (by simp only [List.length_cons]; omega)
    have g4 : cellAt K pb (po + k + 4 * 1) = some (u8 v4) := hB.at (j := 4) (by simp only [List.length_cons]; omega)
    have g5 : cellAt K pb (po + k + 5 * 1) = some (u8 v5) := hB.at (j := 5) (by simp only [List.length_cons]; omega)
    have g6 : cellAt K pb (po + k + 6 * 1) = some (u8 v6) := hB.at (j := 6) (by simp only [List.length_cons]; omega)
    have g7 : cellAt K pb (po + k + 7 * 1) = some (u8 v7) := hB.at (j := 7) (by simp only [List.length_cons]; omega)
    have e0 := v0.toNat_lt
    have e1 := v1.toNat_lt
    have e2 := v2.toNat_lt
    have e3 := v3.toNat_lt
    have e4 := v4.toNat_lt
    have e5 := v5.toNat_lt
    have e6 := v6.toNat_lt
    have e7 := v7.toNat_lt
    have i4 : zz >>> 24 < 256 := by omega
    have i5 := and255_lt (zz >>> 16)
    have i6 := and255_lt (zz >>> 8)
    have i7 := and255_lt zz
    have T0 := hT.at (j := 0) (k := v7.toNat) (by decide) (by omega)
    have b0 := TT_lt (poly := poly) (j := 0) (k := v7.toNat) hpoly (by omega)
    have T1 := hT.at (j := 1) (k := v6.toNat) (by decide) (by omega)
    have b1 := TT_lt (poly := poly) (j := 1) (k := v6.toNat) hpoly (by omega)
    have T2 := hT.at (j := 2) (k := v5.toNat) (by decide) (by omega)
    have b2 := TT_lt (poly := poly) (j := 2) (k := v5.toNat) hpoly (by omega)
    have T3 := hT.at (j := 3) (k := v4.toNat) (by decide) (by omega)
    have b3 := TT_lt (poly := poly) (j := 3) (k := v4.toNat) hpoly (by omega)
    have T4 := hT.at (j := 4) (k := (zz >>> 24)) (by decide) (by omega)
    have b4 := TT_lt (poly := poly) (j := 4) (k := (zz >>> 24)) hpoly (by omega)
    have T5 := hT.at (j := 5) (k := (zz >>> 16 &&& 255)) (by decide) (by omega)
    have b5 := TT_lt (poly := poly) (j := 5) (k := (zz >>> 16 &&& 255)) hpoly (by omega)
    have T6 := hT.at (j := 6) (k := (zz >>> 8 &&& 255)) (by decide) (by omega)
    have b6 := TT_lt (poly := poly) (j := 6) (k := (zz >>> 8 &&& 255)) hpoly (by omega)
    have T7 := hT.at (j := 7) (k := (zz &&& 255)) (by decide) (by omega)
    have b7 := TT_lt (poly := poly) (j := 7) (k := (zz &&& 255)) hpoly (by omega)
    have s1 := xor32 b0 b1
    have s2 := xor32 s1 b2
    have s3 := xor32 s2 b3
    have s4 := xor32 s3 b4
    have s5 := xor32 s4 b5
    have s6 := xor32 s5 b6
    have s7 := xor32 s6 b7
    have hS : TT poly 0 v7.toNat ^^^ TT poly 1 v6.toNat ^^^ TT poly 2 v5.toNat ^^^ TT poly 3 v4.toNat ^^^ TT poly 4 (zz >>> 24) ^^^ TT poly 5 (zz >>> 16 &&& 255) ^^^ TT poly 6 (zz >>> 8 &&& 255) ^^^ TT poly 7 (zz &&& 255) = [v0.toNat,v1.toNat,v2.toNat,v3.toNat,v4.toNat,v5.toNat,v6.toNat,v7.toNat].foldl (step poly) c := by rw [hC]; exact slice8 poly hb e0 e1 e2 e3
    refine C.draw [0,0,2,4,1,16,40,64,0,0,512,1024,256,4096,10240,16384,32896,0,0,262144,524288,131072,2097152,5242880,8388608,16842752,0,0,134217728,268435456,67108864,1073741824,2684354560,4294967296,8623489024,0,0,68719476736,34359738368,274877906944,687194767360,1099511627776,2216203124736,0,0,17592186044416,35184372088832,8796093022208,140737488355328,351843720888320,562949953421312,1130297953353728,0,0,9007199254740992,18014398509481984,4503599627370496,72057594037927936,180143985094819840,288230376151711744,578712552117108736,0,0,4611686018427387904,2305843009213693952,18446744073709551616,46116860184273879040,73786976294838206464,148726874094283259904,590295810358705651711] (.pure 0 293992727459672293134 (.pure 1 293992727459672293169 (.pure 2 293992727459672293171 (.pure 4 293992727459672293135 (.pure 5 293992727459672293151 (.pure 8 293992727459672231679 (.pure 9 293992727459672240639 (.pure 10 293992727459672241151 (.pure 12 293992727459672231935 (.pure 13 293992727459672236031 (.pure 17 293992727459640770559 (.pure 18 293992727459645358079 (.pure 19 293992727459645620223 (.pure 21 293992727459640901631 (.pure 22 293992727459642998783 (.pure 26 293992727443532677119 (.pure 27 293992727445881487359 (.pure 28 293992727446015705087 (.pure 30 293992727443599785983 (.pure 31 293992727444673527807 (.pure 35 293992723319357439999 (.pure 36 293992723972192468991 (.pure 37 293992724040911945727 (.pure 38 293992723353717178367 (.pure 39 293992723628595085311 (.pure 40 293992724178350899199 (.pure 43 293990612016513941503 (.pure 44 293990919879769718783 (.pure 45 293990937471955763199 (.pure 46 293990972656327852031 (.pure 47 293990620812606963711 (.pure 48 293990761550095319039 (.pure 49 293991043025072029695 (.pure 52 292909616164549689343 (.pure 53 293067242151507656703 (.pure 54 293076249350762397695 (.pure 55 293094263749271879679 (.pure 56 292914119764177059839 (.pure 57 292986177358214987775 (.pure 58 293130292546290843647 (.pure 61 16140901064495857663 (.pure 62 59951918239556042751 (.pure 63 64563604257983430655 (.pure 64 18446744073709551615 (.pure 65 36893488147419103231 (.pure 66 73786976294838206463 (.seg [(3,293992727459672293175),(6,293992727459672293183),(7,293992727459672293247),(11,293992727459672242175),(14,293992727459672244223),(15,293992727459672260607),(16,293992727459672293375),(20,293992727459646144511),(23,293992727459647193087),(24,293992727459655581695),(25,293992727459672358911),(29,293992727446284140543),(32,293992727446821011455),(33,293992727451115978751),(34,293992727459705913343),(41,293992725277862526975),(42,293992727476885782527),(50,293991605975025451007),(51,293992731874932293631),(59,293418522922442555391),(60,293994983674745978879),(67,147573952589676412927),(68,295147905179352825855),(69,590295810358705651711)] .done))))))))))))))))))))))))))))))))))))))))))))))) mixed (by decide +kernel) ?_
    refine D.pure rfl (S.move rfl) rfl ?_
    refine D.pure rfl (S.move rfl) rfl ?_
    refine D.pure rfl (S.ixSl (i := 7) rfl rfl (by omega) Tryd.underlying22 Tryd.sizeOf5) rfl ?_
    refine D.pure rfl (S.nilPtr rfl) rfl ?_
    refine D.pure rfl (S.ixArr (i := 0) rfl rfl (by omega) Tryd.underlying135 Tryd.sizeOf131) rfl ?_
    refine D.pure rfl (S.move rfl) rfl ?_
    refine D.pure rfl (S.move rfl) rfl ?_
    refine D.pure rfl (S.ixSl (i := 6) rfl rfl (by omega) Tryd.underlying22 Tryd.sizeOf5) rfl ?_
    refine D.pure rfl (S.nilPtr rfl) rfl ?_
    refine D.pure rfl (S.ixArr (i := 1) rfl rfl (by omega) Tryd.underlying135 Tryd.sizeOf131) rfl ?_
    refine D.pure rfl (S.move rfl) rfl ?_
    refine D.pure rfl (S.move rfl) rfl ?_
    refine D.pure rfl (S.ixSl (i := 5) rfl rfl (by omega) Tryd.underlying22 Tryd.sizeOf5) rfl ?_
    refine D.pure rfl (S.nilPtr rfl) rfl ?_
    refine D.pure rfl (S.ixArr (i := 2) rfl rfl (by omega) Tryd.underlying135 Tryd.sizeOf131) rfl ?_
    refine D.pure rfl (S.move rfl) rfl ?_
    refine D.pure rfl (S.move rfl) rfl ?_
    refine D.pure rfl (S.ixSl (i := 4) rfl rfl (by omega) Tryd.underlying22 Tryd.sizeOf5) rfl ?_
    refine D.pure rfl (S.nilPtr rfl) rfl ?_
    refine D.pure rfl (S.ixArr (i := 3) rfl rfl (by omega) Tryd.underlying135 Tryd.sizeOf131) rfl ?_
    refine D.pure rfl (S.move rfl) rfl ?_
    refine D.pure rfl (S.move rfl) rfl ?_
    refine D.pure rfl (S.shr (b := ((24 : Nat) : Int)) rfl rfl (by omega) (N.shr_u32 (by omega) _)) rfl ?_
    refine D.pure rfl (S.nilPtr rfl) rfl ?_
    refine D.pure rfl (S.ixArr (i := 4) rfl rfl (by omega) Tryd.underlying135 Tryd.sizeOf131) rfl ?_
    refine D.pure rfl (S.ixArr rfl rfl (by omega) Tryd.underlying131 Tryd.sizeOf52) rfl ?_
    refine D.pure rfl (S.move rfl) rfl ?_
    refine D.pure rfl (S.move rfl) rfl ?_
    refine D.pure rfl (S.shr (b := ((16 : Nat) : Int)) rfl rfl (by omega) (N.shr_u32 (by omega) _)) rfl ?_
    refine D.pure rfl (S.and (b := ((255 : Nat) : Int)) rfl rfl (N.and_u32 (by omega) (by omega))) rfl ?_
    refine D.pure rfl (S.nilPtr rfl) rfl ?_
    refine D.pure rfl (S.ixArr (i := 5) rfl rfl (by omega) Tryd.underlying135 Tryd.sizeOf131) rfl ?_
    refine D.pure rfl (S.ixArr rfl rfl (by omega) Tryd.underlying131 Tryd.sizeOf52) rfl ?_
    refine D.pure rfl (S.move rfl) rfl ?_
    refine D.pure rfl (S.move rfl) rfl ?_
    refine D.pure rfl (S.shr (b := ((8 : Nat) : Int)) rfl rfl (by omega) (N.shr_u32 (by omega) _)) rfl ?_
    refine D.pure rfl (S.and (b := ((255 : Nat) : Int)) rfl rfl (N.and_u32 (by omega) (by omega))) rfl ?_
    refine D.pure rfl (S.nilPtr rfl) rfl ?_
    refine D.pure rfl (S.ixArr (i := 6) rfl rfl (by omega) Tryd.underlying135 Tryd.sizeOf131) rfl ?_
    refine D.pure rfl (S.ixArr rfl rfl (by omega) Tryd.underlying131 Tryd.sizeOf52) rfl ?_
    refine D.pure rfl (S.move rfl) rfl ?_
    refine D.pure rfl (S.move rfl) rfl ?_
    refine D.pure rfl (S.and (b := ((255 : Nat) : Int)) rfl rfl (N.and_u32 (by omega) (by omega))) rfl ?_
    refine D.pure rfl (S.nilPtr rfl) rfl ?_
    refine D.pure rfl (S.ixArr (i := 7) rfl rfl (by omega) Tryd.underlying135 Tryd.sizeOf131) rfl ?_
    refine D.pure rfl (S.ixArr rfl rfl (by omega) Tryd.underlying131 Tryd.sizeOf52) rfl ?_
    refine D.seg (by decide) ?_
    refine W.still rfl (S.loadBase rfl (by assumption) Tryd.isAgg5) rfl ?_
    refine W.pure rfl (S.ixArr rfl rfl (by omega) Tryd.underlying131 Tryd.sizeOf52) rfl ?_
    refine W.still rfl (S.loadBase rfl (by assumption) Tryd.isAgg52) rfl ?_
    refine W.still rfl (S.loadBase rfl (by assumption) Tryd.isAgg5) rfl ?_
    refine W.pure rfl (S.ixArr rfl rfl (by omega) Tryd.underlying131 Tryd.sizeOf52) rfl ?_
    refine W.still rfl (S.loadBase rfl (by assumption) Tryd.isAgg52) rfl ?_
    refine W.pure rfl (S.xor rfl rfl (N.xor_u32 (by omega) (by omega))) rfl ?_
    refine W.still rfl (S.loadBase rfl (by assumption) Tryd.isAgg5) rfl ?_
    refine W.pure rfl (S.ixArr rfl rfl (by omega) Tryd.underlying131 Tryd.sizeOf52) rfl ?_
    refine W.still rfl (S.loadBase rfl (by assumption) Tryd.isAgg52) rfl ?_
    refine W.pure rfl (S.xor rfl rfl (N.xor_u32 (by omega) (by omega))) rfl ?_
    refine W.still rfl (S.loadBase rfl (by assumption) Tryd.isAgg5) rfl ?_
    refine W.pure rfl (S.ixArr rfl rfl (by omega) Tryd.underlying131 Tryd.sizeOf52) rfl ?_
    refine W.still rfl (S.loadBase rfl (by assumption) Tryd.isAgg52) rfl ?_
    refine W.pure rfl (S.xor rfl rfl (N.xor_u32 (by omega) (by omega))) rfl ?_
    refine W.still rfl (S.loadBase rfl (by assumption) Tryd.isAgg52) rfl ?_
    refine W.pure rfl (S.xor rfl rfl (N.xor_u32 (by omega) (by omega))) rfl ?_
    refine W.still rfl (S.loadBase rfl (by assumption) Tryd.isAgg52) rfl ?_
    refine W.pure rfl (S.xor rfl rfl (N.xor_u32 (by omega) (by omega))) rfl ?_
    refine W.still rfl (S.loadBase rfl (by assumption) Tryd.isAgg52) rfl ?_
    refine W.pure rfl (S.xor rfl rfl (N.xor_u32 (by omega) (by omega))) rfl ?_
    refine W.still rfl (S.loadBase rfl (by assumption) Tryd.isAgg52) rfl ?_
    refine W.pure rfl (S.xor rfl rfl (N.xor_u32 (by omega) (by omega))) rfl ?_
    refine W.reslot (congrArg u32 hS) ?_
    refine W.pure rfl (S.assign rfl) rfl ?_
    refine W.nil ?_
    refine D.kp [(0,_),(1,_),(2,_),(14,_)] rfl ?_
    refine C.region ?_
    refine E.pure (S.move rfl) rfl ?_
    refine E.pure (S.slL (lo := 8) rfl rfl (by omega) Tryd.underlying22 Tryd.sizeOf5) rfl ?_
    refine E.reslot (v := .slice (some ⟨pb,po + (k + 8),none⟩) (l.length - (k + 8)) (cap - (k + 8))) (slice_to (by rw [part,if_neg (by omega)]; omega) (by omega) (by omega)) ?_
    refine E.pure (S.assign rfl) rfl ?_
    refine E.kp [(0,_),(1,_),(2,_),(14,_)] rfl ?_
    refine ⟨_,?_,k + 8,_,rfl,rfl,by omega,hS ▸ s7,by rw [← hc,hd,hd8]; rfl,rfl⟩; omega
   refine C.exit rfl ?_
   refine C.region ?_
   refine E.pure (S.move rfl) rfl ?_
   refine E.pure (S.not32 rfl (by omega)) rfl ?_
   refine E.pure (S.assign rfl) rfl ?_
   refine E.kp [(0,_),(1,_),(2,_),(14,_)] rfl ?_
   first | exact ⟨0,crc,rfl,rfl,by omega,hcrc,rfl⟩ | exact ⟨_,not32 c,rfl,rfl,hk,not32_lt hb,by rw [← hc]; unfold crcOn; rw [not32_not32]⟩
  refine C.skip ?_
  exact ⟨0,crc,rfl,rfl,by omega,hcrc,rfl⟩
 rintro _ _ ⟨k,c,hq8,rfl,hk,hb,hc⟩
 refine C.weaken _ hq8 ?_
 refine C.seq ?_
 refine C.sr ?_
 refine E.pure (S.move rfl) rfl ?_
 refine E.pure (S.lenSl rfl Tryd.underlying22) rfl ?_
 refine E.pure (S.eq (b := ((0 : Nat) : Int)) rfl rfl) rfl ?_
 refine E.kp [(0,_),(1,_),(2,_),(94,_)] rfl ?_
 refine C.ifp rfl (fun h94 => ?_) (fun h94 => ?_)
 ·
  refine C.sr ?_
  refine E.pure (S.move rfl) rfl ?_
  refine E.pure (S.assign rfl) rfl ?_
  refine E.kp [(0,_),(1,_),(2,_),(6,_),(94,_)] rfl ?_
  refine C.ret ?_
  first | exact ⟨_,rfl,by rw [hc],rfl⟩ | (have hk2 : l.drop k = [] := List.drop_eq_nil_of_le (by omega); rw [hk2] at hc; exact ⟨_,rfl,by rw [← hc]; unfold crcOn; exact congrArg u32 (not32_not32 c).symm,rfl⟩)
 refine C.skip ?_
 refine C.sr ?_
 refine E.pure (S.move rfl) rfl ?_
 refine E.pure (S.move rfl) rfl ?_
 refine E.pure (S.nilPtr rfl) rfl ?_
 refine E.pure (S.ixArr (i := 0) rfl rfl (by omega) Tryd.underlying135 Tryd.sizeOf131) rfl ?_
 refine E.pure (S.move rfl) rfl ?_
 refine E.reslot (v := .slice (some ⟨pb,po + k,none⟩) ((l.drop k).length) (cap - k)) (slice_to rfl (by rw [List.length_drop]) rfl) ?_
 refine E.loud1 (OpX.pick [] (F := []) rfl (X.call rfl Tryd.call63 (simpleUpdate_spec c poly tb pb (po + k) (cap - k) (l.drop k) hpoly hb hT (hp.drop k) (by rw [List.length_drop]; omega)))) rfl ?_; rintro _ _ ⟨_,⟨rfl,rfl⟩,rfl⟩; refine E.relist (L2 := []) rfl ?_
 refine E.pure (S.assign rfl) rfl ?_
 refine E.kp [(0,_),(1,_),(2,_),(6,_),(94,_)] rfl ?_
 refine C.ret ?_
 exact ⟨_,rfl,by rw [hc],rfl⟩
theorem slicingUpdate_any {K : Known} {L : Frags} (crc poly tb pb po cap : Nat) (l : List UInt8) (hpoly : poly < 4294967296) (hcrc : crc < 4294967296) {cs : List Value} (hm : ⟨tb,0,cs⟩ ∈ L) (hT : TabAt poly cs 256 1)
    (hr : Reads K L pb po (bytesV l)) (hl : l.length ≤ 9223372036854775807) (hcap : l.length ≤ cap) :
    Fn Tryd.prog K 52 #[.int .u32 ((crc : Nat) : Int),.pointer (some ⟨tb,0,none⟩),.slice (some ⟨pb,po,none⟩) (l.length) (cap)] L (fun v L' => v = u32 (crcOn poly crc l) ∧ L' = L) :=
  Fn.stillR fun w hw => Fn.mono (slicingUpdate_spec crc poly tb pb po cap l hpoly hcrc (fun j k hj hk => by
    have := hw.cellAt hm (hT.cols j k hj hk)
    rwa [Nat.zero_add] at this) (hr.kb hw) hl hcap) fun v L' h => h.1

abbrev IEEE : Nat := 3988292384

theorem KB.keep {K : Known} {w : World} {b o : Nat} {l : List UInt8} (h : KB K b o l) : KB K b o l := h

theorem UpdateIEEE_known {K : Known} (crc pb po cap : Nat) (l : List UInt8) (hcrc : crc < 4294967296) (hp : KB K pb po l) (hl : l.length ≤ 9223372036854775807) (hcap : l.length ≤ cap) : Fn Tryd.prog K 44 #[.int .u32 ((crc : Nat) : Int),.slice (some ⟨pb,po,none⟩) (l.length) (cap)] ([]) (fun v _ => v = u32 (crcOn IEEE crc l)) := by
 refine Fn.intro (args := [.int .u32 ((crc : Nat) : Int),.slice (some ⟨pb,po,none⟩) (l.length) (cap)]) (RR := Ret1 4 _) Tryd.func44 rfl rfl Tryd.ntmps44 (res1 Tryd.results44) ?_
 refine C.reenv (env2 := [(0,.int .u32 ((crc : Nat) : Int)),(1,.slice (some ⟨pb,po,none⟩) (l.length) (cap))]) rfl ?_
 refine C.sr ?_
 refine E.pure (S.assign rfl) rfl ?_
 refine E.kp [(0,_),(1,_),(4,_)] rfl ?_
 refine C.sr ?_
 refine E.pure (S.move rfl) rfl ?_
 refine E.loud1 (OpX.pick [] (F := []) rfl (X.call rfl Tryd.call53 (slicingMakeTable_spec IEEE (by decide)))) rfl ?_; rintro _ _ ⟨_,⟨tb,cs,rfl,rfl,hT⟩,rfl⟩; refine E.relist (L2 := [_]) rfl ?_
 refine E.pure (S.move rfl) rfl ?_
 refine E.loud1 (X.call rfl Tryd.call52 (slicingUpdate_any crc IEEE tb pb po cap l (by decide) hcrc (List.mem_singleton.2 rfl) hT hp.reads hl hcap)) rfl ?_; rintro _ _ ⟨rfl,rfl⟩; refine E.relist (L2 := [_]) rfl ?_
 refine E.pure (S.assign rfl) rfl ?_
 refine E.kp [(4,_)] rfl ?_
 refine C.ret ?_
 exact ⟨_,rfl,rfl⟩
/-- UpdateIEEE goes on with the check. -/
theorem UpdateIEEE_spec {K : Known} {L : Frags} (crc pb po cap : Nat) (l : List UInt8) (hcrc : crc < 4294967296) (hr : Reads K L pb po (bytesV l)) (hl : l.length ≤ 9223372036854775807) (hcap : l.length ≤ cap) :
    Fn Tryd.prog K 44 #[.int .u32 ((crc : Nat) : Int),.slice (some ⟨pb,po,none⟩) (l.length) (cap)] L (fun v L' => v = u32 (crcOn IEEE crc l) ∧ L' = L) :=
  Fn.stillR fun w hw => UpdateIEEE_known crc pb po cap l hcrc (hr.kb hw) hl hcap

theorem ChecksumIEEE_known {K : Known} (pb po cap : Nat) (l : List UInt8) (hp : KB K pb po l) (hl : l.length ≤ 9223372036854775807) (hcap : l.length ≤ cap) : Fn Tryd.prog K 56 #[.slice (some ⟨pb,po,none⟩) (l.length) (cap)] ([]) (fun v _ => v = u32 (crcOn IEEE 0 l)) := by
 refine Fn.intro (args := [.slice (some ⟨pb,po,none⟩) (l.length) (cap)]) (RR := Ret1 2 _) Tryd.func56 rfl rfl Tryd.ntmps56 (res1 Tryd.results56) ?_
 refine C.reenv (env2 := [(0,.slice (some ⟨pb,po,none⟩) (l.length) (cap))]) rfl ?_
 refine C.sr ?_
 refine E.pure (S.assign rfl) rfl ?_
 refine E.kp [(0,_),(2,_)] rfl ?_
 refine C.sr ?_
 refine E.pure (S.move rfl) rfl ?_
 refine E.loud1 (X.call rfl Tryd.call44 (UpdateIEEE_spec 0 pb po cap l (by decide) hp.reads hl hcap)) rfl ?_; rintro _ _ ⟨rfl,rfl⟩; refine E.relist (L2 := []) rfl ?_
 refine E.pure (S.assign rfl) rfl ?_
 refine E.kp [(2,_)] rfl ?_
 refine C.ret ?_
 exact ⟨_,rfl,rfl⟩
theorem ChecksumIEEE_spec {K : Known} {L : Frags} (pb po cap : Nat) (l : List UInt8) (hr : Reads K L pb po (bytesV l)) (hl : l.length ≤ 9223372036854775807) (hcap : l.length ≤ cap) :
    Fn Tryd.prog K 56 #[.slice (some ⟨pb,po,none⟩) (l.length) (cap)] L (fun v L' => v = u32 (crcOn IEEE 0 l) ∧ L' = L) :=
  Fn.stillR fun w hw => ChecksumIEEE_known pb po cap l (hr.kb hw) hl hcap

end Go.Eng
namespace Go.Eng
open Go Go.Proofs
set_option maxRecDepth 100000


/-- noEOF. -/
def noEof (e : Er) : Er := bif e.isSe 0 then .unexp else e
theorem noEof_eof {e : Er} (h : e = .se 0) : noEof e = .unexp := by rw [h]; rfl
theorem noEof_other {e : Er} (h : e ≠ .se 0) : noEof e = e := by rw [noEof,Er.isSe_not.2 h]; rfl

def le16 (a b : Nat) : Nat := a ||| ((b <<< 8) % 65536)
theorem le16_val {a b : Nat} (ha : a < 256) (hb : b < 256) : le16 a b = a + 256 * b := by
  unfold le16
  rw [show (b <<< 8) % 65536 = b <<< 8 by rw [Nat.shiftLeft_eq]; omega]
  have := Nat.shiftLeft_add_eq_or_of_lt (b := a) (i := 8) (by omega) b
  rw [Nat.or_comm,← this,Nat.shiftLeft_eq]; omega
theorem le16_lt {a b : Nat} (ha : a < 256) (hb : b < 256) : le16 a b < 65536 := by rw [le16_val ha hb]; omega

theorem gogzip_noEOF {K : Known} {L : Frags} {ea : Fin 5 → Addr} (hs : Sents K ea) (e : Er) : Fn Tryd.prog K 46 #[Er.val ea e] ([]) (fun r L => r = Er.val ea (noEof e) ∧ L = []) := by
 refine Fn.intro (args := [Er.val ea e]) (RR := Ret1 2 _) Tryd.func46 rfl rfl Tryd.ntmps46 (res1 Tryd.results46) ?_
 refine C.reenv (env2 := [(0,Er.val ea e)]) rfl ?_
 refine C.sr ?_
 refine E.pure (S.assign (v := Er.val ea .none) rfl) rfl ?_
 refine E.kp [(0,_),(2,_)] rfl ?_
 refine C.seq ?_
 refine C.sr ?_
 refine E.pure (S.move rfl) rfl ?_
 refine E.still (S.loadBase rfl hs.g0 Tryd.isAgg59) rfl ?_
 refine E.still (S.eqEr hs rfl rfl) rfl ?_
 refine E.kp [(0,_),(2,_),(5,_)] rfl ?_
 first | refine C.ifp rfl (fun h5 => ?_) (fun h5 => ?_) | refine C.ifNone rfl (fun h5 => ?_) (fun h5 => ?_) | refine C.ifSome rfl (fun h5 => ?_) (fun h5 => ?_) | refine C.ifSe rfl (fun h5 => ?_) (fun h5 => ?_) | refine C.ifNotSe rfl (fun h5 => ?_) (fun h5 => ?_) | refine C.cond rfl (fun h5 => ?_) (fun h5 => ?_)
 ·
  refine C.sr ?_
  refine E.still (S.loadBase rfl hs.g3 Tryd.isAgg59) rfl ?_
  refine E.pure (S.assign rfl) rfl ?_
  refine E.kp [(0,_),(2,_),(5,_)] rfl ?_
  refine C.ret ?_
  exact ⟨_,rfl,by rw [noEof_eof h5],rfl⟩
 refine C.skip ?_
 refine C.sr ?_
 refine E.pure (S.move rfl) rfl ?_
 refine E.pure (S.assign rfl) rfl ?_
 refine E.kp [(0,_),(2,_),(5,_)] rfl ?_
 refine C.ret ?_
 first | exact ⟨_,rfl,by rw [noEof_eof h5],rfl⟩ | exact ⟨_,rfl,by rw [noEof_other h5],rfl⟩
theorem flate_noEOF {K : Known} {L : Frags} {ea : Fin 5 → Addr} (hs : Sents K ea) (e : Er) : Fn Tryd.prog K 76 #[Er.val ea e] ([]) (fun r L => r = Er.val ea (noEof e) ∧ L = []) := by
 refine Fn.intro (args := [Er.val ea e]) (RR := Ret1 2 _) Tryd.func76 rfl rfl Tryd.ntmps76 (res1 Tryd.results76) ?_
 refine C.reenv (env2 := [(0,Er.val ea e)]) rfl ?_
 refine C.sr ?_
 refine E.pure (S.assign (v := Er.val ea .none) rfl) rfl ?_
 refine E.kp [(0,_),(2,_)] rfl ?_
 refine C.seq ?_
 refine C.sr ?_
 refine E.pure (S.move rfl) rfl ?_
 refine E.still (S.loadBase rfl hs.g0 Tryd.isAgg59) rfl ?_
 refine E.still (S.eqEr hs rfl rfl) rfl ?_
 refine E.kp [(0,_),(2,_),(5,_)] rfl ?_
 first | refine C.ifp rfl (fun h5 => ?_) (fun h5 => ?_) | refine C.ifNone rfl (fun h5 => ?_) (fun h5 => ?_) | refine C.ifSome rfl (fun h5 => ?_) (fun h5 => ?_) | refine C.ifSe rfl (fun h5 => ?_) (fun h5 => ?_) | refine C.ifNotSe rfl (fun h5 => ?_) (fun h5 => ?_) | refine C.cond rfl (fun h5 => ?_) (fun h5 => ?_)
 ·
  refine C.sr ?_
  refine E.still (S.loadBase rfl hs.g3 Tryd.isAgg59) rfl ?_
  refine E.pure (S.assign rfl) rfl ?_
  refine E.kp [(0,_),(2,_),(5,_)] rfl ?_
  refine C.ret ?_
  exact ⟨_,rfl,by rw [noEof_eof h5],rfl⟩
 refine C.skip ?_
 refine C.sr ?_
 refine E.pure (S.move rfl) rfl ?_
 refine E.pure (S.assign rfl) rfl ?_
 refine E.kp [(0,_),(2,_),(5,_)] rfl ?_
 refine C.ret ?_
 first | exact ⟨_,rfl,by rw [noEof_eof h5],rfl⟩ | exact ⟨_,rfl,by rw [noEof_other h5],rfl⟩
theorem le16_known {K : Known} (pb po n cap : Nat) (v0 v1 : UInt8) (l : List UInt8) (hn : 2 ≤ n) (hp : KB K pb po (v0::v1::l)) : Fn Tryd.prog K 57 #[.slice (some ⟨pb,po,none⟩) (n) (cap)] ([]) (fun v _ => v = .int .u16 ((le16 v0.toNat v1.toNat : Nat) : Int)) := by
 refine Fn.intro (args := [.slice (some ⟨pb,po,none⟩) (n) (cap)]) (RR := Ret1 2 _) Tryd.func57 rfl rfl Tryd.ntmps57 (res1 Tryd.results57) ?_
 refine C.reenv (env2 := [(0,.slice (some ⟨pb,po,none⟩) (n) (cap))]) rfl ?_
 refine C.sr ?_
 have g0 : cellAt K pb (po + 0 * 1) = some (u8 v0) := hp.at (j := 0) (by simp only [List.length_cons]; omega)
 have g1 : cellAt K pb (po + 1 * 1) = some (u8 v1) := hp.at (j := 1) (by simp only [List.length_cons]; omega)
 have e0 := v0.toNat_lt
 have e1 := v1.toNat_lt
 refine E.pure (S.assign rfl) rfl ?_
 refine E.kp [(0,_),(2,_)] rfl ?_
 refine C.sr ?_
 refine E.pure (S.move rfl) rfl ?_
 refine E.pure (S.ixSl (i := 1) rfl rfl (by omega) Tryd.underlying22 Tryd.sizeOf5) rfl ?_
 refine E.still (S.loadBase rfl (by assumption) Tryd.isAgg5) rfl ?_
 refine E.kp [(0,_),(2,_)] rfl ?_
 refine C.seq ?_
 refine C.draw [0,1,2,4,0,16,32,64,128,264,1023] (.pure 0 496 (.pure 1 497 (.pure 4 15 (.pure 5 31 (.seg [(2,499),(3,503),(6,63),(7,127),(8,255),(9,511),(10,1023)] .done))))) mixed (by decide +kernel) ?_
 refine D.pure rfl (S.move rfl) rfl ?_
 refine D.pure rfl (S.ixSl (i := 0) rfl rfl (by omega) Tryd.underlying22 Tryd.sizeOf5) rfl ?_
 refine D.pure rfl (S.move rfl) rfl ?_
 refine D.pure rfl (S.ixSl (i := 1) rfl rfl (by omega) Tryd.underlying22 Tryd.sizeOf5) rfl ?_
 refine D.seg (by decide) ?_
 refine W.still rfl (S.loadBase rfl (by assumption) Tryd.isAgg5) rfl ?_
 refine W.pure rfl (S.conv rfl Tryd.underlying5 Tryd.underlying120 (N.in_u16 (by omega))) rfl ?_
 refine W.still rfl (S.loadBase rfl (by assumption) Tryd.isAgg5) rfl ?_
 refine W.pure rfl (S.conv rfl Tryd.underlying5 Tryd.underlying120 (N.in_u16 (by omega))) rfl ?_
 refine W.pure rfl (S.shl (b := ((8 : Nat) : Int)) rfl rfl (by omega) (N.shl_u16 _ _)) rfl ?_
 refine W.pure rfl (S.or rfl rfl (N.or_u16 (by omega) (by omega))) rfl ?_
 refine W.pure rfl (S.assign rfl) rfl ?_
 refine W.nil ?_
 refine D.kp [(0,_),(2,_)] rfl ?_
 refine C.ret ?_
 exact ⟨_,rfl,rfl⟩
theorem le32_known {K : Known} (pb po n cap : Nat) (v0 v1 v2 v3 : UInt8) (l : List UInt8) (hn : 4 ≤ n) (hp : KB K pb po (v0::v1::v2::v3::l)) : Fn Tryd.prog K 47 #[.slice (some ⟨pb,po,none⟩) (n) (cap)] ([]) (fun v _ => v = u32 (le32 v0.toNat v1.toNat v2.toNat v3.toNat)) := by
 refine Fn.intro (args := [.slice (some ⟨pb,po,none⟩) (n) (cap)]) (RR := Ret1 2 _) Tryd.func47 rfl rfl Tryd.ntmps47 (res1 Tryd.results47) ?_
 refine C.reenv (env2 := [(0,.slice (some ⟨pb,po,none⟩) (n) (cap))]) rfl ?_
 refine C.sr ?_
 have g0 : cellAt K pb (po + 0 * 1) = some (u8 v0) := hp.at (j := 0) (by simp only [List.length_cons]; omega)
 have g1 : cellAt K pb (po + 1 * 1) = some (u8 v1) := hp.at (j := 1) (by simp only [List.length_cons]; omega)
 have g2 : cellAt K pb (po + 2 * 1) = some (u8 v2) := hp.at (j := 2) (by simp only [List.length_cons]; omega)
 have g3 : cellAt K pb (po + 3 * 1) = some (u8 v3) := hp.at (j := 3) (by simp only [List.length_cons]; omega)
 have e0 := v0.toNat_lt
 have e1 := v1.toNat_lt
 have e2 := v2.toNat_lt
 have e3 := v3.toNat_lt
 have f1 := or_lt (a := v0.toNat) (b := v1.toNat <<< 8 % 4294967296) (k := 32) (by omega) (by omega)
 have f2 := or_lt (b := v2.toNat <<< 16 % 4294967296) (k := 32) f1 (by omega)
 rw [show (2 : Nat) ^ 32 = 4294967296 from rfl] at f1 f2
 refine E.pure (S.assign rfl) rfl ?_
 refine E.kp [(0,_),(2,_)] rfl ?_
 refine C.sr ?_
 refine E.pure (S.move rfl) rfl ?_
 refine E.pure (S.ixSl (i := 3) rfl rfl (by omega) Tryd.underlying22 Tryd.sizeOf5) rfl ?_
 refine E.still (S.loadBase rfl (by assumption) Tryd.isAgg5) rfl ?_
 refine E.kp [(0,_),(2,_)] rfl ?_
 refine C.seq ?_
 refine C.draw [0,1,2,4,0,16,32,64,128,264,0,1024,2048,4096,8192,16896,0,65536,131072,262144,524288,1081344,4194303] (.pure 0 2063856 (.pure 1 2063857 (.pure 4 2063375 (.pure 5 2063391 (.pure 10 2032639 (.pure 11 2033663 (.pure 16 65535 (.pure 17 131071 (.seg [(2,2063859),(3,2063863),(6,2063423),(7,2063487),(8,2063615),(9,2063871),(12,2035711),(13,2039807),(14,2047999),(15,2064383),(18,262143),(19,524287),(20,1048575),(21,2097151),(22,4194303)] .done))))))))) mixed (by decide +kernel) ?_
 refine D.pure rfl (S.move rfl) rfl ?_
 refine D.pure rfl (S.ixSl (i := 0) rfl rfl (by omega) Tryd.underlying22 Tryd.sizeOf5) rfl ?_
 refine D.pure rfl (S.move rfl) rfl ?_
 refine D.pure rfl (S.ixSl (i := 1) rfl rfl (by omega) Tryd.underlying22 Tryd.sizeOf5) rfl ?_
 refine D.pure rfl (S.move rfl) rfl ?_
 refine D.pure rfl (S.ixSl (i := 2) rfl rfl (by omega) Tryd.underlying22 Tryd.sizeOf5) rfl ?_
 refine D.pure rfl (S.move rfl) rfl ?_
 refine D.pure rfl (S.ixSl (i := 3) rfl rfl (by omega) Tryd.underlying22 Tryd.sizeOf5) rfl ?_
 refine D.seg (by decide) ?_
 refine W.still rfl (S.loadBase rfl (by assumption) Tryd.isAgg5) rfl ?_
 refine W.pure rfl (S.conv rfl Tryd.underlying5 Tryd.underlying52 (N.in_u32 (by omega))) rfl ?_
 refine W.still rfl (S.loadBase rfl (by assumption) Tryd.isAgg5) rfl ?_
 refine W.pure rfl (S.conv rfl Tryd.underlying5 Tryd.underlying52 (N.in_u32 (by omega))) rfl ?_
 refine W.pure rfl (S.shl (b := ((8 : Nat) : Int)) rfl rfl (by omega) (N.shl_u32 _ _)) rfl ?_
 refine W.pure rfl (S.or rfl rfl (N.or_u32 (by omega) (by omega))) rfl ?_
 refine W.still rfl (S.loadBase rfl (by assumption) Tryd.isAgg5) rfl ?_
 refine W.pure rfl (S.conv rfl Tryd.underlying5 Tryd.underlying52 (N.in_u32 (by omega))) rfl ?_
 refine W.pure rfl (S.shl (b := ((16 : Nat) : Int)) rfl rfl (by omega) (N.shl_u32 _ _)) rfl ?_
 refine W.pure rfl (S.or rfl rfl (N.or_u32 (by omega) (by omega))) rfl ?_
 refine W.still rfl (S.loadBase rfl (by assumption) Tryd.isAgg5) rfl ?_
 refine W.pure rfl (S.conv rfl Tryd.underlying5 Tryd.underlying52 (N.in_u32 (by omega))) rfl ?_
 refine W.pure rfl (S.shl (b := ((24 : Nat) : Int)) rfl rfl (by omega) (N.shl_u32 _ _)) rfl ?_
 refine W.pure rfl (S.or rfl rfl (N.or_u32 (by omega) (by omega))) rfl ?_
 refine W.pure rfl (S.assign rfl) rfl ?_
 refine W.nil ?_
 refine D.kp [(0,_),(2,_)] rfl ?_
 refine C.ret ?_
 exact ⟨_,rfl,rfl⟩
theorem le16_spec {K : Known} {L : Frags} (pb po n cap : Nat) (v0 v1 : UInt8) (l : List UInt8) (hn : 2 ≤ n) (hr : Reads K L pb po (bytesV (v0::v1::l))) :
    Fn Tryd.prog K 57 #[.slice (some ⟨pb,po,none⟩) (n) (cap)] L (fun v L' => v = .int .u16 ((le16 v0.toNat v1.toNat : Nat) : Int) ∧ L' = L) :=
  Fn.stillR fun w hw => le16_known pb po n cap v0 v1 l hn (hr.kb hw)

theorem le32_spec {K : Known} {L : Frags} (pb po n cap : Nat) (v0 v1 v2 v3 : UInt8) (l : List UInt8) (hn : 4 ≤ n) (hr : Reads K L pb po (bytesV (v0::v1::v2::v3::l))) :
    Fn Tryd.prog K 47 #[.slice (some ⟨pb,po,none⟩) (n) (cap)] L (fun v L' => v = u32 (le32 v0.toNat v1.toNat v2.toNat v3.toNat) ∧ L' = L) :=
  Fn.stillR fun w hw => le32_known pb po n cap v0 v1 v2 v3 l hn (hr.kb hw)

theorem unixTime_spec {K : Known} (t : Nat) (ht : t ≤ 4611686018427387904) : Fn Tryd.prog K 65 #[.int .i64 ((t : Nat) : Int),.int .i32 0] ([]) (fun r L => ∃ g,r = .agg #[.int .u64 0,.int .i64 ((t + 62135596800 : Nat) : Int)] ∧ L = [g]) := by
 refine Fn.intro (args := [.int .i64 ((t : Nat) : Int),.int .i32 0]) (RR := RetC 4 2  _) Tryd.func65 rfl rfl Tryd.ntmps65 (resC Tryd.results65 Tryd.isAgg67 Tryd.sizeOf67) ?_
 refine C.reenv (env2 := [(0,.int .i64 ((t : Nat) : Int)),(1,.int .i32 0)]) rfl ?_
 refine C.sr ?_
 refine E.loud1 (X.alloc Tryd.zeroValue67) rfl ?_; rintro _ _ ⟨b4,rfl,rfl⟩; refine E.relist (L2 := [_]) rfl ?_
 refine E.kp [(0,_),(1,_),(4,_)] rfl ?_
 refine C.sr ?_
 refine E.pure (S.move rfl) rfl ?_
 refine E.pure (S.conv (r := 0) rfl Tryd.underlying21 Tryd.underlying65 (by decide)) rfl ?_
 refine E.pure (S.move rfl) rfl ?_
 refine E.pure (S.add (b := ((62135596800 : Nat) : Int)) rfl rfl (N.add64 (by omega))) rfl ?_
 refine E.pure (S.buildV (v := .agg #[.int .u64 0,.int .i64 ((t + 62135596800 : Nat) : Int)]) [(0,.int .u64 0),(1,.int .i64 ((t + 62135596800 : Nat) : Int))] rfl (fun w => by simp [Instr.build,Instr.fill,Value.cells,Tryd.zeroValue67])) rfl ?_
 refine E.loud0 (X.storeA 0 (k := 0) rfl rfl rfl rfl rfl rfl Tryd.sizeOf67 rfl) ?_; rintro _ _ ⟨rfl,rfl⟩; refine E.relist (L2 := [_]) rfl ?_
 refine E.kp [(4,_)] rfl ?_
 refine C.ret ?_
 exact ⟨_,⟨_,_,0,rfl,rfl,rfl⟩,_,rfl,rfl⟩
theorem unix_spec {K : Known} (t : Nat) (ht : t ≤ 4611686018427387904) : Fn Tryd.prog K 55 #[.int .i64 ((t : Nat) : Int),.int .i64 0] ([]) (fun r L => ∃ g1 g2,r = .agg #[.int .u64 0,.int .i64 ((t + 62135596800 : Nat) : Int)] ∧ L = [g1,g2]) := by
 refine Fn.intro (args := [.int .i64 ((t : Nat) : Int),.int .i64 0]) (RR := RetC 4 2  _) Tryd.func55 rfl rfl Tryd.ntmps55 (resC Tryd.results55 Tryd.isAgg67 Tryd.sizeOf67) ?_
 refine C.reenv (env2 := [(0,.int .i64 ((t : Nat) : Int)),(1,.int .i64 0)]) rfl ?_
 refine C.sr ?_
 refine E.loud1 (X.alloc Tryd.zeroValue67) rfl ?_; rintro _ _ ⟨b4,rfl,rfl⟩; refine E.relist (L2 := [_]) rfl ?_
 refine E.kp [(0,_),(1,_),(4,_)] rfl ?_
 refine C.seq ?_
 refine C.sr ?_
 refine E.pure (S.move rfl) rfl ?_
 refine E.pure (S.lt (b := ((0 : Nat) : Int)) rfl rfl) rfl ?_
 refine E.reslot (v := .bool false) (congrArg Value.bool (by decide)) ?_
 refine E.pure (S.move rfl) rfl ?_
 refine E.wanted 8 rfl rfl ?_
 refine E.pure (S.move rfl) rfl ?_
 refine E.wanted 8 rfl rfl ?_
 refine E.pure (S.ge (b := ((1000000000 : Nat) : Int)) rfl rfl) rfl ?_
 refine E.reslot (v := .bool false) (congrArg Value.bool (by decide)) ?_
 refine E.pure (S.pickF rfl rfl) rfl ?_
 refine E.kp [(0,_),(1,_),(4,_),(11,_)] rfl ?_
 refine C.no rfl (rfl) ?_
 refine C.skip ?_
 refine C.sr ?_
 refine E.pure (S.move rfl) rfl ?_
 refine E.pure (S.move rfl) rfl ?_
 refine E.pure (S.conv (r := 0) rfl Tryd.underlying2 Tryd.underlying21 (by decide)) rfl ?_
 refine E.loud1 (OpX.pick [] (F := [_]) rfl (X.call rfl Tryd.call65 (unixTime_spec t ht))) rfl ?_; rintro _ _ ⟨_,⟨g2,rfl,rfl⟩,rfl⟩; refine E.relist (L2 := [_,_]) rfl ?_
 refine E.loud0 (X.storeA 1 (k := 0) rfl rfl rfl rfl rfl rfl Tryd.sizeOf67 rfl) ?_; rintro _ _ ⟨rfl,rfl⟩; refine E.relist (L2 := [_,_]) rfl ?_
 refine E.kp [(0,_),(1,_),(4,_),(11,_)] rfl ?_
 refine C.ret ?_
 exact ⟨_,⟨_,_,1,rfl,rfl,rfl⟩,_,_,rfl,rfl⟩
theorem isZero_spec {K : Known} (s : Nat) : Fn Tryd.prog K 40 #[.agg #[.int .u64 0,.int .i64 (s : Int)]] ([]) (fun r L => ∃ g,r = .bool (decide (s = 0)) ∧ L = [g]) := by
 refine Fn.intro (args := [.agg #[.int .u64 0,.int .i64 (s : Int)]]) (RR := Ret1 2 _) Tryd.func40 rfl rfl Tryd.ntmps40 (res1 Tryd.results40) ?_
 refine C.reenv (env2 := [(0,.agg #[.int .u64 0,.int .i64 (s : Int)])]) rfl ?_
 refine C.sr ?_
 refine E.loud1 (X.box rfl) rfl ?_; rintro _ _ ⟨b1,rfl,rfl⟩; refine E.relist (L2 := [_]) rfl ?_
 refine E.pure (S.assign rfl) rfl ?_
 refine E.kp [(1,_),(2,_)] rfl ?_
 refine C.sr ?_
 refine E.pure (S.field rfl fa67_0) rfl ?_
 refine E.still (S.load 0 (k := 0) rfl rfl rfl Tryd.isAgg65) rfl ?_
 refine E.pure (S.eq (b := ((0 : Nat) : Int)) rfl rfl) rfl ?_
 refine E.reslot (v := .bool true) (congrArg Value.bool (by decide)) ?_
 refine E.pure (S.move rfl) rfl ?_
 refine E.wanted 6 rfl rfl ?_
 refine E.pure (S.field rfl fa67_1) rfl ?_
 refine E.wanted 6 rfl rfl ?_
 refine E.still (S.load 0 (k := 1) rfl rfl rfl Tryd.isAgg2) rfl ?_
 refine E.wanted 6 rfl rfl ?_
 refine E.pure (S.eq (b := ((0 : Nat) : Int)) rfl rfl) rfl ?_
 refine E.pure (S.pickT rfl rfl) rfl ?_
 refine E.pure (S.assign rfl) rfl ?_
 refine E.kp [(1,_),(2,_)] rfl ?_
 refine C.ret ?_
 exact ⟨_,rfl,_,congrArg Value.bool (decide_eq_decide.2 (by constructor <;> intro h <;> omega)),rfl⟩
theorem timeSec_spec {K : Known} (b s : Nat) : Fn Tryd.prog K 61 #[.pointer (some ⟨b,0,none⟩)] ([⟨b,0,[.int .u64 0,.int .i64 (s : Int)]⟩]) (fun r L => r = .int .i64 (s : Int) ∧ L = [⟨b,0,[.int .u64 0,.int .i64 (s : Int)]⟩]) := by
 refine Fn.intro (args := [.pointer (some ⟨b,0,none⟩)]) (RR := Ret1 2 _) Tryd.func61 rfl rfl Tryd.ntmps61 (res1 Tryd.results61) ?_
 refine C.reenv (env2 := [(0,.pointer (some ⟨b,0,none⟩))]) rfl ?_
 refine C.sr ?_
 refine E.pure (S.assign rfl) rfl ?_
 refine E.kp [(0,_),(2,_)] rfl ?_
 refine C.seq ?_
 refine C.sr ?_
 refine E.pure (S.move rfl) rfl ?_
 refine E.pure (S.nilPtr rfl) rfl ?_
 refine E.pure (S.field rfl fa67_0) rfl ?_
 refine E.still (S.load 0 (k := 0) rfl rfl rfl Tryd.isAgg65) rfl ?_
 refine E.pure (S.and (r := 0) rfl rfl (by decide)) rfl ?_
 refine E.pure (S.ne (b := ((0 : Nat) : Int)) rfl rfl) rfl ?_
 refine E.reslot (v := .bool false) (congrArg Value.bool (by decide)) ?_
 refine E.kp [(0,_),(2,_),(8,_)] rfl ?_
 refine C.no rfl (rfl) ?_
 refine C.skip ?_
 refine C.sr ?_
 refine E.pure (S.move rfl) rfl ?_
 refine E.pure (S.nilPtr rfl) rfl ?_
 refine E.pure (S.field rfl fa67_1) rfl ?_
 refine E.still (S.load 0 (k := 1) rfl rfl rfl Tryd.isAgg2) rfl ?_
 refine E.pure (S.assign rfl) rfl ?_
 refine E.kp [(0,_),(2,_),(8,_)] rfl ?_
 refine C.ret ?_
 exact ⟨_,rfl,rfl,rfl⟩
theorem unixSec_spec {K : Known} (b t : Nat) (ht : t ≤ 4611686018427387904) : Fn Tryd.prog K 51 #[.pointer (some ⟨b,0,none⟩)] ([⟨b,0,[.int .u64 0,.int .i64 ((t + 62135596800 : Nat) : Int)]⟩]) (fun r L => r = .int .i64 (t : Int) ∧ L = [⟨b,0,[.int .u64 0,.int .i64 ((t + 62135596800 : Nat) : Int)]⟩]) := by
 refine Fn.intro (args := [.pointer (some ⟨b,0,none⟩)]) (RR := Ret1 2 _) Tryd.func51 rfl rfl Tryd.ntmps51 (res1 Tryd.results51) ?_
 refine C.reenv (env2 := [(0,.pointer (some ⟨b,0,none⟩))]) rfl ?_
 refine C.sr ?_
 refine E.pure (S.assign rfl) rfl ?_
 refine E.kp [(0,_),(2,_)] rfl ?_
 refine C.sr ?_
 refine E.pure (S.move rfl) rfl ?_
 refine E.loud1 (OpX.pick [0] (F := []) rfl (X.call rfl Tryd.call61 (timeSec_spec b (t + 62135596800)))) rfl ?_; rintro _ _ ⟨_,⟨rfl,rfl⟩,rfl⟩; refine E.relist (L2 := [_]) rfl ?_
 refine E.pure (S.add (r := (t : Int)) rfl rfl (by rw [N.addZ (by omega)]; omega)) rfl ?_
 refine E.pure (S.assign rfl) rfl ?_
 refine E.kp [(2,_)] rfl ?_
 refine C.ret ?_
 exact ⟨_,rfl,rfl,rfl⟩
theorem timeUnix_spec {K : Known} (t : Nat) (ht : t ≤ 4611686018427387904) : Fn Tryd.prog K 41 #[.agg #[.int .u64 0,.int .i64 ((t + 62135596800 : Nat) : Int)]] ([]) (fun r L => ∃ g,r = .int .i64 (t : Int) ∧ L = [g]) := by
 refine Fn.intro (args := [.agg #[.int .u64 0,.int .i64 ((t + 62135596800 : Nat) : Int)]]) (RR := Ret1 2 _) Tryd.func41 rfl rfl Tryd.ntmps41 (res1 Tryd.results41) ?_
 refine C.reenv (env2 := [(0,.agg #[.int .u64 0,.int .i64 ((t + 62135596800 : Nat) : Int)])]) rfl ?_
 refine C.sr ?_
 refine E.loud1 (X.box rfl) rfl ?_; rintro _ _ ⟨b1,rfl,rfl⟩; refine E.relist (L2 := [_]) rfl ?_
 refine E.pure (S.assign rfl) rfl ?_
 refine E.kp [(1,_),(2,_)] rfl ?_
 refine C.sr ?_
 refine E.loud1 (OpX.pick [0] (F := []) rfl (X.call rfl Tryd.call51 (unixSec_spec b1 t ht))) rfl ?_; rintro _ _ ⟨_,⟨rfl,rfl⟩,rfl⟩; refine E.relist (L2 := [_]) rfl ?_
 refine E.pure (S.assign rfl) rfl ?_
 refine E.kp [(1,_),(2,_)] rfl ?_
 refine C.ret ?_
 exact ⟨_,rfl,_,rfl,rfl⟩
end Go.Eng
namespace Go.Eng
open Go Go.Proofs
set_option maxRecDepth 100000

theorem zcBits : (Value.agg Tryd.zeroCells155).cells.toList = List.replicate 316 (.int .i64 0) := by kernel_rfl
theorem zcDec : (Value.agg Tryd.zeroCells153).cells.toList = ([[.nilIface,.pointer none,.int .i64 0,.int .u32 0,.int .u64 0],[.int .i64 0],List.replicate 512 (.int .u32 0),[.slice none 0 0,.int .u32 0],[.int .i64 0],List.replicate 512 (.int .u32 0),[.slice none 0 0,.int .u32 0],
  [.pointer none,.pointer none],[.slice none 0 0,.int .i64 0,.int .i64 0,.bool false],[.int .u8 0,.int .u8 0,.int .u8 0,.int .u8 0],[.nilFunc,.int .i64 0,.bool false,.nilIface,.slice none 0 0,.pointer none,.pointer none,.int .i64 0,.int .i64 0]] : List (List Value)).flatten := by kernel_rfl

/-- The parts of a decompressor. -/
def decParts (b : Nat) (p0 p1 p2 p3 p4 p5 p6 p7 p8 p9 p10 : List Value) : Frags := [⟨b,0,p0⟩,⟨b,5,p1⟩,⟨b,6,p2⟩,⟨b,518,p3⟩,⟨b,520,p4⟩,⟨b,521,p5⟩,⟨b,1033,p6⟩,⟨b,1035,p7⟩,⟨b,1037,p8⟩,⟨b,1041,p9⟩,⟨b,1045,p10⟩]

theorem decSame (b : Nat) (F : Frags) (p0 p1 p2 p3 p4 p5 p6 p7 p8 p9 p10 : List Value) (h0 : p0.length = 5) (h1 : p1.length = 1) (h2 : p2.length = 512) (h3 : p3.length = 2) (h4 : p4.length = 1) (h5 : p5.length = 512) (h6 : p6.length = 2) (h7 : p7.length = 2)
    (h8 : p8.length = 4) (h9 : p9.length = 4) : Same (⟨b,0,[p0,p1,p2,p3,p4,p5,p6,p7,p8,p9,p10].flatten⟩::F) (decParts b p0 p1 p2 p3 p4 p5 p6 p7 p8 p9 p10 ++ F) :=
  Same.chunks b F [(0,p0),(5,p1),(6,p2),(518,p3),(520,p4),(521,p5),(1033,p6),(1035,p7),(1037,p8),(1041,p9),(1045,p10)] 0 (by simp [chunksOk,h0,h1,h2,h3,h4,h5,h6,h7,h8,h9])

theorem makeReader_spec {K : Known} {ea : Fin 5 → Addr} (src : Src K ea) (fb : Nat) (c0 c1 c2 c3 c4 : Value) : Fn Tryd.prog K 66 #[.pointer (some ⟨fb,0,none⟩),.iface src.t src.v] ([⟨fb,0,[c0,c1,c2,c3,c4]⟩]) (fun r L => r = .tuple #[] ∧ L = [⟨fb,0,[.iface src.t src.v,.pointer none,c2,c3,c4]⟩]) := by
 refine Fn.intro (args := [.pointer (some ⟨fb,0,none⟩),.iface src.t src.v]) (RR := Ret0 _) Tryd.func66 rfl rfl Tryd.ntmps66 (res0 Tryd.results66) ?_
 refine C.reenv (env2 := [(0,.pointer (some ⟨fb,0,none⟩)),(1,.iface src.t src.v)]) rfl ?_
 refine C.seq ?_
 refine C.sr ?_
 refine E.pure (S.move rfl) rfl ?_
 refine E.pure (S.assertHas rfl Tryd.underlying71 (src.both _ Tryd.underlying71)) rfl ?_
 refine E.pure (S.move rfl) rfl ?_
 refine E.pure (S.extract rfl rfl) rfl ?_
 refine E.pure (S.extract rfl rfl) rfl ?_
 refine E.pure (S.assign rfl) rfl ?_
 refine E.pure (S.assign rfl) rfl ?_
 refine E.kp [(0,_),(1,_),(4,_),(5,_)] rfl ?_
 refine C.sr ?_
 refine E.pure (S.move rfl) rfl ?_
 refine E.kp [(0,_),(1,_),(4,_),(5,_),(11,_)] rfl ?_
 refine C.yes rfl (rfl) ?_
 refine C.sr ?_
 refine E.pure (S.move rfl) rfl ?_
 refine E.pure (S.nilPtr rfl) rfl ?_
 refine E.pure (S.field rfl fa153_1) rfl ?_
 refine E.loud0 (X.store 0 (k := 1) rfl rfl rfl rfl rfl Tryd.sizeOf112) ?_; rintro _ _ ⟨rfl,rfl⟩; refine E.relist (L2 := [_]) rfl ?_
 refine E.kp [(0,_),(1,_),(4,_),(5,_),(11,_)] rfl ?_
 refine C.sr ?_
 refine E.pure (S.move rfl) rfl ?_
 refine E.pure (S.move rfl) rfl ?_
 refine E.pure (S.nilPtr rfl) rfl ?_
 refine E.pure (S.field rfl fa153_0) rfl ?_
 refine E.loud0 (X.store 0 (k := 0) rfl rfl rfl rfl rfl Tryd.sizeOf71) ?_; rintro _ _ ⟨rfl,rfl⟩; refine E.relist (L2 := [_]) rfl ?_
 refine E.kp [(0,_),(1,_),(4,_),(5,_),(11,_)] rfl ?_
 refine C.ret ?_
 exact ⟨rfl,rfl⟩
theorem dictInit_new {K : Known} (fb o : Nat) (c1 c2 c3 : Value) : Fn Tryd.prog K 68 #[.pointer (some ⟨fb,o,none⟩),.int .i64 ((32768 : Nat) : Int),.slice none 0 0] ([⟨fb,o,[.slice none 0 0,c1,c2,c3]⟩]) (fun r L => ∃ hb,r = .tuple #[] ∧ L = [⟨hb,0,List.replicate 32768 (.int .u8 0)⟩,⟨fb,o,[.slice (some ⟨hb,0,none⟩) 32768 32768,.int .i64 0,.int .i64 0,.bool false]⟩]) := by
 refine Fn.intro (args := [.pointer (some ⟨fb,o,none⟩),.int .i64 ((32768 : Nat) : Int),.slice none 0 0]) (RR := Ret0 _) Tryd.func68 rfl rfl Tryd.ntmps68 (res0 Tryd.results68) ?_
 refine C.reenv (env2 := [(0,.pointer (some ⟨fb,o,none⟩)),(1,.int .i64 ((32768 : Nat) : Int)),(2,.slice none 0 0)]) rfl ?_
 refine C.sr ?_
 refine E.pure (S.move rfl) rfl ?_
 refine E.pure (S.move rfl) rfl ?_
 refine E.pure (S.nilPtr rfl) rfl ?_
 refine E.pure (S.field rfl fa148_0) rfl ?_
 refine E.still (S.load 0 (k := 0) rfl rfl rfl Tryd.isAgg22) rfl ?_
 refine E.pure (S.buildV (v := .agg #[.slice none 0 0,.int .i64 0,.int .i64 0,.bool false]) [(0,.slice none 0 0)] rfl (fun w => by simp [Instr.build,Instr.fill,Value.cells,Tryd.zeroValue148])) rfl ?_
 refine E.pure (S.nilPtr rfl) rfl ?_
 refine E.loud0 (X.storeA 0 (k := 0) rfl rfl rfl rfl rfl rfl Tryd.sizeOf148 rfl) ?_; rintro _ _ ⟨rfl,rfl⟩; refine E.relist (L2 := [_]) rfl ?_
 refine E.kp [(0,_),(1,_),(2,_)] rfl ?_
 refine C.seq ?_
 refine C.sr ?_
 refine E.pure (S.move rfl) rfl ?_
 refine E.pure (S.nilPtr rfl) rfl ?_
 refine E.pure (S.field rfl fa148_0) rfl ?_
 refine E.still (S.load 0 (k := 0) rfl rfl rfl Tryd.isAgg22) rfl ?_
 refine E.pure (S.capSl rfl Tryd.underlying22) rfl ?_
 refine E.pure (S.move rfl) rfl ?_
 refine E.pure (S.lt rfl rfl) rfl ?_
 refine E.reslot (v := .bool true) (congrArg Value.bool (by decide)) ?_
 refine E.kp [(0,_),(1,_),(2,_),(19,_)] rfl ?_
 refine C.yes rfl (rfl) ?_
 refine C.region ?_
 refine E.pure (S.move rfl) rfl ?_
 refine E.pure (S.move rfl) rfl ?_
 refine E.loud1 (X.make (l := 32768) (c := 32768) (bytes := 1) Tryd.underlying22 infoB (z := .int .u8 0) rfl rfl rfl rfl rfl rfl (Nat.le_refl _) (by decide) (by decide)) rfl ?_; rintro _ _ ⟨hb,rfl,rfl⟩; refine E.relist (L2 := [_,_]) rfl ?_
 refine E.pure (S.nilPtr rfl) rfl ?_
 refine E.pure (S.field rfl fa148_0) rfl ?_
 refine E.loud0 (X.store 1 (k := 0) rfl rfl rfl rfl rfl Tryd.sizeOf22) ?_; rintro _ _ ⟨rfl,rfl⟩; refine E.relist (L2 := [_,_]) rfl ?_
 refine E.kp [(0,_),(1,_),(2,_),(19,_)] rfl ?_
 refine C.sr ?_
 refine E.pure (S.move rfl) rfl ?_
 refine E.pure (S.move rfl) rfl ?_
 refine E.pure (S.nilPtr rfl) rfl ?_
 refine E.pure (S.field rfl fa148_0) rfl ?_
 refine E.still (S.load 1 (k := 0) rfl rfl rfl Tryd.isAgg22) rfl ?_
 refine E.pure (S.move rfl) rfl ?_
 refine E.pure (S.slH rfl rfl (by omega) Tryd.underlying22 Tryd.sizeOf5) rfl ?_
 refine E.pure (S.nilPtr rfl) rfl ?_
 refine E.pure (S.field rfl fa148_0) rfl ?_
 refine E.loud0 (X.store 1 (k := 0) rfl rfl rfl rfl rfl Tryd.sizeOf22) ?_; rintro _ _ ⟨rfl,rfl⟩; refine E.relist (L2 := [_,_]) rfl ?_
 refine E.kp [(0,_),(1,_),(2,_),(19,_)] rfl ?_
 refine C.seq ?_
 refine C.sr ?_
 refine E.pure (S.move rfl) rfl ?_
 refine E.pure (S.lenSl rfl Tryd.underlying22) rfl ?_
 refine E.pure (S.move rfl) rfl ?_
 refine E.pure (S.nilPtr rfl) rfl ?_
 refine E.pure (S.field rfl fa148_0) rfl ?_
 refine E.still (S.load 1 (k := 0) rfl rfl rfl Tryd.isAgg22) rfl ?_
 refine E.pure (S.lenSl rfl Tryd.underlying22) rfl ?_
 refine E.pure (S.gt rfl rfl) rfl ?_
 refine E.reslot (v := .bool false) (congrArg Value.bool (by decide)) ?_
 refine E.kp [(0,_),(1,_),(2,_),(19,_),(41,_)] rfl ?_
 refine C.no rfl (rfl) ?_
 refine C.skip ?_
 refine C.sr ?_
 refine E.pure (S.move rfl) rfl ?_
 refine E.pure (S.move rfl) rfl ?_
 refine E.pure (S.nilPtr rfl) rfl ?_
 refine E.pure (S.field rfl fa148_0) rfl ?_
 refine E.still (S.load 1 (k := 0) rfl rfl rfl Tryd.isAgg22) rfl ?_
 refine E.pure (S.move rfl) rfl ?_
 refine E.loud1 (X.copyB 0 (l := []) rfl rfl rfl rfl (.inl rfl) (by rw [List.length_replicate]; exact Nat.le_refl _)) rfl ?_; rintro _ _ ⟨rfl,rfl⟩; refine E.relist (L2 := [_,_]) rfl ?_
 refine E.pure (S.nilPtr rfl) rfl ?_
 refine E.pure (S.field rfl fa148_1) rfl ?_
 refine E.loud0 (X.store 1 (k := 1) rfl rfl rfl rfl rfl Tryd.sizeOf3) ?_; rintro _ _ ⟨rfl,rfl⟩; refine E.relist (L2 := [_,_]) rfl ?_
 refine E.kp [(0,_),(1,_),(2,_),(19,_),(41,_)] rfl ?_
 refine C.seq ?_
 refine C.seq ?_
 refine C.draw [0,1,2,4,0,16,32,64,128,264] (.pure 0 496 (.pure 1 497 (.pure 2 499 (.pure 4 15 (.pure 5 31 (.pure 6 63 (.seg [(3,503),(7,127),(8,255),(9,511)] .done))))))) mixed (by decide +kernel) ?_
 refine D.pure rfl (S.move rfl) rfl ?_
 refine D.pure rfl (S.nilPtr rfl) rfl ?_
 refine D.pure rfl (S.field rfl fa148_1) rfl ?_
 refine D.pure rfl (S.move rfl) rfl ?_
 refine D.pure rfl (S.nilPtr rfl) rfl ?_
 refine D.pure rfl (S.field rfl fa148_0) rfl ?_
 refine D.seg (by decide) ?_
 refine W.still rfl (S.load 1 (k := 1) rfl rfl rfl Tryd.isAgg3) rfl ?_
 refine W.still rfl (S.load 1 (k := 0) rfl rfl rfl Tryd.isAgg22) rfl ?_
 refine W.pure rfl (S.lenSl rfl Tryd.underlying22) rfl ?_
 refine W.pure rfl (S.eq rfl rfl) rfl ?_
 refine W.reslot (v := .bool false) (congrArg Value.bool (by decide)) ?_
 refine W.nil ?_
 refine D.kp [(0,_),(1,_),(2,_),(19,_),(41,_),(70,_)] rfl ?_
 refine C.no rfl (rfl) ?_
 refine C.skip ?_
 refine C.region ?_
 refine E.pure (S.move rfl) rfl ?_
 refine E.pure (S.move rfl) rfl ?_
 refine E.pure (S.nilPtr rfl) rfl ?_
 refine E.pure (S.field rfl fa148_1) rfl ?_
 refine E.still (S.load 1 (k := 1) rfl rfl rfl Tryd.isAgg3) rfl ?_
 refine E.pure (S.nilPtr rfl) rfl ?_
 refine E.pure (S.field rfl fa148_2) rfl ?_
 refine E.loud0 (X.store 1 (k := 2) rfl rfl rfl rfl rfl Tryd.sizeOf3) ?_; rintro _ _ ⟨rfl,rfl⟩; refine E.relist (L2 := [_,_]) rfl ?_
 refine E.kp [(0,_),(1,_),(2,_),(19,_),(41,_),(70,_)] rfl ?_
 exact ⟨hb,rfl,rfl⟩
/-- What NewReader makes. -/
def newDec {K : Known} {ea : Fin 5 → Addr} (src : Src K ea) (fb ab cb hb : Nat) : Frags :=
  decParts fb [.iface src.t src.v,.pointer none,.int .i64 0,.int .u32 0,.int .u64 0] [.int .i64 0] (List.replicate 512 (.int .u32 0)) [.slice none 0 0,.int .u32 0] [.int .i64 0] (List.replicate 512 (.int .u32 0)) [.slice none 0 0,.int .u32 0]
    [.pointer (some ⟨ab,0,none⟩),.pointer (some ⟨cb,0,none⟩)] [.slice (some ⟨hb,0,none⟩) 32768 32768,.int .i64 0,.int .i64 0,.bool false] [.int .u8 0,.int .u8 0,.int .u8 0,.int .u8 0] [.func (.func 67) #[] #[],.int .i64 0,.bool false,.nilIface,.slice none 0 0,.pointer none,.pointer none,.int .i64 0,.int .i64 0] ++
  [⟨ab,0,List.replicate 316 (.int .i64 0)⟩,⟨cb,0,List.replicate 19 (.int .i64 0)⟩,⟨hb,0,List.replicate 32768 (.int .u8 0)⟩]

theorem flateNewReader_spec {K : Known} {ea : Fin 5 → Addr} (src : Src K ea) : Fn Tryd.prog K 59 #[.iface src.t src.v] ([]) (fun r L => ∃ fb ab cb hb,r = .iface 157 (.pointer (some ⟨fb,0,none⟩)) ∧ Same L (newDec src fb ab cb hb)) := by
 refine Fn.intro (args := [.iface src.t src.v]) (RR := Ret1 2 _) Tryd.func59 rfl rfl Tryd.ntmps59 (res1 Tryd.results59) ?_
 refine C.reenv (env2 := [(0,.iface src.t src.v)]) rfl ?_
 refine C.sr ?_
 refine E.pure (S.assign rfl) rfl ?_
 refine E.kp [(0,_),(2,_)] rfl ?_
 refine C.sr ?_
 refine E.loud1 (X.alloc Tryd.zeroValue153) rfl ?_; rintro _ _ ⟨b3,rfl,rfl⟩; refine E.relist (L2 := [_]) rfl ?_
 refine E.relist (congrArg (fun x => [(⟨b3,0,x⟩ : Frag)]) zcDec) ?_
 refine E.same (decSame b3 [] _ _ _ _ _ _ _ _ _ _ _ rfl rfl List.length_replicate rfl rfl List.length_replicate rfl rfl rfl rfl) ?_
 refine E.relist (L2 := [⟨b3,0,_⟩,⟨b3,5,_⟩,⟨b3,6,_⟩,⟨b3,518,_⟩,⟨b3,520,_⟩,⟨b3,521,_⟩,⟨b3,1033,_⟩,⟨b3,1035,_⟩,⟨b3,1037,_⟩,⟨b3,1041,_⟩,⟨b3,1045,_⟩]) rfl ?_
 refine E.kp [(0,_),(2,_),(3,_)] rfl ?_
 refine C.sr ?_
 refine E.pure (S.move rfl) rfl ?_
 refine E.loud1 (OpX.pick [0] (F := [_,_,_,_,_,_,_,_,_,_]) rfl (X.call rfl Tryd.call66 (makeReader_spec src b3 _ _ _ _ _))) rfl ?_; rintro _ _ ⟨_,⟨rfl,rfl⟩,rfl⟩; refine E.relist (L2 := [_,_,_,_,_,_,_,_,_,_,_]) rfl ?_
 refine E.kp [(2,_),(3,_)] rfl ?_
 refine C.sr ?_
 refine E.loud1 (X.alloc Tryd.zeroValue155) rfl ?_; rintro _ _ ⟨b6,rfl,rfl⟩; refine E.relist (L2 := [_,_,_,_,_,_,_,_,_,_,_,_]) rfl ?_
 refine E.relist (L2 := [⟨b6,0,List.replicate 316 (.int .i64 0)⟩,⟨b3,0,_⟩,⟨b3,5,_⟩,⟨b3,6,_⟩,⟨b3,518,_⟩,⟨b3,520,_⟩,⟨b3,521,_⟩,⟨b3,1033,_⟩,⟨b3,1035,_⟩,⟨b3,1037,_⟩,⟨b3,1041,_⟩,⟨b3,1045,_⟩]) (by rw [zcBits]) ?_
 refine E.pure (S.field rfl fa153_7) rfl ?_
 refine E.loud0 (X.store 8 (k := 0) rfl rfl rfl rfl rfl Tryd.sizeOf145) ?_; rintro _ _ ⟨rfl,rfl⟩; refine E.relist (L2 := [_,_,_,_,_,_,_,_,_,_,_,_]) rfl ?_
 refine E.kp [(2,_),(3,_)] rfl ?_
 refine C.sr ?_
 refine E.loud1 (X.alloc Tryd.zeroValue156) rfl ?_; rintro _ _ ⟨b8,rfl,rfl⟩; refine E.relist (L2 := [_,_,_,_,_,_,_,_,_,_,_,_,_]) rfl ?_
 refine E.pure (S.field rfl fa153_8) rfl ?_
 refine E.loud0 (X.store 9 (k := 1) rfl rfl rfl rfl rfl Tryd.sizeOf146) ?_; rintro _ _ ⟨rfl,rfl⟩; refine E.relist (L2 := [_,_,_,_,_,_,_,_,_,_,_,_,_]) rfl ?_
 refine E.kp [(2,_),(3,_)] rfl ?_
 refine C.sr ?_
 refine E.pure (S.field rfl fa153_11) rfl ?_
 refine E.loud0 (X.store 12 (k := 0) rfl rfl rfl rfl rfl Tryd.sizeOf150) ?_; rintro _ _ ⟨rfl,rfl⟩; refine E.relist (L2 := [_,_,_,_,_,_,_,_,_,_,_,_,_]) rfl ?_
 refine E.kp [(2,_),(3,_)] rfl ?_
 refine C.sr ?_
 refine E.pure (S.field rfl fa153_9) rfl ?_
 refine E.loud1 (OpX.pick [10] (F := [_,_,_,_,_,_,_,_,_,_,_,_]) rfl (X.call rfl Tryd.call68 (dictInit_new b3 1037 _ _ _))) rfl ?_; rintro _ _ ⟨_,⟨hb,rfl,rfl⟩,rfl⟩; refine E.relist (L2 := [_,_,_,_,_,_,_,_,_,_,_,_,_,_]) rfl ?_
 refine E.kp [(2,_),(3,_)] rfl ?_
 refine C.sr ?_
 refine E.pure (S.mkIface rfl conc157) rfl ?_
 refine E.pure (S.assign rfl) rfl ?_
 refine E.kp [(2,_),(3,_)] rfl ?_
 refine C.ret ?_
 exact ⟨_,rfl,b3,b6,b8,hb,rfl,(Same.perm (picks_perm (A := newDec src b3 b6 b8 hb) (F := []) (is := [4,4,4,4,4,4,4,4,1,3,3,2,1,0]) rfl)).trans (Same.of_eq (List.append_nil _))⟩
theorem flateNew_spec {K : Known} {ea : Fin 5 → Addr} (src : Src K ea) : Fn Tryd.prog K 59 #[.iface src.t src.v] [] (fun r L => ∃ fb ab cb hb,r = .iface 157 (.pointer (some ⟨fb,0,none⟩)) ∧ L = newDec src fb ab cb hb) :=
  Fn.sameR (flateNewReader_spec src) fun v L' h => by
    obtain ⟨fb,ab,cb,hb,h1,h2⟩ := h
    exact ⟨_,h2,fb,ab,cb,hb,h1,rfl⟩

end Go.Eng
namespace Go.Eng
open Go Go.Proofs

def strLen (l : List UInt8) : Nat := (l.takeWhile (fun c => c != 0)).length

theorem strLen_found : ∀ {l : List UInt8} {i : Nat},(∀ c ∈ l.take i,c ≠ 0) → l[i]? = some 0 → strLen l = i
  | [],i,_,h => by simp at h
  | c::r,0,_,h => by
    simp only [List.getElem?_cons_zero,Option.some.injEq] at h
    subst h
    rfl
  | c::r,i + 1,hn,h => by
    have hc : c ≠ 0 := hn c (by simp)
    have := strLen_found (l := r) (i := i) (fun x hx => hn x (by simp [hx])) (by simpa using h)
    unfold strLen at this ⊢
    rw [List.takeWhile_cons]
    simp [hc,this]

theorem strLen_end : ∀ {l : List UInt8},(∀ c ∈ l,c ≠ 0) → strLen l = l.length
  | [],_ => rfl
  | c::r,hn => by
    have hc : c ≠ 0 := hn c (by simp)
    have := strLen_end (l := r) (fun x hx => hn x (by simp [hx]))
    unfold strLen at this ⊢
    rw [List.takeWhile_cons]
    simp [hc,this]

theorem strLen_long : ∀ {l : List UInt8} {i : Nat},(∀ c ∈ l.take i,c ≠ 0) → i ≤ l.length → i ≤ strLen l
  | _,0,_,_ => Nat.zero_le _
  | [],i + 1,_,h => by simp at h
  | c::r,i + 1,hn,h => by
    have hc : c ≠ 0 := hn c (by simp)
    have := strLen_long (l := r) (i := i) (fun x hx => hn x (by simp [hx])) (by simpa using h)
    unfold strLen at this ⊢
    rw [List.takeWhile_cons]
    simp [hc,this]

/-- The text of bytes of ISO 8859-1. -/
def latin (l : List UInt8) : ByteArray := runesBytes (l.map fun c => ((c.toNat : Nat) : Int))

def strOk (l : List UInt8) : Bool := decide (strLen l < 512) && decide (strLen l < l.length)
def strEr (l : List UInt8) : Er := if strLen l < 512 then (if strLen l < l.length then .none else .eof) else .header
def strUsed (l : List UInt8) : Nat := if strLen l < 512 then min (strLen l + 1) l.length else 512
def strTxt (l : List UInt8) : ByteArray := if strOk l then latin (l.take (strLen l)) else ⟨#[]⟩
def strCrc (d : Nat) (l : List UInt8) : Nat := if strOk l then crcOn IEEE d (l.take (strLen l + 1)) else d

theorem str_header {l : List UInt8} (h : (∀ c ∈ l.take 512,c ≠ 0)) (hl : 512 ≤ l.length) (d : Nat) : strEr l = .header ∧ strUsed l = 512 ∧ strTxt l = ⟨#[]⟩ ∧ strCrc d l = d := by
  have h1 := strLen_long h hl
  have h2 : ¬ strLen l < 512 := by omega
  simp [strEr,strUsed,strTxt,strCrc,strOk,h2]
theorem str_eof {l : List UInt8} (h : (∀ c ∈ l,c ≠ 0)) (hl : l.length < 512) (d : Nat) : strEr l = .eof ∧ strUsed l = l.length ∧ strTxt l = ⟨#[]⟩ ∧ strCrc d l = d := by
  have h1 := strLen_end h
  simp [strEr,strUsed,strTxt,strCrc,strOk,h1,hl]
theorem str_ok {l : List UInt8} {i : Nat} (h : (∀ c ∈ l.take i,c ≠ 0)) (h0 : l[i]? = some 0) (hi : i < 512) (d : Nat) : strEr l = .none ∧ strUsed l = i + 1 ∧ strTxt l = latin (l.take i) ∧ strCrc d l = crcOn IEEE d (l.take (i + 1)) := by
  have h1 := strLen_found h h0
  have h2 : i < l.length := (List.getElem?_eq_some_iff.1 h0).1
  have h3 : min (i + 1) l.length = i + 1 := by omega
  simp [strEr,strUsed,strTxt,strCrc,strOk,h1,hi,h2,h3]

theorem encode_byte (c : UInt8) : Utf8.encode ((c.toNat : Nat) : Int) = if c.toNat < 128 then ⟨#[c]⟩ else ⟨#[UInt8.ofNat (192 + c.toNat / 64),UInt8.ofNat (128 + c.toNat % 64)]⟩ := by
  have hc := c.toNat_lt
  have hv : Utf8.valid ((c.toNat : Nat) : Int) = true := by
    unfold Utf8.valid
    simp; omega
  unfold Utf8.encode
  simp only [hv,if_true,Int.toNat_natCast]
  by_cases h : c.toNat < 128
  · rw [if_pos h,if_pos h]; simp
  · rw [if_neg h,if_neg h,if_pos (by omega)]

theorem encode_ascii (c : UInt8) (h : c.toNat ≤ 127) : Utf8.encode ((c.toNat : Nat) : Int) = ⟨#[c]⟩ := by
  rw [encode_byte,if_pos (by omega)]

theorem latin_ascii_go : ∀ (l : List UInt8) (s : ByteArray),(∀ c ∈ l,c.toNat ≤ 127) → (l.map fun c => ((c.toNat : Nat) : Int)).foldl (fun r n => r ++ Utf8.encode n) s = ⟨s.data ++ l.toArray⟩
  | [],s,_ => by simp
  | c::r,s,h => by
    rw [List.map_cons,List.foldl_cons,encode_ascii c (h c (by simp)),latin_ascii_go r _ (fun x hx => h x (by simp [hx]))]
    simp

theorem latin_ascii {l : List UInt8} (h : ∀ c ∈ l,c.toNat ≤ 127) : latin l = ⟨l.toArray⟩ := by
  unfold latin runesBytes
  rw [latin_ascii_go l _ h]
  simp

theorem take_snoc {α : Type} {l : List α} {i : Nat} (h : i < l.length) : l.take (i + 1) = l.take i ++ [l[i]] := by
  rw [List.take_add_one,List.getElem?_eq_getElem h]; rfl

def big (c : UInt8) : Bool := decide (127 < c.toNat)

theorem any_snoc {l : List UInt8} {i : Nat} (h : i < l.length) : (l.take (i + 1)).any big = ((l.take i).any big || big l[i]) := by
  rw [take_snoc h,List.any_append]; simp only [List.any_cons,List.any_nil,Bool.or_false]

theorem any_true {l : List UInt8} {i : Nat} (h : i < l.length) (hb : ((127 : Nat) : Int) < ((l[i].toNat : Nat) : Int)) : true = (l.take (i + 1)).any big := by
  have : big l[i] = true := decide_eq_true (by omega)
  rw [any_snoc h,this,Bool.or_true]
theorem any_keep {l : List UInt8} {i : Nat} {nc : Bool} (h : i < l.length) (hnc : nc = (l.take i).any big) (hb : ¬ ((127 : Nat) : Int) < ((l[i].toNat : Nat) : Int)) : nc = (l.take (i + 1)).any big := by
  have : big l[i] = false := decide_eq_false (by omega)
  rw [any_snoc h,this,Bool.or_false]; exact hnc

theorem none_big {l : List UInt8} (h : l.any big = false) : ∀ c ∈ l,c.toNat ≤ 127 := by
  intro c hc
  have := List.any_eq_false.1 h c hc
  simpa [big] using this

/-- A byte is written behind those that are there. -/
theorem buf_set {l : List UInt8} {bs : List Value} {i : Nat} (h : i < l.length) (hb : i < bs.length) (hbl : bs.length = 512) : (bytesV (l.take i) ++ bs.drop i).set i (u8 l[i]) = bytesV (l.take (i + 1)) ++ bs.drop (i + 1) := by
  have hl : (bytesV (l.take i)).length = i := by rw [bytesV_length,List.length_take]; omega
  rw [List.set_append_right _ _ (by omega),hl,Nat.sub_self,List.drop_eq_getElem_cons hb,List.set_cons_zero,take_snoc h,bytesV_append,List.append_assoc]
  rfl

theorem buf_get {l : List UInt8} {bs : List Value} {i : Nat} (h : i < l.length) : (bytesV (l.take (i + 1)) ++ bs.drop (i + 1))[i]? = some (u8 l[i]) := by
  rw [List.getElem?_append_left (by rw [bytesV_length,List.length_take]; omega)]
  have : i < (l.take (i + 1)).length := by rw [List.length_take]; omega
  rw [bytesV_get this]
  simp

theorem buf_part {l : List UInt8} {bs : List Value} {i : Nat} : ((bytesV (l.take (i + 1)) ++ bs.drop (i + 1)).drop 0).take (bytesV (l.take (i + 1))).length = bytesV (l.take (i + 1)) := by
  rw [List.drop_zero]; exact List.take_left

theorem buf_part1 {l : List UInt8} {bs : List Value} {i : Nat} (h : i < l.length) : ((bytesV (l.take (i + 1)) ++ bs.drop (i + 1)).drop 0).take (bytesV (l.take i)).length = bytesV (l.take i) := by
  rw [List.drop_zero,take_snoc h,bytesV_append,List.append_assoc]
  exact List.take_left

def runesV (l : List UInt8) : List Value := l.map fun c => .int .i32 ((c.toNat : Nat) : Int)

theorem runesV_snoc {l : List UInt8} {i : Nat} (h : i < l.length) : runesV (l.take (i + 1)) = runesV (l.take i) ++ [.int .i32 ((l[i].toNat : Nat) : Int)] := by
  unfold runesV; rw [take_snoc h,List.map_append]; rfl

theorem arr1 (f : Nat → Value) (v : Value) : ((Array.range 1).map f).setIfInBounds 0 v = #[v] := by
  rw [show Array.range 1 = #[0] by decide]; simp

theorem infoI32 : Tryd.prog.info? 21 = some Tryd.t21 := by kernel_rfl

section
variable {K : Known} {n : Nat} {env : Env} {L : Frags} {ty : TypeId}

/-- append of a rune. -/
theorem X.appendRune {x y : Operand} {b o m c yb : Nat} {z : Int} {cs xs : List Value} {yc : Nat}
    (hx : ev? env x = some (.slice (some ⟨b,o,none⟩) m c)) (hy : ev? env y = some (.slice (some ⟨yb,0,none⟩) 1 yc)) (hxs : cs.take m = xs) (hl : cs.length = c) (hm : m ≤ c) (hc : c ≤ 9223372036854775807) (hb : m ≤ 100000) :
    OpX Tryd.prog K n (.call { callee := .builtin .append,args := #[x,y],argTypes := #[140,140] }) ty env (⟨b,o,cs⟩::⟨yb,0,[.int .i32 z]⟩::L) fun v' L' =>
      ∃ b' o' c' cs',v' = .slice (some ⟨b',o',none⟩) (m + 1) c' ∧ cs'.take (m + 1) = xs ++ [.int .i32 z] ∧ cs'.length = c' ∧ m + 1 ≤ c' ∧ c' ≤ 9223372036854775807 ∧ L' = ⟨b',o',cs'⟩::⟨yb,0,[.int .i32 z]⟩::L := by
  have hxl : xs.length = m := by rw [← hxs,List.length_take]; omega
  have h := X.append (P := Tryd.prog) (H0 := K) (n := n) (ty := ty) (L := ⟨yb,0,[.int .i32 z]⟩::L) (Lf := [⟨b,o,cs⟩]) (s := 1) (bytes := 4) (t := 140) (m := m) (k := 1) (xs := xs) (ys := [.int .i32 z]) Tryd.underlying140 infoI32 (z := .int .i32 0) rfl rfl rfl rfl (by decide) hx hy
    ⟨by rw [hxl,Nat.mul_one],.inr ⟨b,o,c,cs,rfl,rfl,by rw [hl,Nat.mul_one],hm,hc,by rw [Nat.mul_one]; exact hxs⟩⟩ rfl
    (.inr ⟨yb,0,rfl,Reads.frag (i := 1) (k := 0) rfl rfl⟩) rfl (by omega) (by omega)
  refine OpX.mono h fun v' L' => ?_
  rintro ⟨Lf',h1,h2⟩
  obtain ⟨b',o',c',cs',e1,e2,e3,e4,e5,e6⟩ := h1.one (by omega)
  subst e2
  exact ⟨b',o',c',cs',e1,by rw [Nat.mul_one] at e6; exact e6,by rw [Nat.mul_one] at e3; exact e3,e4,e5,h2⟩
end
end Go.Eng
namespace Go.Eng
open Go Go.Proofs
set_option maxRecDepth 100000

theorem readString_spec {K : Known} {ea : Fin 5 → Addr} (hs : Sents K ea) (src : Src K ea) (l : List UInt8) (x1 x2 x3 : Frag) (zb d : Nat) (c0 c1 c2 c3 c4 c5 c7 c9 : Value) (bs : List Value) (hA : src.At l x1 x2 x3) (hbs : bs.length = 512) (hd : d < 4294967296) : Fn Tryd.prog K 58 #[.pointer (some ⟨zb,0,none⟩)] ([x1,x2,x3,⟨zb,0,[c0,c1,c2,c3,c4,c5,.iface src.t src.v,c7,.int .u32 ((d : Nat) : Int),c9]⟩,⟨zb,10,bs⟩]) (fun r L => ∃ f1 f2 f3 bs2,src.At (l.drop (strUsed l)) f1 f2 f3 ∧ bs2.length = 512 ∧ r = .tuple #[.string (strTxt l),Er.val ea (strEr l)] ∧ L = [f1,f2,f3,⟨zb,0,[c0,c1,c2,c3,c4,c5,.iface src.t src.v,c7,.int .u32 ((strCrc d l : Nat) : Int),c9]⟩,⟨zb,10,bs2⟩]) := by
 refine Fn.intro (args := [.pointer (some ⟨zb,0,none⟩)]) (RR := Ret2 2 3 _) Tryd.func58 rfl rfl Tryd.ntmps58 (res2 Tryd.results58) ?_
 refine C.reenv (env2 := [(0,.pointer (some ⟨zb,0,none⟩))]) rfl ?_
 refine C.sr ?_
 refine E.pure (S.assign rfl) rfl ?_
 refine E.pure (S.assign (v := Er.val ea .none) rfl) rfl ?_
 refine E.kp [(0,_),(2,_),(3,_)] rfl ?_
 refine C.sr ?_
 refine E.pure (S.assign (v := Er.val ea .none) rfl) rfl ?_
 refine E.kp [(0,_),(2,_),(3,_),(4,_)] rfl ?_
 refine C.sr ?_
 refine E.pure (S.assign rfl) rfl ?_
 refine E.kp [(0,_),(2,_),(3,_),(4,_),(5,_)] rfl ?_
 refine C.sr ?_
 refine E.pure (S.assign rfl) rfl ?_
 refine E.kp [(0,_),(2,_),(3,_),(4,_),(5,_),(6,_)] rfl ?_
 refine C.block ?_
 refine C.loop (fun mm ee ll => ∃ (i : Nat),∃ (nc : Bool),∃ (g1 : Frag),∃ (g2 : Frag),∃ (g3 : Frag),keeps ee [0,5,6] = some [(0,.pointer (some ⟨zb,0,none⟩)),(5,.bool nc),(6,.int .i64 ((i : Nat) : Int))] ∧ ll = [g1,g2,g3,⟨zb,0,[c0,c1,c2,c3,c4,c5,.iface src.t src.v,c7,.int .u32 ((d : Nat) : Int),c9]⟩,⟨zb,10,bytesV (l.take (i)) ++ bs.drop (i)⟩] ∧ (i ≤ 512) ∧ (i ≤ l.length) ∧ (∀ c ∈ l.take i,c ≠ 0) ∧ (nc = (l.take i).any big) ∧ (src.At (l.drop i) g1 g2 g3) ∧ mm = 512 - i) (_) ⟨0,false,x1,x2,x3,rfl,rfl,by omega,by omega,by simp,rfl,hA,rfl⟩ ?_
 rintro m0 _ _ ⟨i,nc,g1,g2,g3,hk0,rfl,hi,hil,hnz,hnc,hG,hm0⟩
 refine C.weaken _ hk0 ?_
 refine C.seq ?_
 refine C.block ?_
 refine C.seq ?_
 refine C.sr ?_
 refine E.pure (S.move rfl) rfl ?_
 refine E.pure (S.ge (b := ((512 : Nat) : Int)) rfl rfl) rfl ?_
 refine E.kp [(0,_),(5,_),(6,_),(13,_)] rfl ?_
 refine C.ifp rfl (fun h13 => ?_) (fun h13 => ?_)
 ·
  obtain ⟨q1,q2,q3,q4⟩ := str_header (l := l) (by rw [show i = 512 by omega] at hnz; exact hnz) (by omega) d
  rw [show i = 512 by omega,← q2] at hG
  refine C.seq ?_
  refine C.draw [0,0,3] (.pure 1 1 (.seg [(0,2),(2,3)] .done)) mixed (by decide +kernel) ?_
  refine D.pure rfl (S.assign rfl) rfl ?_
  refine D.seg (by decide) ?_
  refine W.still rfl (S.loadBase rfl hs.g1 Tryd.isAgg59) rfl ?_
  refine W.pure rfl (S.assign rfl) rfl ?_
  refine W.nil ?_
  refine D.kp [(0,_),(2,_),(3,_),(5,_),(6,_),(13,_)] rfl ?_
  refine C.ret ?_
  exact ⟨_,_,rfl,rfl,g1,g2,g3,(bytesV (l.take i) ++ bs.drop i),hG,by rw [List.length_append,bytesV_length,List.length_take,List.length_drop]; omega,by first | (rw [q3,q1]; rfl) | rw [q3,q1],by first | (rw [q4]; rfl) | rw [q4]⟩
 refine C.skip ?_
 refine C.seq ?_
 refine C.draw [0,0,0,4,8,16,32,64,128,128,1,1024,2559,4607,16383] (.pure 0 1022 (.pure 1 4093 (.pure 2 3075 (.pure 3 3079 (.pure 4 3087 (.pure 10 1023 (.pure 11 2047 (.seg [(5,3103)] (.alt 6 (.pure 7 3199 (.pure 8 3839 (.pure 9 15871 (.pure 12 4095 (.alt 13 (.pure 14 16383 .done) .stop))))) .stop))))))))) mixed (by decide +kernel) ?_
 refine D.pure rfl (S.move rfl) rfl ?_
 refine D.pure rfl (S.move rfl) rfl ?_
 refine D.pure rfl (S.move rfl) rfl ?_
 refine D.pure rfl (S.nilPtr rfl) rfl ?_
 refine D.pure rfl (S.field rfl fa76_1) rfl ?_
 refine D.pure rfl (S.nilPtr rfl) rfl ?_
 refine D.pure rfl (S.field rfl fa76_5) rfl ?_
 refine D.seg (by decide) ?_
 refine W.still rfl (S.load 3 (k := 6) rfl rfl rfl Tryd.isAgg71) rfl ?_
 refine W.nil ?_
 refine D.one ?_
 refine O.loud1 rfl (OpX.pick [0,0,0] (F := [_,_]) rfl (X.invoke rfl rfl src.mByte src.cByte (src.byte _ _ _ _ hG))) rfl ?_; rintro _ _ ⟨_,⟨f1,f2,f3,hF,rfl,rfl⟩,rfl⟩; refine D.relist (L2 := [_,_,_,_,_]) rfl ?_
 refine D.pure rfl (S.move rfl) rfl ?_
 refine D.pure rfl (S.extract rfl rfl) rfl ?_
 refine D.pure rfl (S.extract rfl rfl) rfl ?_
 refine D.pure rfl (S.ixArr rfl rfl (by omega) Tryd.underlying74 Tryd.sizeOf5) rfl ?_
 refine D.reslot (v := .pointer (some ⟨zb,10 + i,none⟩)) (ptr_to (by omega)) ?_
 refine D.one ?_
 refine O.loud0 rfl (X.store 4 (k := i) rfl rfl rfl rfl (by rw [Nat.blt_eq,List.length_append,bytesV_length,List.length_take,List.length_drop]; omega) Tryd.sizeOf5) ?_; rintro _ _ ⟨rfl,rfl⟩; refine D.relist (L2 := [_,_,_,_,_]) rfl ?_
 refine D.pure rfl (S.assign rfl) rfl ?_
 refine D.kp [(0,_),(4,_),(5,_),(6,_),(13,_)] rfl ?_
 refine C.seq ?_
 refine C.sr ?_
 refine E.pure (S.move rfl) rfl ?_
 refine E.still (S.neErNil rfl) rfl ?_
 refine E.kp [(0,_),(4,_),(5,_),(6,_),(13,_),(29,_)] rfl ?_
 first | refine C.ifp rfl (fun h29 => ?_) (fun h29 => ?_) | refine C.ifNone rfl (fun h29 => ?_) (fun h29 => ?_) | refine C.ifSome rfl (fun h29 => ?_) (fun h29 => ?_) | refine C.ifSe rfl (fun h29 => ?_) (fun h29 => ?_) | refine C.ifNotSe rfl (fun h29 => ?_) (fun h29 => ?_) | refine C.cond rfl (fun h29 => ?_) (fun h29 => ?_)
 ·
  have hz : l.drop i = [] := by
    cases hq : l.drop i with
    | nil => rfl
    | cons c r => rw [hq] at h29; exact absurd rfl h29
  have hz2 := List.drop_eq_nil_iff.1 hz
  have hlen : (bytesV (l.take i)).length = i := by rw [bytesV_length,List.length_take]; omega
  obtain ⟨q1,q2,q3,q4⟩ := str_eof (l := l) (by rw [List.take_of_length_le hz2] at hnz; exact hnz) (by omega) d
  rw [hz,show [].drop 1 = l.drop (strUsed l) by rw [q2,List.drop_length]; rfl] at hF
  have q5 : rdErr (l.drop i) = .eof := by rw [hz]; rfl
  refine C.sr ?_
  refine E.pure (S.move rfl) rfl ?_
  refine E.pure (S.assign rfl) rfl ?_
  refine E.pure (S.assign rfl) rfl ?_
  refine E.kp [(0,_),(2,_),(3,_),(4,_),(5,_),(6,_),(13,_),(29,_)] rfl ?_
  refine C.ret ?_
  exact ⟨_,_,rfl,rfl,f1,f2,f3,((bytesV (l.take i) ++ bs.drop i).set i (.int .u8 ((rdByte (l.drop i) : Nat) : Int))),hF,by rw [List.length_set,List.length_append,bytesV_length,List.length_take,List.length_drop]; omega,by first | (rw [q3,q1,q5]; rfl) | rw [q3,q1,q5],by first | (rw [q4]; rfl) | rw [q4]⟩
 have hi3 : i < l.length := by
   rcases Nat.lt_or_ge i l.length with h | h
   · exact h
   · rw [List.drop_eq_nil_of_le h] at h29; cases h29
 have hcons : l.drop i = l[i]::l.drop (i + 1) := List.drop_eq_getElem_cons hi3
 have hrb : rdByte (l.drop i) = l[i].toNat := by rw [hcons]; rfl
 rw [hcons,List.drop_succ_cons,List.drop_zero] at hF
 refine C.relist (L2 := [f1,f2,f3,⟨zb,0,[c0,c1,c2,c3,c4,c5,.iface src.t src.v,c7,.int .u32 ((d : Nat) : Int),c9]⟩,⟨zb,10,bytesV (l.take (i + 1)) ++ bs.drop (i + 1)⟩]) (by rw [hrb]; exact congrArg (fun x => [f1,f2,f3,⟨zb,0,[c0,c1,c2,c3,c4,c5,.iface src.t src.v,c7,.int .u32 ((d : Nat) : Int),c9]⟩,(⟨zb,10,x⟩ : Frag)]) (buf_set hi3 (by omega) hbs)) ?_
 have hget := buf_get (bs := bs) hi3
 have hc8 := l[i].toNat_lt
 refine C.skip ?_
 refine C.cut (M := fun ee ll => ∃ (nc2 : Bool),keeps ee [0,5,6] = some [(0,.pointer (some ⟨zb,0,none⟩)),(5,.bool nc2),(6,.int .i64 ((i : Nat) : Int))] ∧ ll = [f1,f2,f3,⟨zb,0,[c0,c1,c2,c3,c4,c5,.iface src.t src.v,c7,.int .u32 ((d : Nat) : Int),c9]⟩,⟨zb,10,bytesV (l.take (i + 1)) ++ bs.drop (i + 1)⟩] ∧ (nc2 = (l.take (i + 1)).any big)) ?_ ?_
 ·
  refine C.sr ?_
  refine E.pure (S.move rfl) rfl ?_
  refine E.pure (S.move rfl) rfl ?_
  refine E.pure (S.nilPtr rfl) rfl ?_
  refine E.pure (S.field rfl fa76_5) rfl ?_
  refine E.pure (S.ixArr rfl rfl (by omega) Tryd.underlying74 Tryd.sizeOf5) rfl ?_
  refine E.reslot (v := .pointer (some ⟨zb,10 + i,none⟩)) (ptr_to (by omega)) ?_
  refine E.still (S.load 4 (k := i) rfl rfl hget Tryd.isAgg5) rfl ?_
  refine E.pure (S.gt (b := ((127 : Nat) : Int)) rfl rfl) rfl ?_
  refine E.kp [(0,_),(4,_),(5,_),(6,_),(13,_),(29,_),(37,_)] rfl ?_
  refine C.ifp rfl (fun h37 => ?_) (fun h37 => ?_)
  ·
   refine C.region ?_
   refine E.pure (S.assign rfl) rfl ?_
   refine E.kp [(0,_),(4,_),(5,_),(6,_),(13,_),(29,_),(37,_)] rfl ?_
   exact ⟨true,rfl,rfl,any_true hi3 h37⟩
  refine C.skip ?_
  first | exact ⟨true,rfl,rfl,any_true hi3 h37⟩ | exact ⟨nc,rfl,rfl,any_keep hi3 hnc h37⟩
 rintro _ _ ⟨nc2,hq12,rfl,hnc2⟩
 refine C.weaken _ hq12 ?_
 refine C.sr ?_
 refine E.pure (S.move rfl) rfl ?_
 refine E.pure (S.move rfl) rfl ?_
 refine E.pure (S.nilPtr rfl) rfl ?_
 refine E.pure (S.field rfl fa76_5) rfl ?_
 refine E.pure (S.ixArr rfl rfl (by omega) Tryd.underlying74 Tryd.sizeOf5) rfl ?_
 refine E.reslot (v := .pointer (some ⟨zb,10 + i,none⟩)) (ptr_to (by omega)) ?_
 refine E.still (S.load 4 (k := i) rfl rfl hget Tryd.isAgg5) rfl ?_
 refine E.pure (S.eq (b := ((0 : Nat) : Int)) rfl rfl) rfl ?_
 refine E.kp [(0,_),(5,_),(6,_),(44,_)] rfl ?_
 refine C.ifp rfl (fun h44 => ?_) (fun h44 => ?_)
 ·
  have h0 : l[i]? = some 0 := by rw [List.getElem?_eq_getElem hi3,Option.some.injEq]; exact UInt8.toNat_inj.1 (by simpa using h44)
  obtain ⟨q1,q2,q3,q4⟩ := str_ok hnz h0 (by omega) d
  rw [← q2] at hF
  have hlt1 : (l.take (i + 1)).length = i + 1 := by rw [List.length_take]; omega
  have hlt0 : (l.take i).length = i := by rw [List.length_take]; omega
  refine C.seq ?_
  refine C.draw [0,0,2,4,8,0,32,64,0,256,640,1040,4095,8191,12287] (.pure 0 4094 (.pure 1 2017 (.pure 2 2019 (.pure 3 2023 (.pure 5 799 (.pure 6 831 (.pure 7 895 (.pure 8 255 (.pure 9 511 (.pure 10 1023 (.seg [(4,2031)] (.alt 11 (.pure 12 4095 (.pure 13 8191 (.alt 14 .done .stop))) .stop)))))))))))) mixed (by decide +kernel) ?_
  refine D.pure rfl (S.move rfl) rfl ?_
  refine D.pure rfl (S.move rfl) rfl ?_
  refine D.pure rfl (S.nilPtr rfl) rfl ?_
  refine D.pure rfl (S.field rfl fa76_3) rfl ?_
  refine D.pure rfl (S.move rfl) rfl ?_
  refine D.pure rfl (S.nilPtr rfl) rfl ?_
  refine D.pure rfl (S.field rfl fa76_5) rfl ?_
  refine D.pure rfl (S.move rfl) rfl ?_
  refine D.pure rfl (S.add (b := ((1 : Nat) : Int)) rfl rfl (N.add64 (by omega))) rfl ?_
  refine D.pure rfl (S.slArr (l := 0) (k := .i64) rfl rfl rfl (by omega) (by omega) Tryd.underlying74 Tryd.sizeOf5) rfl ?_
  refine D.reslot (v := .slice (some ⟨zb,10,none⟩) ((l.take (i + 1)).length) (512)) (slice_to (by simp [part]) (by rw [hlt1]; rfl) rfl) ?_
  refine D.seg (by decide) ?_
  refine W.still rfl (S.load 3 (k := 8) rfl rfl rfl Tryd.isAgg52) rfl ?_
  refine W.nil ?_
  refine D.one ?_
  refine O.loud1 rfl (X.call rfl Tryd.call44 (UpdateIEEE_spec d zb 10 512 (l.take (i + 1)) hd (Reads.frag (i := 4) (k := 0) rfl buf_part) (by omega) (by omega))) rfl ?_; rintro _ _ ⟨rfl,rfl⟩; refine D.relist (L2 := [_,_,_,_,_]) rfl ?_
  refine D.pure rfl (S.nilPtr rfl) rfl ?_
  refine D.pure rfl (S.field rfl fa76_3) rfl ?_
  refine D.one ?_
  refine O.loud0 rfl (X.store 3 (k := 8) rfl rfl rfl rfl rfl Tryd.sizeOf52) ?_; rintro _ _ ⟨rfl,rfl⟩; refine D.relist (L2 := [_,_,_,_,_]) rfl ?_
  refine D.kp [(0,_),(5,_),(6,_),(44,_)] rfl ?_
  refine C.seq ?_
  refine C.sr ?_
  refine E.pure (S.move rfl) rfl ?_
  refine E.kp [(0,_),(5,_),(6,_),(44,_),(59,_)] rfl ?_
  first | refine C.ifp rfl (fun h59 => ?_) (fun h59 => ?_) | refine C.ifNone rfl (fun h59 => ?_) (fun h59 => ?_) | refine C.ifSome rfl (fun h59 => ?_) (fun h59 => ?_) | refine C.ifSe rfl (fun h59 => ?_) (fun h59 => ?_) | refine C.ifNotSe rfl (fun h59 => ?_) (fun h59 => ?_) | refine C.cond rfl (fun h59 => ?_) (fun h59 => ?_)
  ·
   refine C.sr ?_
   refine E.pure (S.move rfl) rfl ?_
   refine E.loud1 (X.make (l := 0) (c := i) (bytes := 4) Tryd.underlying140 infoI32 (z := .int .i32 0) rfl rfl rfl rfl rfl rfl (by omega) (by omega) (by omega)) rfl ?_; rintro _ _ ⟨b,rfl,rfl⟩; refine E.relist (L2 := [_,_,_,_,_,_]) rfl ?_
   refine E.pure (S.assign rfl) rfl ?_
   refine E.kp [(0,_),(5,_),(6,_),(7,_),(44,_),(59,_)] rfl ?_
   refine C.seq ?_
   refine C.sr ?_
   refine E.pure (S.move rfl) rfl ?_
   refine E.pure (S.nilPtr rfl) rfl ?_
   refine E.pure (S.field rfl fa76_5) rfl ?_
   refine E.pure (S.move rfl) rfl ?_
   refine E.pure (S.slArr (l := 0) (k := .i64) rfl rfl rfl (by omega) (by omega) Tryd.underlying74 Tryd.sizeOf5) rfl ?_
   refine E.reslot (v := .slice (some ⟨zb,10,none⟩) ((l.take i).length) (512)) (slice_to (by simp [part]) (by rw [hlt0]; rfl) rfl) ?_
   refine E.pure (S.lenSl rfl Tryd.underlying22) rfl ?_
   refine E.reslot (v := .int .i64 ((i : Nat) : Int)) (by rw [hlt0]) ?_
   refine E.pure (S.move rfl) rfl ?_
   refine E.kp [(0,_),(5,_),(6,_),(7,_),(44,_),(59,_),(66,_),(67,_),(68,_)] rfl ?_
   refine C.block ?_
   refine C.loop (fun mm ee ll => ∃ (j : Nat),∃ (b : Nat),∃ (o : Nat),∃ (c : Nat),∃ (cs : List Value),keeps ee [0,7,66,67,68] = some [(0,.pointer (some ⟨zb,0,none⟩)),(7,.slice (some ⟨b,o,none⟩) (j) (c)),(66,.slice (some ⟨zb,10,none⟩) ((l.take i).length) (512)),(67,.int .i64 ((i : Nat) : Int)),(68,.int .i64 ((j : Nat) : Int))] ∧ ll = [⟨b,o,cs⟩,f1,f2,f3,⟨zb,0,[c0,c1,c2,c3,c4,c5,.iface src.t src.v,c7,.int .u32 ((crcOn IEEE d (l.take (i + 1)) : Nat) : Int),c9]⟩,⟨zb,10,bytesV (l.take (i + 1)) ++ bs.drop (i + 1)⟩] ∧ (j ≤ i) ∧ (cs.take j = runesV (l.take j)) ∧ (cs.length = c) ∧ (j ≤ c) ∧ (c ≤ 9223372036854775807) ∧ mm = i - j) (_) ⟨0,_,_,_,_,rfl,rfl,by omega,by simp [runesV],List.length_replicate,by omega,by omega,rfl⟩ ?_
   rintro m1 _ _ ⟨j,b,o,c,cs,hk1,rfl,hj,hcs,hcl,hjc,hcm,hm1⟩
   refine C.weaken _ hk1 ?_
   refine C.sr ?_
   refine E.pure (S.lt rfl rfl) rfl ?_
   refine E.kp [(0,_),(7,_),(66,_),(67,_),(68,_),(69,_)] rfl ?_
   refine C.seq ?_
   refine C.ifp rfl (fun h69 => ?_) (fun h69 => ?_)
   ·
    have hj3 : j < l.length := by omega
    have hj4 : (l.take i)[j]? = some l[j] := by rw [List.getElem?_take,if_pos (by omega),List.getElem?_eq_getElem hj3]
    have hgj : (bytesV (l.take (i + 1)) ++ bs.drop (i + 1))[j]? = some (u8 l[j]) := by
      rw [List.getElem?_append_left (by rw [bytesV_length,hlt1]; omega),bytesV_get (by rw [hlt1]; omega)]
      simp
    have hc9 := l[j].toNat_lt
    refine C.skip ?_
    refine C.seq ?_
    refine C.block ?_
    refine C.sr ?_
    refine E.pure (S.ixSl rfl rfl (by omega) Tryd.underlying22 Tryd.sizeOf5) rfl ?_
    refine E.reslot (v := .pointer (some ⟨zb,10 + j,none⟩)) (ptr_to (by omega)) ?_
    refine E.still (S.load 5 (k := j) rfl rfl hgj Tryd.isAgg5) rfl ?_
    refine E.pure (S.assign rfl) rfl ?_
    refine E.kp [(0,_),(7,_),(9,_),(66,_),(67,_),(68,_),(69,_)] rfl ?_
    refine C.region ?_
    refine E.pure (S.move rfl) rfl ?_
    refine E.pure (S.move rfl) rfl ?_
    refine E.pure (S.conv (r := ((l[j].toNat : Nat) : Int)) rfl Tryd.underlying5 Tryd.underlying21 (IntWalk.i32_in _ (by omega))) rfl ?_
    refine E.loud1 (X.buildSlice (vs := [.int .i32 ((l[j].toNat : Nat) : Int)]) (e := 21) (i := Tryd.t21) (z := .int .i32 0) (fun w => by simp [Instr.buildSlice,Instr.fill,Value.cells,newRow,ev?,get?,Tryd.runUnderlying140,Tryd.typeInfo21]; rw [arr1]) rfl) rfl ?_; rintro _ _ ⟨yb,rfl,rfl⟩; refine E.relist (L2 := [_,_,_,_,_,_,_]) rfl ?_
    refine E.perml [1,0,0,0,0,0,0] (A := [_,_,_,_,_,_,_]) (F := []) rfl ?_
    refine E.loud1 (X.appendRune rfl rfl hcs hcl hjc hcm (by omega)) rfl ?_; rintro _ _ ⟨b2,o2,k2,cs2,rfl,hcs2,hcl2,hjc2,hcm2,rfl⟩; refine E.relist (L2 := [_,_,_,_,_,_,_]) rfl ?_
    rw [← runesV_snoc hj3] at hcs2
    refine E.pure (S.assign rfl) rfl ?_
    refine E.forget [0,1,1,1,1,1] (A := [_,_,_,_,_,_]) rfl ?_
    refine E.kp [(0,_),(7,_),(9,_),(66,_),(67,_),(68,_),(69,_)] rfl ?_
    refine C.region ?_
    refine E.pure (S.add (b := ((1 : Nat) : Int)) rfl rfl (N.add64 (by omega))) rfl ?_
    refine E.pure (S.move rfl) rfl ?_
    refine E.kp [(0,_),(7,_),(9,_),(66,_),(67,_),(68,_),(69,_)] rfl ?_
    refine ⟨_,?_,j + 1,_,_,_,_,rfl,rfl,by omega,hcs2,hcl2,by omega,hcm2,rfl⟩; omega
   have hji : j = i := by omega
   subst hji
   refine C.exit rfl ?_
   refine C.sr ?_
   refine E.pure (S.move rfl) rfl ?_
   refine E.still (S.runesStr (zs := (l.take j).map fun c => ((c.toNat : Nat) : Int)) Tryd.underlying140 Tryd.underlying21 Tryd.underlying9 rfl (by simp; omega) (by rw [List.map_map]; exact Reads.frag (i := 0) (k := 0) rfl (by rw [List.length_map,List.length_take,Nat.min_eq_left (by omega),List.drop_zero,hcs]; rfl))) rfl ?_
   refine E.reslot (v := .string (latin (l.take j))) (by unfold latin; rfl) ?_
   refine E.forget [1,1,1,1,1] (A := [_,_,_,_,_]) rfl ?_
   refine E.pure (S.assign rfl) rfl ?_
   refine E.pure (S.assign (v := Er.val ea .none) rfl) rfl ?_
   refine E.kp [(0,_),(2,_),(3,_),(7,_),(66,_),(67,_),(68,_),(69,_)] rfl ?_
   refine C.ret ?_
   exact ⟨_,_,rfl,rfl,f1,f2,f3,(bytesV (l.take (j + 1)) ++ bs.drop (j + 1)),hF,by rw [List.length_append,bytesV_length,List.length_take,List.length_drop]; omega,by first | (rw [q3,q1]; rfl) | rw [q3,q1],by first | (rw [q4]; rfl) | rw [q4]⟩
  have hasc : ∀ c ∈ l.take i,c.toNat ≤ 127 := by
    rw [any_snoc hi3] at hnc2
    rw [hnc2] at h59
    exact none_big (Bool.or_eq_false_iff.1 h59).1
  refine C.skip ?_
  refine C.sr ?_
  refine E.pure (S.move rfl) rfl ?_
  refine E.pure (S.nilPtr rfl) rfl ?_
  refine E.pure (S.field rfl fa76_5) rfl ?_
  refine E.pure (S.move rfl) rfl ?_
  refine E.pure (S.slArr (l := 0) (k := .i64) rfl rfl rfl (by omega) (by omega) Tryd.underlying74 Tryd.sizeOf5) rfl ?_
  refine E.reslot (v := .slice (some ⟨zb,10,none⟩) ((l.take i).length) (512)) (slice_to (by simp [part]) (by rw [hlt0]; rfl) rfl) ?_
  refine E.still (S.bytesStr (l := l.take i) Tryd.underlying22 Tryd.underlying5 Tryd.underlying9 rfl (.inr ⟨_,_,rfl,Reads.frag (i := 4) (k := 0) rfl (buf_part1 hi3)⟩)) rfl ?_
  refine E.reslot (v := .string (latin (l.take i))) (by rw [latin_ascii hasc]) ?_
  refine E.pure (S.assign rfl) rfl ?_
  refine E.pure (S.assign (v := Er.val ea .none) rfl) rfl ?_
  refine E.kp [(0,_),(2,_),(3,_),(5,_),(6,_),(44,_),(59,_)] rfl ?_
  refine C.ret ?_
  exact ⟨_,_,rfl,rfl,f1,f2,f3,(bytesV (l.take (i + 1)) ++ bs.drop (i + 1)),hF,by rw [List.length_append,bytesV_length,List.length_take,List.length_drop]; omega,by first | (rw [q3,q1]; rfl) | rw [q3,q1],by first | (rw [q4]; rfl) | rw [q4]⟩
 have hnz2 : ∀ c ∈ l.take (i + 1),c ≠ 0 := by
   rw [take_snoc hi3]
   intro c hc
   rcases List.mem_append.1 hc with h | h
   · exact hnz c h
   · rw [List.mem_singleton.1 h]; intro hz; rw [hz] at h44; exact h44 rfl
 refine C.skip ?_
 refine C.region ?_
 refine E.pure (S.move rfl) rfl ?_
 refine E.pure (S.add (b := ((1 : Nat) : Int)) rfl rfl (N.add64 (by omega))) rfl ?_
 refine E.pure (S.assign rfl) rfl ?_
 refine E.kp [(0,_),(5,_),(6,_),(44,_)] rfl ?_
 refine ⟨_,?_,i + 1,nc2,f1,f2,f3,rfl,rfl,by omega,by omega,hnz2,hnc2,hF,rfl⟩; omega
end Go.Eng
namespace Go.Eng
open Go Go.Proofs

instance (e : Er) : Decidable (e = .none) := decidable_of_iff (e.isNone = true) Er.isNone_iff

structure Hd where
  name : ByteArray
  comment : ByteArray
  extra : Option (List UInt8)
  mod : Nat
  os : Nat

def noHd : Hd := ⟨⟨#[]⟩,⟨#[]⟩,none,0,0⟩

def le16of (l : List UInt8) : Nat := le16 (l.getD 0 0).toNat (l.getD 1 0).toNat

def rd4 (l : List UInt8) (flg d : Nat) (h : Hd) : Er × List UInt8 × Hd :=
  if flg &&& 2 = 0 then (.none,l,h)
  else if fullErr l 2 ≠ .none then (noEof (fullErr l 2),l.drop 2,h)
  else if le16of l ≠ d % 65536 then (.header,l.drop 2,h)
  else (.none,l.drop 2,h)

def rd3 (l : List UInt8) (flg d : Nat) (h : Hd) : Er × List UInt8 × Hd :=
  if flg &&& 16 = 0 then rd4 l flg d h
  else if strEr l ≠ .none then (noEof (strEr l),l.drop (strUsed l),h)
  else rd4 (l.drop (strUsed l)) flg (strCrc d l) { h with comment := strTxt l }

def rd2 (l : List UInt8) (flg d : Nat) (h : Hd) : Er × List UInt8 × Hd :=
  if flg &&& 8 = 0 then rd3 l flg d h
  else if strEr l ≠ .none then (noEof (strEr l),l.drop (strUsed l),h)
  else rd3 (l.drop (strUsed l)) flg (strCrc d l) { h with name := strTxt l }

def rd1 (l : List UInt8) (flg d : Nat) (h : Hd) : Er × List UInt8 × Hd :=
  if flg &&& 4 = 0 then rd2 l flg d h
  else if fullErr l 2 ≠ .none then (noEof (fullErr l 2),l.drop 2,h)
  else if fullErr (l.drop 2) (le16of l) ≠ .none then (noEof (fullErr (l.drop 2) (le16of l)),(l.drop 2).drop (le16of l),h)
  else rd2 ((l.drop 2).drop (le16of l)) flg (crcOn IEEE (crcOn IEEE d (l.take 2)) ((l.drop 2).take (le16of l))) { h with extra := some ((l.drop 2).take (le16of l)) }

/-- What readHeader makes of bytes: how it ends,what is left,the header. -/
def readHead (l : List UInt8) : Er × List UInt8 × Hd :=
  if fullErr l 10 ≠ .none then (fullErr l 10,l.drop 10,noHd)
  else if (l.getD 0 0).toNat = 31 ∧ (l.getD 1 0).toNat = 139 ∧ (l.getD 2 0).toNat = 8 then
    rd1 (l.drop 10) (l.getD 3 0).toNat (crcOn IEEE 0 (l.take 10)) { noHd with mod := le32 (l.getD 4 0).toNat (l.getD 5 0).toNat (l.getD 6 0).toNat (l.getD 7 0).toNat,os := (l.getD 9 0).toNat }
  else (.header,l.drop 10,noHd)

theorem fullErr_ne {l : List UInt8} {m : Nat} : fullErr l m ≠ .none ↔ l.length < m := by
  unfold fullErr
  split
  · simp; omega
  · split <;> simp <;> omega

theorem ten {l : List UInt8} (h : fullErr l 10 = .none) : ∃ v0 v1 v2 v3 v4 v5 v6 v7 v8 v9 r,l = v0::v1::v2::v3::v4::v5::v6::v7::v8::v9::r := by
  have hl : 10 ≤ l.length := by
    rcases Nat.lt_or_ge l.length 10 with h1 | h1
    · exact absurd h (fullErr_ne.2 h1)
    · exact h1
  match l,hl with
  | a0::a1::a2::a3::a4::a5::a6::a7::a8::a9::r,_ => exact ⟨_,_,_,_,_,_,_,_,_,_,_,rfl⟩

theorem two {l : List UInt8} (h : fullErr l 2 = .none) : ∃ v0 v1 r,l = v0::v1::r := by
  have hl : 2 ≤ l.length := by
    rcases Nat.lt_or_ge l.length 2 with h1 | h1
    · exact absurd h (fullErr_ne.2 h1)
    · exact h1
  match l,hl with
  | a0::a1::r,_ => exact ⟨_,_,_,rfl⟩

theorem full_len {l : List UInt8} {m : Nat} (h : fullErr l m = .none) : m ≤ l.length := by
  rcases Nat.lt_or_ge l.length m with h1 | h1
  · exact absurd h (fullErr_ne.2 h1)
  · exact h1

theorem readHead_cons (v0 v1 v2 v3 v4 v5 v6 v7 v8 v9 : UInt8) (r : List UInt8) : readHead (v0::v1::v2::v3::v4::v5::v6::v7::v8::v9::r) =
    if v0.toNat = 31 ∧ v1.toNat = 139 ∧ v2.toNat = 8 then rd1 r v3.toNat (crcOn IEEE 0 [v0,v1,v2,v3,v4,v5,v6,v7,v8,v9]) { noHd with mod := le32 v4.toNat v5.toNat v6.toNat v7.toNat,os := v9.toNat } else (.header,r,noHd) := by
  have : ¬ fullErr (v0::v1::v2::v3::v4::v5::v6::v7::v8::v9::r) 10 ≠ .none := by rw [fullErr_ne]; simp only [List.length_cons]; omega
  rw [readHead,if_neg this]
  rfl

theorem readHead_bad {l : List UInt8} (h : fullErr l 10 ≠ .none) : readHead l = (fullErr l 10,l.drop 10,noHd) := by rw [readHead,if_pos h]

/-- The slice of the extra field,with its fragment (an empty one beside another where there is none). -/
def ExAt (ex : Option (List UInt8)) (xa : Option Addr) (xn : Nat) (g : Frag) : Prop := match ex with
  | none => xa = none ∧ xn = 0 ∧ g.cs = []
  | some data => ∃ b,xa = some ⟨b,0,none⟩ ∧ xn = data.length ∧ g = ⟨b,0,bytesV data⟩ ∧ data.length < 65536

/-- A time of so many seconds; 0: none. -/
def timeN (t : Nat) : Nat := if t = 0 then 0 else t + 62135596800
def timeV (t : Nat) : Int := ((timeN t : Nat) : Int)

theorem timeV_pos {t : Nat} (h : ((0 : Nat) : Int) < ((t : Nat) : Int)) : ((t + 62135596800 : Nat) : Int) = timeV t := by rw [timeV,timeN,if_neg (by omega)]
theorem timeV_zero {t : Nat} (h : ¬ ((0 : Nat) : Int) < ((t : Nat) : Int)) : (0 : Int) = timeV t := by rw [timeV,timeN,if_pos (by omega)]; rfl

def headV (h : Hd) (xa : Option Addr) (xn : Nat) : List Value := [.string h.comment,.slice xa xn xn,.int .u64 0,.int .i64 (timeV h.mod),.string h.name,.int .u8 ((h.os : Nat) : Int)]

theorem Same.addEmpty {L : Frags} {f : Frag} (hm : f ∈ L) (o' : Nat) : Same L (⟨f.b,o',[]⟩::L) := by
  obtain ⟨A,B,rfl⟩ := List.append_of_mem hm
  have s1 : Same (A ++ f::B) (f::(A ++ B)) := Same.perm List.perm_middle
  have s2 : Same (f::(A ++ B)) (f::⟨f.b,o',[]⟩::(A ++ B)) := Same.empty f.b f.o o' f.cs (A ++ B)
  have s3 : Same (f::⟨f.b,o',[]⟩::(A ++ B)) (⟨f.b,o',[]⟩::(A ++ f::B)) := Same.perm ((List.Perm.swap _ _ _).trans (List.perm_middle.symm.cons _))
  exact (s1.trans s2).trans s3

section
variable {P : Program} {K : Known}

/-- What is of no more use is dropped. -/
theorem Fn.lose {f : FuncId} {args : Array Value} {L : Frags} {R R' : Value → Frags → Prop} (h : Fn P K f args L R) (s : ∀ v L',R v L' → ∃ A F,Same L' (A ++ F) ∧ R' v A) : Fn P K f args L R' :=
  fun w hw => Calls.mono (h w hw) fun _ _ ⟨v,L',e,r,t⟩ => by
    obtain ⟨A,F,h1,h2⟩ := s v L' r
    exact ⟨v,A,e,h2,(t.sameR h1).drop⟩
end

theorem noEof_ne {e : Er} (h : e ≠ .none) : noEof e ≠ .none := by
  by_cases h2 : e = .se 0
  · rw [noEof_eof h2]; simp
  · rw [noEof_other h2]; exact h

theorem strCrc_lt {d : Nat} (h : d < 4294967296) (l : List UInt8) : strCrc d l < 4294967296 := by
  unfold strCrc
  split
  · exact crcOn_lt (by decide) h _
  · exact h

theorem buf_full {bs : List Value} {l : List UInt8} {m : Nat} (hm : m ≤ l.length) : bytesV (l.take m) ++ (bs.take m).drop (Nat.min m l.length) = bytesV (l.take m) := by
  have : Nat.min m l.length = m := Nat.min_eq_left hm
  rw [this,List.drop_eq_nil_of_le (by rw [List.length_take]; omega),List.append_nil]

theorem full_all {cs : List Value} {l : List UInt8} {m : Nat} (hm : m ≤ l.length) (hc : cs.length = m) : bytesV (l.take m) ++ cs.drop (Nat.min m l.length) = bytesV (l.take m) := by
  have : Nat.min m l.length = m := Nat.min_eq_left hm
  rw [this,List.drop_eq_nil_of_le (by omega),List.append_nil]

theorem part_all {l : List UInt8} : ((bytesV l).drop 0).take (bytesV l).length = bytesV l := by rw [List.drop_zero,List.take_length]

/-- A buffer's beginning is read anew. -/
theorem buf_join {bs : List Value} {l : List UInt8} {m : Nat} (hm : m ≤ bs.length) : (bytesV (l.take m) ++ (bs.take m).drop (Nat.min m l.length) ++ bs.drop m).length = bs.length := by
  have : Nat.min m l.length = min m l.length := rfl
  simp only [List.length_append,bytesV_length,List.length_take,List.length_drop,this]
  omega
end Go.Eng
namespace Go.Eng

/-- The n lowest bits of c,turned round. -/
def revB : Nat → Nat → Nat
  | 0,_ => 0
  | n + 1,c => (c % 2) * 2 ^ n + revB n (c / 2)

theorem revB_lt : ∀ n c,revB n c < 2 ^ n
  | 0,_ => by simp [revB]
  | n + 1,c => by
    have h := revB_lt n (c / 2)
    have h2 : c % 2 ≤ 1 := by omega
    have h3 : (c % 2) * 2 ^ n ≤ 1 * 2 ^ n := Nat.mul_le_mul_right _ h2
    rw [revB,Nat.pow_succ]; omega

theorem revB_succ : ∀ n S,revB (n + 1) S = 2 * revB n S + (S / 2 ^ n) % 2
  | 0,S => by simp [revB]
  | n + 1,S => by
    rw [revB,revB_succ n (S / 2)]
    rw [show revB (n + 1) S = (S % 2) * 2 ^ n + revB n (S / 2) from rfl,Nat.div_div_eq_div_mul,Nat.pow_succ,Nat.mul_comm 2 (2 ^ n),Nat.mul_add,← Nat.mul_assoc,Nat.add_assoc]
    congr 1
    exact Nat.mul_comm _ _

theorem revB_mod : ∀ n S,revB n (S % 2 ^ n) = revB n S
  | 0,S => rfl
  | n + 1,S => by
    have h1 : S % 2 ^ (n + 1) % 2 = S % 2 := Nat.mod_mod_of_dvd _ ⟨2 ^ n,by rw [Nat.pow_succ,Nat.mul_comm]⟩
    have h2 : S % 2 ^ (n + 1) / 2 = (S / 2) % 2 ^ n := by
      rw [Nat.pow_succ,Nat.mul_comm]; exact Nat.mod_mul_right_div_self S 2 (2 ^ n)
    rw [revB,revB,h1,h2,revB_mod n (S / 2)]

theorem revB_rev : ∀ n c,c < 2 ^ n → revB n (revB n c) = c
  | 0,c,h => by simp at h; subst h; rfl
  | n + 1,c,h => by
    have e := revB_succ n c
    have hb : (c / 2 ^ n) % 2 = c / 2 ^ n := Nat.mod_eq_of_lt (by
      rw [Nat.div_lt_iff_lt_mul (Nat.pow_pos (by omega))]; rw [Nat.pow_succ] at h; omega)
    have h1 : revB (n + 1) c % 2 = c / 2 ^ n := by rw [e]; omega
    have h2 : revB (n + 1) c / 2 = revB n c := by rw [e]; omega
    have h3 := revB_rev n (c % 2 ^ n) (Nat.mod_lt _ (Nat.pow_pos (by omega)))
    rw [revB,h1,h2,← revB_mod n c,h3,Nat.mul_comm]
    exact Nat.div_add_mod c (2 ^ n)

theorem revB_add : ∀ j m S,revB (m + j) S / 2 ^ j = revB m S
  | 0,m,S => by simp
  | j + 1,m,S => by
    rw [← Nat.add_assoc,revB_succ,Nat.pow_succ,Nat.mul_comm (2 ^ j) 2,← Nat.div_div_eq_div_mul,show (2 * revB (m + j) S + S / 2 ^ (m + j) % 2) / 2 = revB (m + j) S by omega,revB_add j m S]

theorem revB_prefix {m n : Nat} (h : m ≤ n) (S : Nat) : revB n S / 2 ^ (n - m) = revB m S := by
  obtain ⟨j,rfl⟩ := Nat.exists_eq_add_of_le h
  rw [Nat.add_sub_cancel_left]; exact revB_add j m S

/-- Two numbers that agree in their lowest bits. -/
theorem revB_agree {m n S T : Nat} (h : S % 2 ^ n = T % 2 ^ n) (hm : m ≤ n) : revB m S = revB m T := by
  rw [← revB_prefix hm S,← revB_prefix hm T,← revB_mod n S,← revB_mod n T,h]

theorem revB_eq_iff {n S c : Nat} (hc : c < 2 ^ n) : revB n S = c ↔ S % 2 ^ n = revB n c := by
  constructor
  · intro h
    rw [← h,← revB_mod n S,revB_rev n _ (Nat.mod_lt _ (Nat.pow_pos (by omega)))]
  · intro h
    rw [← revB_mod,h,revB_rev n c hc]

/-- How many symbols have a length. -/
def cntL (lens : List Nat) (l : Nat) : Nat := if l = 0 then 0 else lens.count l

/-- The first code of a length. -/
def firstC (lens : List Nat) : Nat → Nat
  | 0 => 0
  | l + 1 => 2 * (firstC lens l + cntL lens l)

def lenOf (lens : List Nat) (i : Nat) : Nat := lens.getD i 0
def codeOf (lens : List Nat) (i : Nat) : Nat := firstC lens (lenOf lens i) + (lens.take i).count (lenOf lens i)

/-- S begins with the code of symbol i. -/
def Mat (lens : List Nat) (i S : Nat) : Prop := 0 < lenOf lens i ∧ revB (lenOf lens i) S = codeOf lens i

instance (lens : List Nat) (i S : Nat) : Decidable (Mat lens i S) := inferInstanceAs (Decidable (_ ∧ _))

theorem lenOf_lt {lens : List Nat} {i : Nat} (h : 0 < lenOf lens i) : i < lens.length := by
  rcases Nat.lt_or_ge i lens.length with h1 | h1
  · exact h1
  · rw [lenOf,List.getD_eq_getElem?_getD,List.getElem?_eq_none h1] at h; simp at h

theorem lenOf_get {lens : List Nat} {i : Nat} (h : i < lens.length) : lenOf lens i = lens[i] := by
  rw [lenOf,List.getD_eq_getElem?_getD,List.getElem?_eq_getElem h]; rfl

theorem firstC_mono (lens : List Nat) {m : Nat} : ∀ j,(firstC lens m + cntL lens m) * 2 ^ (j + 1) ≤ firstC lens (m + j + 1)
  | 0 => by rw [show firstC lens (m + 0 + 1) = 2 * (firstC lens m + cntL lens m) from rfl]; omega
  | j + 1 => by
    have h := firstC_mono lens (m := m) j
    rw [show firstC lens (m + (j + 1) + 1) = 2 * (firstC lens (m + j + 1) + cntL lens (m + j + 1)) from rfl,Nat.pow_succ,← Nat.mul_assoc]
    omega

theorem firstC_lt (lens : List Nat) {m n : Nat} (h : m < n) : (firstC lens m + cntL lens m) * 2 ^ (n - m) ≤ firstC lens n := by
  obtain ⟨j,rfl⟩ := Nat.exists_eq_add_of_lt h
  have := firstC_mono lens (m := m) j
  rw [show m + j + 1 - m = j + 1 by omega]; exact this

/-- The lengths are no more than a code can have: none above M,and no more of them than there is room. -/
structure FitL (lens : List Nat) (M : Nat) : Prop where
  top : ∀ i,lenOf lens i ≤ M
  room : firstC lens M + cntL lens M ≤ 2 ^ M

theorem FitL.at {lens : List Nat} {M : Nat} (h : FitL lens M) {l : Nat} (hl : l ≤ M) : firstC lens l + cntL lens l ≤ 2 ^ l := by
  rcases Nat.lt_or_ge l M with h1 | h1
  · have h2 := firstC_lt lens h1
    have h3 : (firstC lens l + cntL lens l) * 2 ^ (M - l) ≤ 2 ^ l * 2 ^ (M - l) := by
      rw [← Nat.pow_add,show l + (M - l) = M by omega]
      have := h.room
      omega
    exact Nat.le_of_mul_le_mul_right h3 (Nat.pow_pos (by omega))
  · rw [show l = M by omega]; exact h.room

theorem count_take_lt {lens : List Nat} {i : Nat} (h : i < lens.length) : ∀ {j : Nat},i < j → (lens.take i).count lens[i] < (lens.take j).count lens[i] := by
  intro j hj
  have h1 : (lens.take (i + 1)).count lens[i] = (lens.take i).count lens[i] + 1 := by
    rw [List.take_add_one,List.getElem?_eq_getElem h,List.count_append]; simp
  have h2 : (lens.take (i + 1)).count lens[i] ≤ (lens.take j).count lens[i] := by
    refine List.Sublist.count_le _ ?_
    rw [show lens.take (i + 1) = (lens.take j).take (i + 1) by rw [List.take_take,Nat.min_eq_left hj]]
    exact List.take_sublist _ _
  omega

theorem count_take_of (n : Nat) : ∀ {lens : List Nat} {q : Nat},q < lens.count n → ∃ i,∃ h : i < lens.length,lens[i] = n ∧ (lens.take i).count n = q
  | [],q,h => by simp at h
  | x::r,q,h => by
    by_cases hx : x = n
    · subst hx
      cases q with
      | zero => exact ⟨0,by simp,rfl,rfl⟩
      | succ q =>
        rw [List.count_cons_self] at h
        obtain ⟨i,hi,h1,h2⟩ := count_take_of x (lens := r) (q := q) (by omega)
        exact ⟨i + 1,by simpa using hi,by simpa using h1,by rw [List.take_succ_cons,List.count_cons_self,h2]⟩
    · rw [List.count_cons_of_ne hx] at h
      obtain ⟨i,hi,h1,h2⟩ := count_take_of n (lens := r) (q := q) h
      exact ⟨i + 1,by simpa using hi,by simpa using h1,by rw [List.take_succ_cons,List.count_cons_of_ne hx,h2]⟩

theorem codeOf_lt {lens : List Nat} {i : Nat} (hi : 0 < lenOf lens i) : codeOf lens i < firstC lens (lenOf lens i) + cntL lens (lenOf lens i) := by
  have h := lenOf_lt hi
  have e := lenOf_get h
  have h1 := count_take_lt h h
  rw [List.take_length] at h1
  rw [codeOf,cntL,if_neg (by omega),e]
  omega

theorem codeOf_bound {lens : List Nat} {M i : Nat} (hf : FitL lens M) (hi : 0 < lenOf lens i) : codeOf lens i < 2 ^ lenOf lens i :=
  Nat.lt_of_lt_of_le (codeOf_lt hi) (hf.at (hf.top i))

/-- A shorter code lies wholly below a longer one. -/
theorem code_order {lens : List Nat} {i j : Nat} (hj : 0 < lenOf lens j) (h : lenOf lens j < lenOf lens i) : (codeOf lens j + 1) * 2 ^ (lenOf lens i - lenOf lens j) ≤ codeOf lens i := by
  have h1 := codeOf_lt hj
  have h2 := firstC_lt lens h
  have h3 : (codeOf lens j + 1) * 2 ^ (lenOf lens i - lenOf lens j) ≤ (firstC lens (lenOf lens j) + cntL lens (lenOf lens j)) * 2 ^ (lenOf lens i - lenOf lens j) := Nat.mul_le_mul_right _ h1
  have h4 : firstC lens (lenOf lens i) ≤ codeOf lens i := by rw [codeOf]; omega
  omega

theorem mat_len {lens : List Nat} {i j S T n : Nat} (hi : Mat lens i S) (hj : Mat lens j T) (ha : S % 2 ^ n = T % 2 ^ n) (hn : lenOf lens j ≤ n) : lenOf lens i ≤ lenOf lens j ∨ n < lenOf lens i := by
  rcases Nat.lt_or_ge (lenOf lens j) (lenOf lens i) with h | h
  · rcases Nat.lt_or_ge n (lenOf lens i) with h2 | h2
    · exact .inr h2
    · exfalso
      have h1 := code_order hj.1 h
      have e1 := revB_prefix (Nat.le_of_lt h) S
      have e2 := revB_agree ha hn
      rw [hi.2,e2,hj.2] at e1
      have h3 : codeOf lens i < (codeOf lens j + 1) * 2 ^ (lenOf lens i - lenOf lens j) := by
        rw [← Nat.div_lt_iff_lt_mul (Nat.pow_pos (by omega)),e1]; omega
      omega
  · exact .inl h

theorem mat_same {lens : List Nat} {i j S T : Nat} (hi : Mat lens i S) (hj : Mat lens j T) (hl : lenOf lens i = lenOf lens j) (he : revB (lenOf lens i) S = revB (lenOf lens i) T) : i = j := by
  have e : codeOf lens i = codeOf lens j := by rw [← hi.2,← hj.2,he,hl]
  have h1 := lenOf_lt hi.1
  have h2 := lenOf_lt hj.1
  have e1 := lenOf_get h1
  have e2 := lenOf_get h2
  rw [codeOf,codeOf,hl] at e
  have e3 : (lens.take i).count (lenOf lens j) = (lens.take j).count (lenOf lens j) := by omega
  rcases Nat.lt_trichotomy i j with h | h | h
  · have := count_take_lt h1 h
    rw [← e1,hl] at this; omega
  · exact h
  · have := count_take_lt h2 h
    rw [← e2] at this; omega

/-- At most one symbol. -/
theorem mat_unique {lens : List Nat} {i j S : Nat} (hi : Mat lens i S) (hj : Mat lens j S) : i = j := by
  have hl : lenOf lens i = lenOf lens j := by
    have a := mat_len hi hj (n := max (lenOf lens i) (lenOf lens j)) rfl (Nat.le_max_right _ _)
    have b := mat_len hj hi (n := max (lenOf lens i) (lenOf lens j)) rfl (Nat.le_max_left _ _)
    omega
  exact mat_same hi hj hl rfl

/-- Where the lowest bits are known and there are zeros behind,the length found is none too long for what may follow. -/
theorem mat_zero {lens : List Nat} {i j b S nb : Nat} (hb : b < 2 ^ nb) (hi : Mat lens i b) (hj : Mat lens j S) (ha : S % 2 ^ nb = b) : lenOf lens i ≤ lenOf lens j := by
  rcases Nat.lt_or_ge (lenOf lens j) (lenOf lens i) with h | h
  · exfalso
    rcases Nat.lt_or_ge nb (lenOf lens j) with h2 | h2
    · have h1 := code_order hj.1 h
      have e1 : revB nb b = revB nb S := by rw [← ha,revB_mod]
      have e2 := revB_prefix (Nat.le_of_lt h2) S
      rw [hj.2] at e2
      -- what follows nb bits of b are zeros
      have z : ∀ d,revB (nb + d) b = revB nb b * 2 ^ d := by
        intro d
        induction d with
        | zero => simp
        | succ d ih =>
          rw [← Nat.add_assoc,revB_succ,ih,Nat.div_eq_of_lt (Nat.lt_of_lt_of_le hb (Nat.pow_le_pow_right (by omega) (by omega))),Nat.pow_succ]
          have : (0 : Nat) % 2 = 0 := rfl
          rw [this,Nat.add_zero,Nat.mul_comm 2,Nat.mul_assoc]
      have e3 := z (lenOf lens i - nb)
      rw [show nb + (lenOf lens i - nb) = lenOf lens i by omega,hi.2,e1,← e2] at e3
      have h4 : codeOf lens j / 2 ^ (lenOf lens j - nb) * 2 ^ (lenOf lens i - nb) ≤ codeOf lens j * 2 ^ (lenOf lens i - lenOf lens j) := by
        rw [show lenOf lens i - nb = (lenOf lens j - nb) + (lenOf lens i - lenOf lens j) by omega,Nat.pow_add,← Nat.mul_assoc]
        exact Nat.mul_le_mul_right _ (Nat.div_mul_le_self _ _)
      have h5 : 0 < 2 ^ (lenOf lens i - lenOf lens j) := Nat.pow_pos (by omega)
      rw [Nat.add_mul] at h1
      omega
    · have hj' : Mat lens j b := ⟨hj.1,by rw [← hj.2]; exact (revB_agree (n := nb) (by rw [Nat.mod_eq_of_lt hb,ha]) h2)⟩
      have := mat_unique hi hj'
      subst this
      omega
  · exact h

/-- A full code: just one symbol. -/
theorem mat_some {lens : List Nat} {M : Nat} (h : firstC lens M + cntL lens M = 2 ^ M) (S : Nat) : ∃ i,Mat lens i S ∧ lenOf lens i ≤ M := by
  have key : ∀ l,(∃ i,Mat lens i S ∧ lenOf lens i ≤ l) ∨ firstC lens l + cntL lens l ≤ revB l S := by
    intro l
    induction l with
    | zero => right; simp [firstC,cntL]
    | succ l ih =>
      rcases ih with ⟨i,h1,h2⟩ | ih
      · exact .inl ⟨i,h1,by omega⟩
      · have e := revB_succ l S
        have f : firstC lens (l + 1) = 2 * (firstC lens l + cntL lens l) := rfl
        rcases Nat.lt_or_ge (revB (l + 1) S) (firstC lens (l + 1) + cntL lens (l + 1)) with h1 | h1
        · left
          have h2 : revB (l + 1) S - firstC lens (l + 1) < lens.count (l + 1) := by
            rw [cntL,if_neg (by omega)] at h1; omega
          obtain ⟨i,hi,e1,e2⟩ := count_take_of (l + 1) h2
          have e3 : lenOf lens i = l + 1 := by rw [lenOf_get hi,e1]
          exact ⟨i,⟨by omega,by rw [codeOf,e3,e2]; omega⟩,by omega⟩
        · exact .inr h1
  rcases key M with h1 | h1
  · exact h1
  · have := revB_lt M S
    omega

/-- The symbol that k bits S begin with. -/
def findS (lens : List Nat) (S k : Nat) : Option Nat := (List.range lens.length).find? fun i => decide (lenOf lens i ≤ k ∧ Mat lens i S)

theorem findS_some {lens : List Nat} {S k i : Nat} : findS lens S k = some i ↔ Mat lens i S ∧ lenOf lens i ≤ k := by
  constructor
  · intro h
    have := List.find?_some h
    have := of_decide_eq_true this
    exact ⟨this.2,this.1⟩
  · rintro ⟨h1,h2⟩
    cases hf : findS lens S k with
    | none =>
      have := List.find?_eq_none.1 hf i (List.mem_range.2 (lenOf_lt h1.1))
      exact absurd (decide_eq_true ⟨h2,h1⟩) this
    | some j =>
      unfold findS at hf
      have hd := List.find?_some hf
      have hj : lenOf lens j ≤ k ∧ Mat lens j S := of_decide_eq_true hd
      rw [mat_unique h1 hj.2]

theorem findS_none {lens : List Nat} {S k : Nat} (h : ∀ i,Mat lens i S → k < lenOf lens i) : findS lens S k = none := by
  cases hf : findS lens S k with
  | none => rfl
  | some j =>
    have := findS_some.1 hf
    have := h j this.1
    omega
end Go.Eng
namespace Go.Eng
set_option maxRecDepth 100000

def leN : List UInt8 → Nat
  | [] => 0
  | c::r => c.toNat + 256 * leN r

/-- How many bits are left behind place p,and what they are. -/
def left (D : List UInt8) (p : Nat) : Nat := 8 * D.length - p
def bitsAt (D : List UInt8) (p : Nat) : Nat := leN D / 2 ^ p
def takeB (D : List UInt8) (p n : Nat) : Nat := bitsAt D p % 2 ^ n

def maxL (lens : List Nat) : Nat := lens.foldl max 0
def minL (lens : List Nat) : Nat := lens.foldl (fun m n => if n = 0 then m else if m = 0 ∨ n < m then n else m) 0

/-- No code at all,a full one,or one symbol of one bit. -/
def okLens (lens : List Nat) : Prop := maxL lens = 0 ∨ firstC lens (maxL lens) + cntL lens (maxL lens) = 2 ^ maxL lens ∨ (maxL lens = 1 ∧ firstC lens 1 + cntL lens 1 = 1)
instance (lens : List Nat) : Decidable (okLens lens) := inferInstanceAs (Decidable (_ ∨ _ ∨ _))

/-- A symbol at place p; at least so many bits are asked for. -/
def symR (lens : List Nat) (mn : Nat) (D : List UInt8) (p : Nat) : Option Nat := if left D p < mn then none else findS lens (bitsAt D p) (left D p)

structure Tabs where
  lit : List Nat
  mn : Nat
  dist : List Nat

def fixLit : List Nat := List.replicate 144 8 ++ List.replicate 112 9 ++ List.replicate 24 7 ++ List.replicate 8 8
def fixDist : List Nat := List.replicate 32 5
def fixT : Tabs := ⟨fixLit,7,fixDist⟩

def ordL : List Nat := [16,17,18,0,8,7,9,6,10,5,11,4,12,3,13,2,14,1,15]
def sizesL : List Nat := [3,4,5,6,7,8,9,10,11,13,15,17,19,23,27,31,35,43,51,59,67,83,99,115,131,163,195,227,258]
def moreL : List Nat := [0,0,0,0,0,0,0,0,1,1,1,1,2,2,2,2,3,3,3,3,4,4,4,4,5,5,5,5,0]
def farL : List Nat := [1,2,3,4,5,7,9,13,17,25,33,49,65,97,129,193,257,385,513,769,1025,1537,2049,3073,4097,6145,8193,12289,16385,24577]
def furL : List Nat := [0,0,0,0,1,1,2,2,3,3,4,4,5,5,6,6,7,7,8,8,9,9,10,10,11,11,12,12,13,13]

/-- The lengths of the code of lengths: k of them are told behind place p. -/
def clL (D : List UInt8) (p k : Nat) : List Nat := (List.range 19).map fun s => if ordL.idxOf s < k then takeB D (p + 3 * ordL.idxOf s) 3 else 0

def repB (x : Nat) : Nat := if x = 18 then 11 else 3
def repN (x : Nat) : Nat := if x = 16 then 2 else if x = 17 then 3 else 7

def lensGo (D : List UInt8) (cl : List Nat) (n : Nat) (acc : List Nat) (p : Nat) : Option (List Nat × Nat) :=
  if _h : acc.length < n then
    match symR cl (minL cl) D p with
    | none => none
    | some x =>
      if x < 16 then lensGo D cl n (acc ++ [x]) (p + lenOf cl x)
      else if x = 16 ∧ acc = [] then none
      else if left D (p + lenOf cl x) < repN x then none
      else if _h2 : n < acc.length + (repB x + takeB D (p + lenOf cl x) (repN x)) then none
      else lensGo D cl n (acc ++ List.replicate (repB x + takeB D (p + lenOf cl x) (repN x)) (if x = 16 then acc.getLastD 0 else 0)) (p + lenOf cl x + repN x)
  else some (acc,p)
termination_by n - acc.length
decreasing_by
  · simp only [List.length_append,List.length_cons,List.length_nil]; omega
  · simp only [List.length_append,List.length_replicate]
    have : 0 < repB x := by unfold repB; split <;> omega
    omega

/-- A block's own codes. -/
def dynR (D : List UInt8) (p : Nat) : Option (Tabs × Nat) :=
  if left D p < 14 then none
  else if 286 < takeB D p 5 + 257 then none
  else if 30 < takeB D (p + 5) 5 + 1 then none
  else if left D (p + 14) < 3 * (takeB D (p + 10) 4 + 4) then none
  else if ¬ okLens (clL D (p + 14) (takeB D (p + 10) 4 + 4)) then none
  else match lensGo D (clL D (p + 14) (takeB D (p + 10) 4 + 4)) (takeB D p 5 + 257 + (takeB D (p + 5) 5 + 1)) [] (p + 14 + 3 * (takeB D (p + 10) 4 + 4)) with
    | none => none
    | some (all,p2) =>
      if okLens (all.take (takeB D p 5 + 257)) ∧ okLens (all.drop (takeB D p 5 + 257)) then some (⟨all.take (takeB D p 5 + 257),max (minL (all.take (takeB D p 5 + 257))) (all.getD 256 0),all.drop (takeB D p 5 + 257)⟩,p2)
      else none

/-- n bytes,each the one d behind it. -/
def copyN (out : List UInt8) (d : Nat) : Nat → List UInt8
  | 0 => out
  | n + 1 => copyN out d n ++ [(copyN out d n).getD ((copyN out d n).length - d) 0]

inductive EndR where
  | bad
  | done (q : Nat)

inductive Ph where
  | next
  | sym (last : Bool) (t : Tabs)

abbrev ResR := List UInt8 × EndR

/-- How far the copy goes that symbol v begins,behind it at place p: none,or its length,its distance and the place behind it. -/
def copyR (t : Tabs) (D : List UInt8) (v p : Nat) : Option (Nat × Nat × Nat) :=
  if left D p < moreL.getD (v - 257) 0 then none
  else match symR t.dist 0 D (p + moreL.getD (v - 257) 0) with
    | none => none
    | some d =>
      if 30 ≤ d then none
      else if left D (p + moreL.getD (v - 257) 0 + lenOf t.dist d) < furL.getD d 0 then none
      else some (sizesL.getD (v - 257) 0 + takeB D p (moreL.getD (v - 257) 0),farL.getD d 0 + takeB D (p + moreL.getD (v - 257) 0 + lenOf t.dist d) (furL.getD d 0),p + moreL.getD (v - 257) 0 + lenOf t.dist d + furL.getD d 0)

/-- A stored block whose lengths stand at byte q: none if they do not fit. -/
def storedN (D : List UInt8) (q : Nat) : Option Nat :=
  if D.length < q + 4 then none
  else if (D.getD q 0).toNat + 256 * (D.getD (q + 1) 0).toNat + ((D.getD (q + 2) 0).toNat + 256 * (D.getD (q + 3) 0).toNat) = 65535 then some ((D.getD q 0).toNat + 256 * (D.getD (q + 1) 0).toNat)
  else none

def run (D : List UInt8) (ph : Ph) (out : List UInt8) (p : Nat) : ResR :=
  match ph with
  | .next =>
    if left D p < 3 then (out,.bad)
    else if takeB D (p + 1) 2 = 0 then
      match storedN D ((p + 3 + 7) / 8) with
      | none => (out,.bad)
      | some n =>
        if D.length < (p + 3 + 7) / 8 + 4 + n then (out ++ D.drop ((p + 3 + 7) / 8 + 4),.bad)
        else if takeB D p 1 = 1 then (out ++ (D.drop ((p + 3 + 7) / 8 + 4)).take n,.done ((p + 3 + 7) / 8 + 4 + n))
        else if _h : p < 8 * ((p + 3 + 7) / 8 + 4 + n) ∧ 8 * ((p + 3 + 7) / 8 + 4 + n) ≤ 8 * D.length then run D .next (out ++ (D.drop ((p + 3 + 7) / 8 + 4)).take n) (8 * ((p + 3 + 7) / 8 + 4 + n))
        else (out,.bad)
    else if takeB D (p + 1) 2 = 1 then
      if _h : p < p + 3 ∧ p + 3 ≤ 8 * D.length then run D (.sym (decide (takeB D p 1 = 1)) fixT) out (p + 3) else (out,.bad)
    else if takeB D (p + 1) 2 = 2 then
      match dynR D (p + 3) with
      | none => (out,.bad)
      | some (t,p2) => if _h : p < p2 ∧ p2 ≤ 8 * D.length then run D (.sym (decide (takeB D p 1 = 1)) t) out p2 else (out,.bad)
    else (out,.bad)
  | .sym last t =>
    match symR t.lit t.mn D p with
    | none => (out,.bad)
    | some v =>
      if v < 256 then
        if _h : p < p + lenOf t.lit v ∧ p + lenOf t.lit v ≤ 8 * D.length then run D (.sym last t) (out ++ [UInt8.ofNat v]) (p + lenOf t.lit v) else (out,.bad)
      else if v = 256 then
        if last then (out,.done ((p + lenOf t.lit v + 7) / 8))
        else if _h : p < p + lenOf t.lit v ∧ p + lenOf t.lit v ≤ 8 * D.length then run D .next out (p + lenOf t.lit v) else (out,.bad)
      else if 286 ≤ v then (out,.bad)
      else match copyR t D v (p + lenOf t.lit v) with
        | none => (out,.bad)
        | some (n,d,p2) =>
          if out.length < d then (out,.bad)
          else if _h : p < p2 ∧ p2 ≤ 8 * D.length then run D (.sym last t) (copyN out d n) p2
          else (out,.bad)
termination_by 8 * D.length - p
decreasing_by all_goals omega

/-! ### Bits and bytes -/

theorem leN_drop : ∀ (D : List UInt8) (q : Nat),leN D / 2 ^ (8 * q) = leN (D.drop q)
  | D,0 => by simp
  | [],q + 1 => by simp [leN]
  | c::r,q + 1 => by
    have hc := c.toNat_lt
    rw [leN,show 8 * (q + 1) = 8 + 8 * q by omega,Nat.pow_add,← Nat.div_div_eq_div_mul,show (2 : Nat) ^ 8 = 256 from rfl,show (c.toNat + 256 * leN r) / 256 = leN r by omega,leN_drop r q]
    rfl

theorem leN_get {D : List UInt8} {q : Nat} (h : q < D.length) : leN D / 2 ^ (8 * q) % 256 = D[q].toNat := by
  rw [leN_drop,List.drop_eq_getElem_cons h,leN]
  have := D[q].toNat_lt
  omega

theorem bitsAt_add (D : List UInt8) (p n : Nat) : bitsAt D (p + n) = bitsAt D p / 2 ^ n := by
  unfold bitsAt; rw [Nat.pow_add,Nat.div_div_eq_div_mul]

theorem takeB_lt (D : List UInt8) (p n : Nat) : takeB D p n < 2 ^ n := Nat.mod_lt _ (Nat.pow_pos (by omega))

/-- What the code holds of the bits: nb of them in b,the next byte is q. -/
structure BitsIn (D : List UInt8) (p q b nb : Nat) : Prop where
  at8 : p + nb = 8 * q
  le : q ≤ D.length
  val : b = takeB D p nb

theorem BitsIn.lt {D : List UInt8} {p q b nb : Nat} (h : BitsIn D p q b nb) : b < 2 ^ nb := by rw [h.val]; exact takeB_lt _ _ _

theorem BitsIn.left_eq {D : List UInt8} {p q b nb : Nat} (h : BitsIn D p q b nb) : left D p = nb + 8 * (D.length - q) := by
  have h1 := h.at8
  have h2 := h.le
  unfold left; omega

theorem mod_add_pow (x m n : Nat) : x % 2 ^ (m + n) = x % 2 ^ m + 2 ^ m * (x / 2 ^ m % 2 ^ n) := by
  rw [Nat.pow_add,Nat.mod_mul]

/-- One byte more. -/
theorem BitsIn.more {D : List UInt8} {p q b nb : Nat} (h : BitsIn D p q b nb) (hq : q < D.length) : BitsIn D p (q + 1) (b + 2 ^ nb * D[q].toNat) (nb + 8) := by
  refine ⟨by have := h.at8; omega,hq,?_⟩
  unfold takeB
  rw [mod_add_pow,← bitsAt_add,h.at8,h.val,takeB]
  congr 2
  exact (leN_get hq).symm

/-- n bits are taken. -/
theorem BitsIn.take {D : List UInt8} {p q b nb n : Nat} (h : BitsIn D p q b nb) (hn : n ≤ nb) : b % 2 ^ n = takeB D p n ∧ BitsIn D (p + n) q (b / 2 ^ n) (nb - n) := by
  have e : nb = n + (nb - n) := by omega
  have hv := h.val
  unfold takeB at hv
  rw [e,mod_add_pow] at hv
  have h1 : bitsAt D p % 2 ^ n < 2 ^ n := Nat.mod_lt _ (Nat.pow_pos (by omega))
  refine ⟨?_,by have := h.at8; omega,h.le,?_⟩
  · rw [hv,Nat.add_mul_mod_self_left,Nat.mod_eq_of_lt h1]; rfl
  · rw [hv,Nat.add_mul_div_left _ _ (Nat.pow_pos (by omega)),Nat.div_eq_of_lt h1,Nat.zero_add,takeB,bitsAt_add]

theorem BitsIn.start (D : List UInt8) {q : Nat} (h : q ≤ D.length) : BitsIn D (8 * q) q 0 0 := ⟨by omega,h,by simp [takeB,Nat.mod_one]⟩

end Go.Eng
namespace Go.Eng
open Go Go.Proofs
set_option maxRecDepth 100000

theorem rd4_drop (l : List UInt8) (flg d : Nat) (h : Hd) : ∃ k,(rd4 l flg d h).2.1 = l.drop k := by
  unfold rd4
  repeat (first | exact ⟨0,rfl⟩ | exact ⟨_,rfl⟩ | split)
theorem rd3_drop (l : List UInt8) (flg d : Nat) (h : Hd) : ∃ k,(rd3 l flg d h).2.1 = l.drop k := by
  unfold rd3
  split
  · exact rd4_drop _ _ _ _
  · split
    · exact ⟨_,rfl⟩
    · obtain ⟨k,hk⟩ := rd4_drop (l.drop (strUsed l)) flg (strCrc d l) { h with comment := strTxt l }
      exact ⟨_,by rw [hk,List.drop_drop]⟩
theorem rd2_drop (l : List UInt8) (flg d : Nat) (h : Hd) : ∃ k,(rd2 l flg d h).2.1 = l.drop k := by
  unfold rd2
  split
  · exact rd3_drop _ _ _ _
  · split
    · exact ⟨_,rfl⟩
    · obtain ⟨k,hk⟩ := rd3_drop (l.drop (strUsed l)) flg (strCrc d l) { h with name := strTxt l }
      exact ⟨_,by rw [hk,List.drop_drop]⟩
theorem rd1_drop (l : List UInt8) (flg d : Nat) (h : Hd) : ∃ k,(rd1 l flg d h).2.1 = l.drop k := by
  unfold rd1
  split
  · exact rd2_drop _ _ _ _
  · split
    · exact ⟨_,rfl⟩
    · split
      · exact ⟨_,by rw [List.drop_drop]⟩
      · obtain ⟨k,hk⟩ := rd2_drop ((l.drop 2).drop (le16of l)) flg (crcOn IEEE (crcOn IEEE d (l.take 2)) ((l.drop 2).take (le16of l))) { h with extra := some ((l.drop 2).take (le16of l)) }
        exact ⟨_,by rw [hk,List.drop_drop,List.drop_drop]⟩
theorem readHead_drop (l : List UInt8) : ∃ k,(readHead l).2.1 = l.drop k := by
  unfold readHead
  split
  · exact ⟨_,rfl⟩
  · split
    · obtain ⟨k,hk⟩ := rd1_drop (l.drop 10) (l.getD 3 0).toNat (crcOn IEEE 0 (l.take 10)) { noHd with mod := le32 (l.getD 4 0).toNat (l.getD 5 0).toNat (l.getD 6 0).toNat (l.getD 7 0).toNat,os := (l.getD 9 0).toNat }
      exact ⟨_,by rw [hk,List.drop_drop]⟩
    · exact ⟨_,rfl⟩
theorem readHead_le (l : List UInt8) : (readHead l).2.1.length ≤ l.length := by
  obtain ⟨k,hk⟩ := readHead_drop l
  rw [hk,List.length_drop]; omega

def le32at (l : List UInt8) (k : Nat) : Nat := le32 (l.getD k 0).toNat (l.getD (k + 1) 0).toNat (l.getD (k + 2) 0).toNat (l.getD (k + 3) 0).toNat

/-- Whether the check sum and the length behind a member fit. -/
def fits (out t : List UInt8) : Prop := le32at t 0 = crcOn IEEE 0 out ∧ le32at t 4 = out.length % 4294967296
instance (out t : List UInt8) : Decidable (fits out t) := inferInstanceAs (Decidable (_ ∧ _))

/-- The end of a reading: the kind of its error; what is left behind a member (for a reading member by member). -/
abbrev ZEnd := Nat × List UInt8

/-- All that is read behind a header. -/
def gzR (ms : Bool) (D : List UInt8) : List UInt8 × ZEnd :=
  match (run D .next [] 0).2 with
  | .bad => ((run D .next [] 0).1,5,[])
  | .done q =>
    if (D.drop q).length < 8 then ((run D .next [] 0).1,5,[])
    else if ¬ fits (run D .next [] 0).1 (D.drop q) then ((run D .next [] 0).1,3,[])
    else if ms = false then ((run D .next [] 0).1,1,(D.drop q).drop 8)
    else if (readHead ((D.drop q).drop 8)).1 ≠ .none then ((run D .next [] 0).1,kindOf (readHead ((D.drop q).drop 8)).1,[])
    else if _h : (readHead ((D.drop q).drop 8)).2.1.length < D.length then
      ((run D .next [] 0).1 ++ (gzR ms (readHead ((D.drop q).drop 8)).2.1).1,(gzR ms (readHead ((D.drop q).drop 8)).2.1).2)
    else ((run D .next [] 0).1,5,[])
termination_by D.length
decreasing_by all_goals (first | assumption | (simp only [List.drop_drop] at *; assumption))

/-- What is read behind the member that begins here. -/
def gzT (ms : Bool) (D : List UInt8) : List UInt8 × ZEnd :=
  match (run D .next [] 0).2 with
  | .bad => ([],5,[])
  | .done q =>
    if (D.drop q).length < 8 then ([],5,[])
    else if ¬ fits (run D .next [] 0).1 (D.drop q) then ([],3,[])
    else if ms = false then ([],1,(D.drop q).drop 8)
    else if (readHead ((D.drop q).drop 8)).1 ≠ .none then ([],kindOf (readHead ((D.drop q).drop 8)).1,[])
    else gzR ms (readHead ((D.drop q).drop 8)).2.1

section
variable {ms : Bool} {D : List UInt8} {q : Nat}
theorem gzR_eq : gzR ms D = ((run D .next [] 0).1 ++ (gzT ms D).1,(gzT ms D).2) := by
  rw [gzR,gzT]
  cases h : (run D .next [] 0).2 with
  | bad => simp
  | done q =>
    simp only
    split
    · simp
    · split
      · simp
      · split
        · simp
        · split
          · simp
          · split
            · rfl
            · rename_i h1 h2 h3 h4 h5
              exfalso
              apply h5
              have := readHead_le ((D.drop q).drop 8)
              simp only [List.length_drop] at this h1 ⊢
              omega
theorem gzT_bad (h : (run D .next [] 0).2 = .bad) : gzT ms D = ([],5,[]) := by rw [gzT,h]
theorem gzT_short (h : (run D .next [] 0).2 = .done q) (h1 : (D.drop q).length < 8) : gzT ms D = ([],5,[]) := by rw [gzT,h]; simp only; rw [if_pos h1]
theorem gzT_sum (h : (run D .next [] 0).2 = .done q) (h1 : ¬ (D.drop q).length < 8) (h2 : ¬ fits (run D .next [] 0).1 (D.drop q)) : gzT ms D = ([],3,[]) := by rw [gzT,h]; simp only; rw [if_neg h1,if_pos h2]
theorem gzT_one (h : (run D .next [] 0).2 = .done q) (h1 : ¬ (D.drop q).length < 8) (h2 : fits (run D .next [] 0).1 (D.drop q)) (h3 : ms = false) : gzT ms D = ([],1,(D.drop q).drop 8) := by
  rw [gzT,h]; simp only; rw [if_neg h1,if_neg (fun h => h h2),if_pos h3]
theorem gzT_head (h : (run D .next [] 0).2 = .done q) (h1 : ¬ (D.drop q).length < 8) (h2 : fits (run D .next [] 0).1 (D.drop q)) (h3 : ms ≠ false) (h4 : (readHead ((D.drop q).drop 8)).1 ≠ .none) : gzT ms D = ([],kindOf (readHead ((D.drop q).drop 8)).1,[]) := by
  rw [gzT,h]; simp only; rw [if_neg h1,if_neg (fun h => h h2),if_neg h3,if_pos h4]
theorem gzT_next (h : (run D .next [] 0).2 = .done q) (h1 : ¬ (D.drop q).length < 8) (h2 : fits (run D .next [] 0).1 (D.drop q)) (h3 : ms ≠ false) (h4 : (readHead ((D.drop q).drop 8)).1 = .none) : gzT ms D = gzR ms (readHead ((D.drop q).drop 8)).2.1 := by
  rw [gzT,h]; simp only; rw [if_neg h1,if_neg (fun h => h h2),if_neg h3,if_neg (fun h => h h4)]
end
end Go.Eng
namespace Go.Eng
set_option maxRecDepth 100000

theorem revB_split : ∀ m n S,revB (m + n) S = revB m S * 2 ^ n + revB n (S / 2 ^ m)
  | 0,n,S => by simp [revB]
  | m + 1,n,S => by
    rw [show m + 1 + n = (m + n) + 1 by omega,revB,revB_split m n (S / 2),revB,Nat.pow_add,Nat.add_mul,Nat.div_div_eq_div_mul,Nat.pow_succ,Nat.mul_comm (2 ^ m) 2,Nat.mul_assoc,Nat.add_assoc]

theorem revB16 {x : Nat} : revB 16 x = revB 8 (x % 256) * 256 + revB 8 (x / 256) := by
  have h := revB_split 8 8 x
  have h2 := revB_mod 8 x
  rw [show (2 : Nat) ^ 8 = 256 from rfl] at h h2
  rw [h,h2]

theorem foldl_max_le (l : List Nat) (m : Nat) : m ≤ l.foldl max m ∧ ∀ x ∈ l,x ≤ l.foldl max m := by
  induction l generalizing m with
  | nil => exact ⟨Nat.le_refl _,fun x h => by cases h⟩
  | cons a r ih =>
    obtain ⟨h1,h2⟩ := ih (max m a)
    rw [List.foldl_cons]
    refine ⟨by omega,fun x hx => ?_⟩
    rcases List.mem_cons.1 hx with rfl | hx
    · omega
    · exact h2 x hx

theorem maxL_snoc (l : List Nat) (n : Nat) : maxL (l ++ [n]) = max (maxL l) n := by unfold maxL; rw [List.foldl_append]; rfl
theorem minL_snoc (l : List Nat) (n : Nat) : minL (l ++ [n]) = if n = 0 then minL l else if minL l = 0 ∨ n < minL l then n else minL l := by unfold minL; rw [List.foldl_append]; rfl
theorem cntL_snoc (l : List Nat) (n k : Nat) : cntL (l ++ [n]) k = cntL l k + (if k ≠ 0 ∧ n = k then 1 else 0) := by
  unfold cntL
  by_cases hk : k = 0
  · simp [hk]
  · rw [if_neg hk,if_neg hk,List.count_append]
    by_cases hn : n = k
    · subst hn; simp [hk]
    · rw [if_neg (fun h => hn h.2),List.count_cons_of_ne hn]; simp

theorem le_maxL {l : List Nat} {x : Nat} (h : x ∈ l) : x ≤ maxL l := (foldl_max_le l 0).2 x h
theorem lenOf_le_max (l : List Nat) (i : Nat) : lenOf l i ≤ maxL l := by
  by_cases h : i < l.length
  · rw [lenOf_get h]; exact le_maxL (List.getElem_mem h)
  · rw [lenOf,List.getD_eq_getElem?_getD,List.getElem?_eq_none (by omega)]; exact Nat.zero_le _

theorem minL_spec (l : List Nat) : (minL l = 0 → ∀ x ∈ l,x = 0) ∧ (∀ x ∈ l,x ≠ 0 → minL l ≤ x) ∧ (minL l ≠ 0 → minL l ∈ l) := by
  have key : ∀ (r : List Nat),(minL r = 0 → ∀ x ∈ r,x = 0) ∧ (∀ x ∈ r,x ≠ 0 → minL r ≤ x) ∧ (minL r ≠ 0 → minL r ∈ r) := by
    intro r
    have : ∀ (s : List Nat) (a : List Nat),((minL a = 0 → ∀ x ∈ a,x = 0) ∧ (∀ x ∈ a,x ≠ 0 → minL a ≤ x) ∧ (minL a ≠ 0 → minL a ∈ a)) → ((minL (a ++ s) = 0 → ∀ x ∈ a ++ s,x = 0) ∧ (∀ x ∈ a ++ s,x ≠ 0 → minL (a ++ s) ≤ x) ∧ (minL (a ++ s) ≠ 0 → minL (a ++ s) ∈ a ++ s)) := by
      intro s
      induction s with
      | nil => intro a h; simpa using h
      | cons n s ih =>
        intro a h
        have e : a ++ n::s = (a ++ [n]) ++ s := by simp
        rw [e]
        refine ih (a ++ [n]) ?_
        obtain ⟨h1,h2,h3⟩ := h
        rw [minL_snoc]
        refine ⟨fun h0 x hx => ?_,fun x hx hx0 => ?_,fun h0 => ?_⟩
        · split at h0
          · rcases List.mem_append.1 hx with hx | hx
            · exact h1 h0 x hx
            · rw [List.mem_singleton.1 hx]; assumption
          · split at h0 <;> omega
        · rcases List.mem_append.1 hx with hx | hx
          · have := h2 x hx hx0
            split
            · exact this
            · split
              · rename_i h4 h5
                rcases h5 with h5 | h5
                · exact absurd (h1 h5 x hx) hx0
                · omega
              · exact this
          · rw [List.mem_singleton.1 hx] at hx0 ⊢
            rw [if_neg hx0]
            split <;> omega
        · split
          · rename_i hn
            rw [if_pos hn] at h0
            exact List.mem_append_left _ (h3 h0)
          · rename_i hn
            rw [if_neg hn] at h0
            split
            · simp
            · rename_i h5
              rw [if_neg h5] at h0
              exact List.mem_append_left _ (h3 h0)
    have := this r [] ⟨(fun _ x h => by cases h),(fun x h => by cases h),fun h => absurd rfl h⟩
    simpa using this
  exact key l

theorem max_zero {l : List Nat} (h : maxL l = 0) (i : Nat) : lenOf l i = 0 := by have := lenOf_le_max l i; omega

theorem min_pos {l : List Nat} (h : maxL l ≠ 0) : 0 < minL l ∧ minL l ≤ maxL l := by
  have h1 := minL_spec l
  have h2 : minL l ≠ 0 := by
    intro h0
    have : ∀ (r : List Nat) (m : Nat),m = 0 → (∀ x ∈ r,x = 0) → r.foldl max m = 0 := by
      intro r
      induction r with
      | nil => intro m hm _; exact hm
      | cons a r ih =>
        intro m hm hr
        rw [List.foldl_cons]
        refine ih _ ?_ fun x hx => hr x (List.mem_cons_of_mem _ hx)
        have := hr a (List.mem_cons_self ..)
        omega
    exact h (this l 0 rfl (h1.1 h0))
  exact ⟨by omega,le_maxL (h1.2.2 h2)⟩

theorem cnt_below {l : List Nat} {k : Nat} (h : k < minL l) : cntL l k = 0 := by
  unfold cntL
  split
  · rfl
  · rename_i hk
    rw [List.count_eq_zero]
    intro hm
    have := (minL_spec l).2.1 k hm hk
    omega
theorem first_min (l : List Nat) : ∀ k,k ≤ minL l → firstC l k = 0
  | 0,_ => rfl
  | k + 1,h => by rw [firstC,first_min l k (by omega),cnt_below (by omega)]

theorem first_bound (l : List Nat) : ∀ k,firstC l k + cntL l k + l.length ≤ l.length * 2 ^ (k + 1)
  | 0 => by simp [firstC,cntL]; omega
  | k + 1 => by
    have h := first_bound l k
    have h2 : cntL l (k + 1) ≤ l.length := by unfold cntL; split; omega; exact List.count_le_length
    rw [firstC,Nat.pow_succ,← Nat.mul_assoc]; omega

/-! ### The table -/

def lookT (f : Nat → Nat) (g : Nat → Nat → Nat) (nk b : Nat) : Nat := if 9 < f (b % 512) % 16 then g (f (b % 512) / 16) (b / 512 % nk) else f (b % 512)

/-- The chunks before the symbols are put in: those that lead on. -/
def link0 (mx lk o : Nat) : Nat := if 9 < mx ∧ lk ≤ revB 9 o then (revB 9 o - lk) * 16 + 10 else 0

/-- What stands in the table when the first k symbols have been put in. -/
structure TabP (lens : List Nat) (mx lk nk k : Nat) (f : Nat → Nat) (g : Nat → Nat → Nat) : Prop where
  short : ∀ o s,o < 512 → s < k → 0 < lenOf lens s → lenOf lens s ≤ 9 → o % 2 ^ lenOf lens s = revB (lenOf lens s) (codeOf lens s) → f o = s * 16 + lenOf lens s
  rest : ∀ o,o < 512 → (∀ s,s < k → ¬ (0 < lenOf lens s ∧ lenOf lens s ≤ 9 ∧ o % 2 ^ lenOf lens s = revB (lenOf lens s) (codeOf lens s))) → f o = link0 mx lk o
  long : ∀ s q,q < nk → s < k → 9 < lenOf lens s → q % 2 ^ (lenOf lens s - 9) = revB (lenOf lens s) (codeOf lens s) / 512 → g (codeOf lens s / 2 ^ (lenOf lens s - 9) - lk) q = s * 16 + lenOf lens s

section
variable {lens : List Nat} {mx lk nk k : Nat} {f : Nat → Nat} {g : Nat → Nat → Nat}

theorem TabP.zero : TabP lens mx lk nk 0 (link0 mx lk) g := ⟨fun o s _ h => by omega,fun o _ _ => rfl,fun s q _ h => by omega⟩

theorem TabP.skip (h : TabP lens mx lk nk k f g) (h0 : lenOf lens k = 0) : TabP lens mx lk nk (k + 1) f g := by
  refine ⟨fun o s ho hs h1 h2 h3 => ?_,fun o ho hn => ?_,fun s q hq hs h1 h2 => ?_⟩
  · rcases Nat.lt_or_ge s k with h4 | h4
    · exact h.short o s ho h4 h1 h2 h3
    · have : s = k := by omega
      subst this; omega
  · exact h.rest o ho fun s hs => hn s (by omega)
  · rcases Nat.lt_or_ge s k with h4 | h4
    · exact h.long s q hq h4 h1 h2
    · have : s = k := by omega
      subst this; omega

theorem mat_of_mod (hf : FitL lens mx) {s o : Nat} (h1 : 0 < lenOf lens s) (h3 : o % 2 ^ lenOf lens s = revB (lenOf lens s) (codeOf lens s)) : Mat lens s o :=
  ⟨h1,(revB_eq_iff (codeOf_bound hf h1)).2 h3⟩
theorem mod_of_mat (hf : FitL lens mx) {s o : Nat} (h : Mat lens s o) : o % 2 ^ lenOf lens s = revB (lenOf lens s) (codeOf lens s) := (revB_eq_iff (codeOf_bound hf h.1)).1 h.2

theorem TabP.addShort (hf : FitL lens mx) (h : TabP lens mx lk nk k f g) (h0 : 0 < lenOf lens k) (h9 : lenOf lens k ≤ 9) {f' : Nat → Nat}
    (hy : ∀ o,o < 512 → o % 2 ^ lenOf lens k = revB (lenOf lens k) (codeOf lens k) → f' o = k * 16 + lenOf lens k) (hn : ∀ o,o < 512 → o % 2 ^ lenOf lens k ≠ revB (lenOf lens k) (codeOf lens k) → f' o = f o) : TabP lens mx lk nk (k + 1) f' g := by
  refine ⟨fun o s ho hs h1 h2 h3 => ?_,fun o ho hno => ?_,fun s q hq hs h1 h2 => ?_⟩
  · rcases Nat.lt_or_ge s k with h4 | h4
    · have hne : o % 2 ^ lenOf lens k ≠ revB (lenOf lens k) (codeOf lens k) := fun e => by
        have := mat_unique (mat_of_mod hf h1 h3) (mat_of_mod hf h0 e)
        omega
      rw [hn o ho hne]; exact h.short o s ho h4 h1 h2 h3
    · have : s = k := by omega
      subst this; exact hy o ho h3
  · rw [hn o ho fun e => hno k (by omega) ⟨h0,h9,e⟩]
    exact h.rest o ho fun s hs => hno s (by omega)
  · rcases Nat.lt_or_ge s k with h4 | h4
    · exact h.long s q hq h4 h1 h2
    · have : s = k := by omega
      subst this; omega

theorem rev_parts {n c : Nat} (hn : 9 ≤ n) (hc : c < 2 ^ n) : revB n c % 512 = revB 9 (c / 2 ^ (n - 9)) := by
  have h1 := revB_prefix hn (revB n c)
  rw [revB_rev n c hc] at h1
  have h2 := revB_mod 9 (revB n c)
  have h3 : revB 9 (revB 9 (revB n c % 2 ^ 9)) = revB n c % 2 ^ 9 := revB_rev 9 _ (Nat.mod_lt _ (by decide))
  rw [h2,← h1] at h3
  rw [show (512 : Nat) = 2 ^ 9 from rfl,← h3]

/-- The place that leads on,with the bits behind. -/
theorem mat_long (hf : FitL lens mx) {s q : Nat} (h1 : 9 < lenOf lens s) (h2 : q % 2 ^ (lenOf lens s - 9) = revB (lenOf lens s) (codeOf lens s) / 512) : Mat lens s (revB 9 (codeOf lens s / 2 ^ (lenOf lens s - 9)) + 512 * q) := by
  have hc := codeOf_bound hf (i := s) (by omega)
  refine mat_of_mod hf (by omega) ?_
  have e := rev_parts (by omega : 9 ≤ lenOf lens s) hc
  have hb := revB_lt 9 (codeOf lens s / 2 ^ (lenOf lens s - 9))
  have h5 : (2 : Nat) ^ 9 = 512 := rfl
  rw [show lenOf lens s = 9 + (lenOf lens s - 9) by omega,mod_add_pow,h5,show 9 + (lenOf lens s - 9) = lenOf lens s by omega]
  have e1 : (revB 9 (codeOf lens s / 2 ^ (lenOf lens s - 9)) + 512 * q) % 512 = revB 9 (codeOf lens s / 2 ^ (lenOf lens s - 9)) := by omega
  have e2 : (revB 9 (codeOf lens s / 2 ^ (lenOf lens s - 9)) + 512 * q) / 512 = q := by omega
  rw [e1,e2,h2,← e]
  omega

theorem hi_ge (hk : lk = firstC lens 9 + cntL lens 9) {s : Nat} (h1 : 9 < lenOf lens s) : lk ≤ codeOf lens s / 2 ^ (lenOf lens s - 9) := by
  rw [Nat.le_div_iff_mul_le (Nat.pow_pos (by omega)),hk]
  have := firstC_lt lens h1
  rw [codeOf]; omega

theorem TabP.addLong (hf : FitL lens mx) (hk : lk = firstC lens 9 + cntL lens 9) (h : TabP lens mx lk nk k f g) (h9 : 9 < lenOf lens k) {g' : Nat → Nat → Nat}
    (hy : ∀ q,q < nk → q % 2 ^ (lenOf lens k - 9) = revB (lenOf lens k) (codeOf lens k) / 512 → g' (codeOf lens k / 2 ^ (lenOf lens k - 9) - lk) q = k * 16 + lenOf lens k)
    (hn : ∀ a q,a ≠ codeOf lens k / 2 ^ (lenOf lens k - 9) - lk ∨ q % 2 ^ (lenOf lens k - 9) ≠ revB (lenOf lens k) (codeOf lens k) / 512 → g' a q = g a q) : TabP lens mx lk nk (k + 1) f g' := by
  refine ⟨fun o s ho hs h1 h2 h3 => ?_,fun o ho hno => ?_,fun s q hq hs h1 h2 => ?_⟩
  · rcases Nat.lt_or_ge s k with h4 | h4
    · exact h.short o s ho h4 h1 h2 h3
    · have : s = k := by omega
      subst this; omega
  · exact h.rest o ho fun s hs => hno s (by omega)
  · rcases Nat.lt_or_ge s k with h4 | h4
    · rw [hn]
      · exact h.long s q hq h4 h1 h2
      · by_cases ha : codeOf lens s / 2 ^ (lenOf lens s - 9) - lk = codeOf lens k / 2 ^ (lenOf lens k - 9) - lk
        · right
          intro hq2
          have g1 := hi_ge hk h1
          have g2 := hi_ge hk h9
          have e : codeOf lens s / 2 ^ (lenOf lens s - 9) = codeOf lens k / 2 ^ (lenOf lens k - 9) := by omega
          have m1 := mat_long hf h1 h2
          have m2 := mat_long hf h9 hq2
          rw [e] at m1
          have := mat_unique m1 m2
          omega
        · exact .inl ha
    · have : s = k := by omega
      subst this; exact hy q hq h2

/-- The table tells the symbol that a number begins with. -/
structure TabOK (lens : List Nat) (f : Nat → Nat) (g : Nat → Nat → Nat) (nt nk : Nat) : Prop where
  yes : ∀ s b,Mat lens s b → lookT f g nk b = s * 16 + lenOf lens s
  no : ∀ b,(∀ s,¬ Mat lens s b) → lookT f g nk b % 16 = 0
  lt : ∀ o,o < 512 → 9 < f o % 16 → f o / 16 < nt

theorem tab_ok (hf : FitL lens mx) (hm : mx = maxL lens) (hk : lk = firstC lens 9 + cntL lens 9) (hfull : firstC lens mx + cntL lens mx = 2 ^ mx ∨ mx = 1) (h16 : mx ≤ 15) (hnk : nk = 2 ^ (mx - 9)) (h : TabP lens mx lk nk lens.length f g) : TabOK lens f g (512 - lk) nk := by
  subst hnk
  have hlt : ∀ {s b},Mat lens s b → s < lens.length := fun h => lenOf_lt h.1
  have hlm : ∀ s,lenOf lens s ≤ mx := fun s => by rw [hm]; exact lenOf_le_max lens s
  have m512 : ∀ {n b : Nat},n ≤ 9 → b % 512 % 2 ^ n = b % 2 ^ n := fun {n b} hn => Nat.mod_mod_of_dvd _ (by
    rw [show (512 : Nat) = 2 ^ 9 from rfl]; exact Nat.pow_dvd_pow 2 hn)
  refine ⟨fun s b hb => ?_,fun b hno => ?_,fun o ho h9 => ?_⟩
  · rcases Nat.lt_or_ge 9 (lenOf lens s) with hl | hl
    · have e1 : f (b % 512) = link0 mx lk (b % 512) := by
        refine h.rest _ (Nat.mod_lt _ (by decide)) fun t ht hh => ?_
        obtain ⟨h1,h2,h3⟩ := hh
        rw [m512 h2] at h3
        have := mat_unique (mat_of_mod hf h1 h3) hb
        subst this; omega
      have e2 : revB 9 (b % 512) = codeOf lens s / 2 ^ (lenOf lens s - 9) := by
        rw [show (512 : Nat) = 2 ^ 9 from rfl,revB_mod,← revB_prefix (by omega : 9 ≤ lenOf lens s) b,hb.2]
      have e3 := hi_ge hk hl
      have e4 : link0 mx lk (b % 512) = (codeOf lens s / 2 ^ (lenOf lens s - 9) - lk) * 16 + 10 := by
        rw [link0,e2,if_pos ⟨by have := hlm s; omega,e3⟩]
      unfold lookT
      rw [e1,e4,if_pos (by omega),show ((codeOf lens s / 2 ^ (lenOf lens s - 9) - lk) * 16 + 10) / 16 = codeOf lens s / 2 ^ (lenOf lens s - 9) - lk by omega]
      refine h.long s _ (Nat.mod_lt _ (Nat.pow_pos (by omega))) (hlt hb) hl ?_
      have h5 := mod_of_mat hf hb
      have h6 := hlm s
      rw [Nat.mod_mod_of_dvd _ (Nat.pow_dvd_pow 2 (by omega)),← h5]
      rw [show (2 : Nat) ^ lenOf lens s = 512 * 2 ^ (lenOf lens s - 9) by rw [show (512 : Nat) = 2 ^ 9 from rfl,← Nat.pow_add]; congr 1; omega]
      exact (Nat.mod_mul_right_div_self b 512 _).symm
    · have e1 := h.short (b % 512) s (Nat.mod_lt _ (by decide)) (hlt hb) hb.1 hl (by rw [m512 hl]; exact mod_of_mat hf hb)
      unfold lookT
      rw [e1,if_neg (by omega)]
  · have e1 : f (b % 512) = link0 mx lk (b % 512) := by
      refine h.rest _ (Nat.mod_lt _ (by decide)) fun t ht hh => ?_
      obtain ⟨h1,h2,h3⟩ := hh
      rw [m512 h2] at h3
      exact hno t (mat_of_mod hf h1 h3)
    rcases hfull with h1 | h1
    · obtain ⟨i,hi,_⟩ := mat_some h1 b
      exact absurd hi (hno i)
    · have e2 : link0 mx lk (b % 512) = 0 := by rw [link0,if_neg (by omega)]
      unfold lookT
      rw [e1,e2]; simp
  · by_cases hs : ∃ s,s < lens.length ∧ 0 < lenOf lens s ∧ lenOf lens s ≤ 9 ∧ o % 2 ^ lenOf lens s = revB (lenOf lens s) (codeOf lens s)
    · obtain ⟨s,h1,h2,h3,h4⟩ := hs
      rw [h.short o s ho h1 h2 h3 h4] at h9
      omega
    · have e1 := h.rest o ho fun s hs' hh => hs ⟨s,hs',hh⟩
      have hr := revB_lt 9 o
      rw [show (2 : Nat) ^ 9 = 512 from rfl] at hr
      rw [e1] at h9 ⊢
      unfold link0 at h9 ⊢
      split at h9
      · rename_i hc
        rw [if_pos hc]; omega
      · simp at h9

theorem tab_empty (hm : maxL lens = 0) : TabOK lens (fun _ => 0) (fun _ _ => 0) 0 1 := by
  refine ⟨fun s b hb => ?_,fun b _ => by simp [lookT],fun o _ h => by simp at h⟩
  have := max_zero hm s
  have := hb.1
  omega
end

section
variable {lens : List Nat} {mx lk nk k : Nat} {f : Nat → Nat} {g : Nat → Nat → Nat}
theorem tab_small (hf : FitL lens mx) (hm : mx = maxL lens) (hfull : firstC lens mx + cntL lens mx = 2 ^ mx ∨ mx = 1) (h9 : mx ≤ 9) (h : TabP lens mx lk nk lens.length f g) : TabOK lens f g 0 1 := by
  have hlm : ∀ s,lenOf lens s ≤ mx := fun s => by rw [hm]; exact lenOf_le_max lens s
  have h2 : TabP lens mx (firstC lens 9 + cntL lens 9) 1 lens.length f g := by
    refine ⟨h.short,fun o ho hn => ?_,fun s q _ _ hl => ?_⟩
    · rw [h.rest o ho hn,link0,link0,if_neg (by omega),if_neg (by omega)]
    · have := hlm s; omega
  have h3 := tab_ok hf hm rfl hfull (by omega) (by rw [show mx - 9 = 0 by omega]) h2
  refine ⟨h3.yes,h3.no,fun o ho hlt => ?_⟩
  exfalso
  by_cases hs : ∃ s,s < lens.length ∧ 0 < lenOf lens s ∧ lenOf lens s ≤ 9 ∧ o % 2 ^ lenOf lens s = revB (lenOf lens s) (codeOf lens s)
  · obtain ⟨s,h1,h4,h5,h6⟩ := hs
    rw [h.short o s ho h1 h4 h5 h6] at hlt
    omega
  · rw [h.rest o ho fun s hs' hh => hs ⟨s,hs',hh⟩,link0,if_neg (by omega)] at hlt
    simp at hlt

theorem TabP.at_link (hf : FitL lens mx) (hk : lk = firstC lens 9 + cntL lens 9) (h : TabP lens mx lk nk k f g) (h9 : 9 < lenOf lens k) :
    f (revB 9 (codeOf lens k / 2 ^ (lenOf lens k - 9))) = (codeOf lens k / 2 ^ (lenOf lens k - 9) - lk) * 16 + 10 ∧ codeOf lens k / 2 ^ (lenOf lens k - 9) < 512 ∧ revB (lenOf lens k) (codeOf lens k) / 512 < 2 ^ (lenOf lens k - 9) := by
  have hc := codeOf_bound hf (i := k) (by omega)
  have hp : (2 : Nat) ^ lenOf lens k = 512 * 2 ^ (lenOf lens k - 9) := by rw [show (512 : Nat) = 2 ^ 9 from rfl,← Nat.pow_add]; congr 1; omega
  have hhi : codeOf lens k / 2 ^ (lenOf lens k - 9) < 512 := by rw [Nat.div_lt_iff_lt_mul (Nat.pow_pos (by omega)),← hp]; exact hc
  have hq : revB (lenOf lens k) (codeOf lens k) / 512 < 2 ^ (lenOf lens k - 9) := by
    rw [Nat.div_lt_iff_lt_mul (by omega),Nat.mul_comm,← hp]; exact revB_lt _ _
  refine ⟨?_,hhi,hq⟩
  have hr := revB_lt 9 (codeOf lens k / 2 ^ (lenOf lens k - 9))
  rw [show (2 : Nat) ^ 9 = 512 from rfl] at hr
  have hm := mat_long hf h9 (q := revB (lenOf lens k) (codeOf lens k) / 512) (Nat.mod_eq_of_lt hq)
  rw [h.rest _ hr fun s hs hh => ?_]
  · have := hf.top k
    rw [link0,revB_rev 9 _ (by rw [show (2 : Nat) ^ 9 = 512 from rfl]; exact hhi),if_pos ⟨by omega,hi_ge hk h9⟩]
  · obtain ⟨h1,h2,h3⟩ := hh
    have m1 := mat_of_mod hf h1 h3
    have m2 : Mat lens s (revB 9 (codeOf lens k / 2 ^ (lenOf lens k - 9)) + 512 * (revB (lenOf lens k) (codeOf lens k) / 512)) := by
      refine ⟨h1,?_⟩
      rw [← m1.2]
      refine revB_agree (n := 9) ?_ h2
      rw [show (2 : Nat) ^ 9 = 512 from rfl]; omega
    have := mat_unique m2 hm
    omega
end

theorem maxL_le {l : List Nat} {m : Nat} (h : ∀ x ∈ l,x ≤ m) : maxL l ≤ m := by
  have key : ∀ (r : List Nat) (a : Nat),a ≤ m → (∀ x ∈ r,x ≤ m) → r.foldl max a ≤ m := by
    intro r
    induction r with
    | nil => intro a ha _; exact ha
    | cons x r ih =>
      intro a ha hr
      rw [List.foldl_cons]
      have := hr x (List.mem_cons_self ..)
      exact ih _ (by omega) fun y hy => hr y (List.mem_cons_of_mem _ hy)
  exact key l 0 (Nat.zero_le _) h

theorem or16 (x y : Nat) (h : y < 16) : x * 16 ||| y = x * 16 + y := by
  have := Nat.shiftLeft_add_eq_or_of_lt (b := y) (i := 4) (by omega) x
  rw [Nat.shiftLeft_eq] at this
  exact this.symm

/-- The codes that init takes have room. -/
theorem fit_of_ok {lens : List Nat} (h : okLens lens) : FitL lens (maxL lens) := by
  refine ⟨lenOf_le_max lens,?_⟩
  rcases h with h | h | h
  · rw [h]; simp [firstC,cntL]
  · omega
  · rw [h.1]; omega
end Go.Eng
