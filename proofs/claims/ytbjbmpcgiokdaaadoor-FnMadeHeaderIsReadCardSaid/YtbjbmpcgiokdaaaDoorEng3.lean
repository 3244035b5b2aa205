/-
  Engine, part 3: integers, comparisons, conversions, lengths, indexes, slices.
-/
import Derived.Test.YtbjbmpcgiokdaaaDoorEng2
import Derived.WalkLawsBesides
set_option linter.unusedVariables false
set_option linter.unusedSimpArgs false
namespace Go.Eng
open Go

/-! ### Numbers -/

namespace N
theorem wrapU {k : IntKind} (hk : k.signed = false) (x : Nat) : k.wrap (x : Int) = ((x % 2 ^ k.bits : Nat) : Int) := by
  simp only [IntKind.wrap, hk, Bool.false_and, Bool.false_eq_true, if_false]
  norm_cast
theorem wrapU_lt {k : IntKind} (hk : k.signed = false) {x : Nat} (h : x < 2 ^ k.bits) : k.wrap (x : Int) = (x : Int) := by
  rw [wrapU hk, Nat.mod_eq_of_lt h]
theorem i64n {x : Nat} (h : x ≤ 9223372036854775807) : IntKind.i64.wrap (x : Int) = (x : Int) := IntWalk.i64_in _ (by omega)
theorem add64 {a b : Nat} (h : a + b ≤ 9223372036854775807) : IntKind.i64.wrap ((a : Int) + (b : Int)) = ((a + b : Nat) : Int) := by
  rw [IntWalk.i64_in _ (by omega)]; norm_cast
theorem sub64 {a b : Nat} (h : b ≤ a) (h2 : a ≤ 9223372036854775807) : IntKind.i64.wrap ((a : Int) - (b : Int)) = ((a - b : Nat) : Int) := by
  rw [IntWalk.i64_in _ (by omega)]; omega
theorem mul64 {a b : Nat} (h : a * b ≤ 9223372036854775807) : IntKind.i64.wrap ((a : Int) * (b : Int)) = ((a * b : Nat) : Int) := by
  rw [← i64n h]; norm_cast
theorem addZ {a b : Int} (h : -9223372036854775808 ≤ a + b ∧ a + b ≤ 9223372036854775807) : IntKind.i64.wrap (a + b) = a + b := IntWalk.i64_in _ h
theorem subZ {a b : Int} (h : -9223372036854775808 ≤ a - b ∧ a - b ≤ 9223372036854775807) : IntKind.i64.wrap (a - b) = a - b := IntWalk.i64_in _ h
theorem mulZ {a b : Int} (h : -9223372036854775808 ≤ a * b ∧ a * b ≤ 9223372036854775807) : IntKind.i64.wrap (a * b) = a * b := IntWalk.i64_in _ h
theorem addU64 {a b : Nat} (h : a + b ≤ 18446744073709551615) : IntKind.u64.wrap ((a : Int) + (b : Int)) = ((a + b : Nat) : Int) := by
  rw [IntWalk.u64_in _ (by omega)]; norm_cast
theorem subU64 {a b : Nat} (h : b ≤ a) (h2 : a ≤ 18446744073709551615) : IntKind.u64.wrap ((a : Int) - (b : Int)) = ((a - b : Nat) : Int) := by
  rw [IntWalk.u64_in _ (by omega)]; omega
theorem mulU64 {a b : Nat} (h : a * b ≤ 18446744073709551615) : IntKind.u64.wrap ((a : Int) * (b : Int)) = ((a * b : Nat) : Int) := by
  have := wrapU_lt (k := .u64) rfl (x := a * b) (by show a * b < 18446744073709551616; omega)
  rw [← this]; norm_cast
theorem addU32w (a b : Nat) : IntKind.u32.wrap ((a : Int) + (b : Int)) = (((a + b) % 4294967296 : Nat) : Int) := by
  have := wrapU (k := .u32) rfl (a + b)
  rw [show ((a : Int) + (b : Int)) = ((a + b : Nat) : Int) from by norm_cast, this]; rfl
theorem addU8w (a b : Nat) : IntKind.u8.wrap ((a : Int) + (b : Int)) = (((a + b) % 256 : Nat) : Int) := by
  have := wrapU (k := .u8) rfl (a + b)
  rw [show ((a : Int) + (b : Int)) = ((a + b : Nat) : Int) from by norm_cast, this]; rfl

theorem ofInt_nat (w a : Nat) : BitVec.ofInt w (a : Int) = BitVec.ofNat w a := by
  apply BitVec.eq_of_toNat_eq
  simp

theorem bits_and {k : IntKind} {a b : Nat} (hk : k.signed = false) (ha : a < 2 ^ k.bits) (hb : b < 2 ^ k.bits) : bits .and k (a : Int) (b : Int) = ((a &&& b : Nat) : Int) := by
  simp only [bits, ofInt_nat]
  rw [show ((BitVec.ofNat k.bits a &&& BitVec.ofNat k.bits b).toNat) = a &&& b from by
    simp [BitVec.toNat_and, Nat.mod_eq_of_lt ha, Nat.mod_eq_of_lt hb]]
  exact wrapU_lt hk (Nat.lt_of_le_of_lt Nat.and_le_left ha)
theorem bits_or {k : IntKind} {a b : Nat} (hk : k.signed = false) (ha : a < 2 ^ k.bits) (hb : b < 2 ^ k.bits) : bits .or k (a : Int) (b : Int) = ((a ||| b : Nat) : Int) := by
  simp only [bits, ofInt_nat]
  rw [show ((BitVec.ofNat k.bits a ||| BitVec.ofNat k.bits b).toNat) = a ||| b from by
    simp [BitVec.toNat_or, Nat.mod_eq_of_lt ha, Nat.mod_eq_of_lt hb]]
  exact wrapU_lt hk (Nat.or_lt_two_pow ha hb)
theorem bits_xor {k : IntKind} {a b : Nat} (hk : k.signed = false) (ha : a < 2 ^ k.bits) (hb : b < 2 ^ k.bits) : bits .xor k (a : Int) (b : Int) = ((a ^^^ b : Nat) : Int) := by
  simp only [bits, ofInt_nat]
  rw [show ((BitVec.ofNat k.bits a ^^^ BitVec.ofNat k.bits b).toNat) = a ^^^ b from by
    simp [BitVec.toNat_xor, Nat.mod_eq_of_lt ha, Nat.mod_eq_of_lt hb]]
  exact wrapU_lt hk (Nat.xor_lt_two_pow ha hb)

theorem i64_small {x : Nat} (h : x < 9223372036854775808) : IntKind.i64.wrap (x : Int) = (x : Int) := IntWalk.i64_in _ (by omega)
theorem and64 {a b : Nat} (ha : a < 9223372036854775808) (hb : b < 9223372036854775808) : bits .and .i64 (a : Int) (b : Int) = ((a &&& b : Nat) : Int) := by
  simp only [bits, ofInt_nat]
  rw [show ((BitVec.ofNat IntKind.i64.bits a &&& BitVec.ofNat IntKind.i64.bits b).toNat) = a &&& b from by
    have h1 : a < 2 ^ IntKind.i64.bits := by show a < 18446744073709551616; omega
    have h2 : b < 2 ^ IntKind.i64.bits := by show b < 18446744073709551616; omega
    simp [BitVec.toNat_and, Nat.mod_eq_of_lt h1, Nat.mod_eq_of_lt h2]]
  exact i64_small (Nat.lt_of_le_of_lt Nat.and_le_left ha)
theorem or64 {a b : Nat} (ha : a < 9223372036854775808) (hb : b < 9223372036854775808) : bits .or .i64 (a : Int) (b : Int) = ((a ||| b : Nat) : Int) := by
  simp only [bits, ofInt_nat]
  rw [show ((BitVec.ofNat IntKind.i64.bits a ||| BitVec.ofNat IntKind.i64.bits b).toNat) = a ||| b from by
    have h1 : a < 2 ^ IntKind.i64.bits := by show a < 18446744073709551616; omega
    have h2 : b < 2 ^ IntKind.i64.bits := by show b < 18446744073709551616; omega
    simp [BitVec.toNat_or, Nat.mod_eq_of_lt h1, Nat.mod_eq_of_lt h2]]
  refine i64_small ?_
  have := Nat.or_lt_two_pow (n := 63) (x := a) (y := b) (by simpa using ha) (by simpa using hb)
  simpa using this

/-- Shifts to the left of unsigned numbers: what stays. -/
theorem shlU {k : IntKind} (hk : k.signed = false) (a s : Nat) : k.wrap ((a : Int) * 2 ^ (min ((s : Int)).toNat k.bits)) = (((a <<< s) % 2 ^ k.bits : Nat) : Int) := by
  have e : ((a : Int) * 2 ^ (min ((s : Int)).toNat k.bits)) = ((a * 2 ^ (min s k.bits) : Nat) : Int) := by simp
  rw [e, wrapU hk, Nat.shiftLeft_eq]
  congr 1
  rcases Nat.le_total s k.bits with h | h
  · rw [Nat.min_eq_left h]
  · rw [Nat.min_eq_right h, Nat.mul_mod_left]
    obtain ⟨d, rfl⟩ := Nat.exists_eq_add_of_le h
    rw [Nat.pow_add, ← Nat.mul_assoc, Nat.mul_right_comm, Nat.mul_mod_left]
theorem shl64 {a s : Nat} (h : a <<< s < 9223372036854775808) : IntKind.i64.wrap ((a : Int) * 2 ^ (min ((s : Int)).toNat IntKind.i64.bits)) = ((a <<< s : Nat) : Int) := by
  by_cases ha : a = 0
  · subst ha; simp; rfl
  · have hs : s ≤ 64 := by
      rcases Nat.lt_or_ge 64 s with h1 | h1
      · rw [Nat.shiftLeft_eq] at h
        have : 2 ^ 64 ≤ 2 ^ s := Nat.pow_le_pow_right (by omega) (by omega)
        have h3 : 1 * 2 ^ 64 ≤ a * 2 ^ s := Nat.mul_le_mul (by omega) this
        omega
      · exact h1
    have e : ((a : Int) * 2 ^ (min ((s : Int)).toNat IntKind.i64.bits)) = ((a <<< s : Nat) : Int) := by
      rw [Nat.shiftLeft_eq]
      have : min ((s : Int)).toNat IntKind.i64.bits = s := by show min _ 64 = s; simp; omega
      rw [this]; simp
    rw [e, i64_small h]
theorem shr {k : IntKind} {a : Nat} (ha : a < 2 ^ k.bits) (s : Nat) : (a : Int).fdiv (2 ^ (min ((s : Int)).toNat k.bits)) = ((a >>> s : Nat) : Int) := by
  rw [Nat.shiftRight_eq_div_pow]
  have e : (2 ^ (min ((s : Int)).toNat k.bits) : Int) = ((2 ^ (min s k.bits) : Nat) : Int) := by simp
  rw [e]
  show (a : Int).fdiv _ = _
  rw [Int.fdiv_eq_ediv_of_nonneg _ (Int.natCast_nonneg _)]
  rcases Nat.le_total s k.bits with h | h
  · rw [Nat.min_eq_left h]; norm_cast
  · rw [Nat.min_eq_right h]
    have h1 : a / 2 ^ k.bits = 0 := Nat.div_eq_of_lt ha
    have h2 : a / 2 ^ s = 0 := Nat.div_eq_of_lt (Nat.lt_of_lt_of_le ha (Nat.pow_le_pow_right (by omega) h))
    rw [h2]; norm_cast
theorem and_u8 {a b : Nat} (ha : a < 256) (hb : b < 256) : bits .and .u8 (a : Int) (b : Int) = ((a &&& b : Nat) : Int) := bits_and rfl ha hb
theorem or_u8 {a b : Nat} (ha : a < 256) (hb : b < 256) : bits .or .u8 (a : Int) (b : Int) = ((a ||| b : Nat) : Int) := bits_or rfl ha hb
theorem xor_u8 {a b : Nat} (ha : a < 256) (hb : b < 256) : bits .xor .u8 (a : Int) (b : Int) = ((a ^^^ b : Nat) : Int) := bits_xor rfl ha hb
theorem shl_u8 (a s : Nat) : IntKind.u8.wrap ((a : Int) * 2 ^ (min ((s : Int)).toNat IntKind.u8.bits)) = (((a <<< s) % 256 : Nat) : Int) := shlU rfl a s
theorem shr_u8 {a : Nat} (ha : a < 256) (s : Nat) : (a : Int).fdiv (2 ^ (min ((s : Int)).toNat IntKind.u8.bits)) = ((a >>> s : Nat) : Int) := shr (k := .u8) ha s
theorem in_u8 {a : Nat} (ha : a < 256) : IntKind.u8.wrap (a : Int) = (a : Int) := wrapU_lt rfl ha
theorem mod_u8 (a : Nat) : IntKind.u8.wrap (a : Int) = ((a % 256 : Nat) : Int) := wrapU rfl a
theorem add_u8 {a b : Nat} (h : a + b < 256) : IntKind.u8.wrap ((a : Int) + (b : Int)) = ((a + b : Nat) : Int) := by
  have := in_u8 h
  rw [← this]; norm_cast
theorem sub_u8 {a b : Nat} (h : b ≤ a) (h2 : a < 256) : IntKind.u8.wrap ((a : Int) - (b : Int)) = ((a - b : Nat) : Int) := by
  have := in_u8 (a := a - b) (by omega)
  rw [← this]; congr 1; omega
theorem and_u16 {a b : Nat} (ha : a < 65536) (hb : b < 65536) : bits .and .u16 (a : Int) (b : Int) = ((a &&& b : Nat) : Int) := bits_and rfl ha hb
theorem or_u16 {a b : Nat} (ha : a < 65536) (hb : b < 65536) : bits .or .u16 (a : Int) (b : Int) = ((a ||| b : Nat) : Int) := bits_or rfl ha hb
theorem xor_u16 {a b : Nat} (ha : a < 65536) (hb : b < 65536) : bits .xor .u16 (a : Int) (b : Int) = ((a ^^^ b : Nat) : Int) := bits_xor rfl ha hb
theorem shl_u16 (a s : Nat) : IntKind.u16.wrap ((a : Int) * 2 ^ (min ((s : Int)).toNat IntKind.u16.bits)) = (((a <<< s) % 65536 : Nat) : Int) := shlU rfl a s
theorem shr_u16 {a : Nat} (ha : a < 65536) (s : Nat) : (a : Int).fdiv (2 ^ (min ((s : Int)).toNat IntKind.u16.bits)) = ((a >>> s : Nat) : Int) := shr (k := .u16) ha s
theorem in_u16 {a : Nat} (ha : a < 65536) : IntKind.u16.wrap (a : Int) = (a : Int) := wrapU_lt rfl ha
theorem mod_u16 (a : Nat) : IntKind.u16.wrap (a : Int) = ((a % 65536 : Nat) : Int) := wrapU rfl a
theorem add_u16 {a b : Nat} (h : a + b < 65536) : IntKind.u16.wrap ((a : Int) + (b : Int)) = ((a + b : Nat) : Int) := by
  have := in_u16 h
  rw [← this]; norm_cast
theorem sub_u16 {a b : Nat} (h : b ≤ a) (h2 : a < 65536) : IntKind.u16.wrap ((a : Int) - (b : Int)) = ((a - b : Nat) : Int) := by
  have := in_u16 (a := a - b) (by omega)
  rw [← this]; congr 1; omega
theorem and_u32 {a b : Nat} (ha : a < 4294967296) (hb : b < 4294967296) : bits .and .u32 (a : Int) (b : Int) = ((a &&& b : Nat) : Int) := bits_and rfl ha hb
theorem or_u32 {a b : Nat} (ha : a < 4294967296) (hb : b < 4294967296) : bits .or .u32 (a : Int) (b : Int) = ((a ||| b : Nat) : Int) := bits_or rfl ha hb
theorem xor_u32 {a b : Nat} (ha : a < 4294967296) (hb : b < 4294967296) : bits .xor .u32 (a : Int) (b : Int) = ((a ^^^ b : Nat) : Int) := bits_xor rfl ha hb
theorem shl_u32 (a s : Nat) : IntKind.u32.wrap ((a : Int) * 2 ^ (min ((s : Int)).toNat IntKind.u32.bits)) = (((a <<< s) % 4294967296 : Nat) : Int) := shlU rfl a s
theorem shr_u32 {a : Nat} (ha : a < 4294967296) (s : Nat) : (a : Int).fdiv (2 ^ (min ((s : Int)).toNat IntKind.u32.bits)) = ((a >>> s : Nat) : Int) := shr (k := .u32) ha s
theorem in_u32 {a : Nat} (ha : a < 4294967296) : IntKind.u32.wrap (a : Int) = (a : Int) := wrapU_lt rfl ha
theorem mod_u32 (a : Nat) : IntKind.u32.wrap (a : Int) = ((a % 4294967296 : Nat) : Int) := wrapU rfl a
theorem add_u32 {a b : Nat} (h : a + b < 4294967296) : IntKind.u32.wrap ((a : Int) + (b : Int)) = ((a + b : Nat) : Int) := by
  have := in_u32 h
  rw [← this]; norm_cast
theorem sub_u32 {a b : Nat} (h : b ≤ a) (h2 : a < 4294967296) : IntKind.u32.wrap ((a : Int) - (b : Int)) = ((a - b : Nat) : Int) := by
  have := in_u32 (a := a - b) (by omega)
  rw [← this]; congr 1; omega
theorem and_u64 {a b : Nat} (ha : a < 18446744073709551616) (hb : b < 18446744073709551616) : bits .and .u64 (a : Int) (b : Int) = ((a &&& b : Nat) : Int) := bits_and rfl ha hb
theorem or_u64 {a b : Nat} (ha : a < 18446744073709551616) (hb : b < 18446744073709551616) : bits .or .u64 (a : Int) (b : Int) = ((a ||| b : Nat) : Int) := bits_or rfl ha hb
theorem xor_u64 {a b : Nat} (ha : a < 18446744073709551616) (hb : b < 18446744073709551616) : bits .xor .u64 (a : Int) (b : Int) = ((a ^^^ b : Nat) : Int) := bits_xor rfl ha hb
theorem shl_u64 (a s : Nat) : IntKind.u64.wrap ((a : Int) * 2 ^ (min ((s : Int)).toNat IntKind.u64.bits)) = (((a <<< s) % 18446744073709551616 : Nat) : Int) := shlU rfl a s
theorem shr_u64 {a : Nat} (ha : a < 18446744073709551616) (s : Nat) : (a : Int).fdiv (2 ^ (min ((s : Int)).toNat IntKind.u64.bits)) = ((a >>> s : Nat) : Int) := shr (k := .u64) ha s
theorem in_u64 {a : Nat} (ha : a < 18446744073709551616) : IntKind.u64.wrap (a : Int) = (a : Int) := wrapU_lt rfl ha
theorem mod_u64 (a : Nat) : IntKind.u64.wrap (a : Int) = ((a % 18446744073709551616 : Nat) : Int) := wrapU rfl a
theorem add_u64 {a b : Nat} (h : a + b < 18446744073709551616) : IntKind.u64.wrap ((a : Int) + (b : Int)) = ((a + b : Nat) : Int) := by
  have := in_u64 h
  rw [← this]; norm_cast
theorem sub_u64 {a b : Nat} (h : b ≤ a) (h2 : a < 18446744073709551616) : IntKind.u64.wrap ((a : Int) - (b : Int)) = ((a - b : Nat) : Int) := by
  have := in_u64 (a := a - b) (by omega)
  rw [← this]; congr 1; omega
theorem shr64 {a : Nat} (ha : a < 9223372036854775808) (s : Nat) : (a : Int).fdiv (2 ^ (min ((s : Int)).toNat IntKind.i64.bits)) = ((a >>> s : Nat) : Int) := shr (k := .i64) (show a < 18446744073709551616 by omega) s
end N

theorem builtin_eq (b : Builtin) (ats : Array TypeId) (ty : TypeId) (cs : Array Bool) (args : Array Value) (s : Sem Value)
    (h : builtin b ats ty cs args = (do pure (.value (← s)))) {P : Program} {w w' : World} {v : Value} (hs : s.run P w = .ok v w') : (builtin b ats ty cs args).run P w = .ok (.value v) w' := by
  rw [h]; simp [hs]

section
variable {P : Program} {H0 : Known} {n : Nat} {env : Env} {L : Frags} {ty : TypeId}

theorem bin_run {op : BinOp} {xT yT : TypeId} {x y : Operand} {k k' : IntKind} {a b : Int} {v : Value} (hx : ev? env x = some (.int k a)) (hy : ev? env y = some (.int k' b))
    (h : ∀ w, (binOp op xT (.int k a) (.int k' b)).run P w = .ok v w) : OpP P n (.binOp op xT x y yT) ty env v := by
  intro ac w hf
  simp only [exop, execOp, hf.eval hx, hf.eval hy, eqGuard_at_int]
  simp [h]

theorem S.add {xT yT : TypeId} {x y : Operand} {k : IntKind} {a b r : Int} (hx : ev? env x = some (.int k a)) (hy : ev? env y = some (.int k b)) (hr : k.wrap (a + b) = r) :
    OpP P n (.binOp .add xT x y yT) ty env (.int k r) := bin_run hx hy fun w => by simp [binOp_add, Op.intArith, hr]
theorem S.sub {xT yT : TypeId} {x y : Operand} {k : IntKind} {a b r : Int} (hx : ev? env x = some (.int k a)) (hy : ev? env y = some (.int k b)) (hr : k.wrap (a - b) = r) :
    OpP P n (.binOp .sub xT x y yT) ty env (.int k r) := bin_run hx hy fun w => by simp [binOp_sub, Op.intArith, hr]
theorem S.mul {xT yT : TypeId} {x y : Operand} {k : IntKind} {a b r : Int} (hx : ev? env x = some (.int k a)) (hy : ev? env y = some (.int k b)) (hr : k.wrap (a * b) = r) :
    OpP P n (.binOp .mul xT x y yT) ty env (.int k r) := bin_run hx hy fun w => by simp [binOp_mul, Op.intArith, hr]
theorem S.and {xT yT : TypeId} {x y : Operand} {k : IntKind} {a b r : Int} (hx : ev? env x = some (.int k a)) (hy : ev? env y = some (.int k b)) (hr : bits .and k a b = r) :
    OpP P n (.binOp .and xT x y yT) ty env (.int k r) := bin_run hx hy fun w => by simp [binOp_and, intBits_and, hr]
theorem S.or {xT yT : TypeId} {x y : Operand} {k : IntKind} {a b r : Int} (hx : ev? env x = some (.int k a)) (hy : ev? env y = some (.int k b)) (hr : bits .or k a b = r) :
    OpP P n (.binOp .or xT x y yT) ty env (.int k r) := bin_run hx hy fun w => by simp [binOp_or, intBits_or, hr]
theorem S.xor {xT yT : TypeId} {x y : Operand} {k : IntKind} {a b r : Int} (hx : ev? env x = some (.int k a)) (hy : ev? env y = some (.int k b)) (hr : bits .xor k a b = r) :
    OpP P n (.binOp .xor xT x y yT) ty env (.int k r) := bin_run hx hy fun w => by simp [binOp_xor, intBits_xor, hr]
theorem S.shl {xT yT : TypeId} {x y : Operand} {k k' : IntKind} {a b r : Int} (hx : ev? env x = some (.int k a)) (hy : ev? env y = some (.int k' b)) (hb : 0 ≤ b) (hr : k.wrap (a * 2 ^ (min b.toNat k.bits)) = r) :
    OpP P n (.binOp .shl xT x y yT) ty env (.int k r) := bin_run hx hy fun w => by
  rw [binOp_shl]; simp [Op.shift, show ¬ b < 0 by omega, hr]
theorem S.shr {xT yT : TypeId} {x y : Operand} {k k' : IntKind} {a b r : Int} (hx : ev? env x = some (.int k a)) (hy : ev? env y = some (.int k' b)) (hb : 0 ≤ b) (hr : a.fdiv (2 ^ (min b.toNat k.bits)) = r) :
    OpP P n (.binOp .shr xT x y yT) ty env (.int k r) := bin_run hx hy fun w => by
  rw [binOp_shr]; simp [Op.shift, show ¬ b < 0 by omega, hr]
theorem S.quo {xT yT : TypeId} {x y : Operand} {k : IntKind} {a b r : Int} (hx : ev? env x = some (.int k a)) (hy : ev? env y = some (.int k b)) (hb : b ≠ 0) (hr : k.wrap (a.tdiv b) = r) :
    OpP P n (.binOp .quo xT x y yT) ty env (.int k r) := bin_run hx hy fun w => by simp [binOp_quo, Op.intDiv, hb, hr]
theorem S.rem {xT yT : TypeId} {x y : Operand} {k : IntKind} {a b r : Int} (hx : ev? env x = some (.int k a)) (hy : ev? env y = some (.int k b)) (hb : b ≠ 0) (hr : a.tmod b = r) :
    OpP P n (.binOp .rem xT x y yT) ty env (.int k r) := bin_run hx hy fun w => by simp [binOp_rem, Op.intDiv, hb, hr]
theorem S.lt {xT yT : TypeId} {x y : Operand} {k : IntKind} {a b : Int} (hx : ev? env x = some (.int k a)) (hy : ev? env y = some (.int k b)) :
    OpP P n (.binOp .lss xT x y yT) ty env (.bool (decide (a < b))) := bin_run hx hy fun w => by simp [binOp_lss]
theorem S.le {xT yT : TypeId} {x y : Operand} {k : IntKind} {a b : Int} (hx : ev? env x = some (.int k a)) (hy : ev? env y = some (.int k b)) :
    OpP P n (.binOp .leq xT x y yT) ty env (.bool (decide (a ≤ b))) := bin_run hx hy fun w => by simp [binOp_leq]
theorem S.gt {xT yT : TypeId} {x y : Operand} {k : IntKind} {a b : Int} (hx : ev? env x = some (.int k a)) (hy : ev? env y = some (.int k b)) :
    OpP P n (.binOp .gtr xT x y yT) ty env (.bool (decide (b < a))) := bin_run hx hy fun w => by simp [binOp_gtr]
theorem S.ge {xT yT : TypeId} {x y : Operand} {k : IntKind} {a b : Int} (hx : ev? env x = some (.int k a)) (hy : ev? env y = some (.int k b)) :
    OpP P n (.binOp .geq xT x y yT) ty env (.bool (decide (b ≤ a))) := bin_run hx hy fun w => by simp [binOp_geq]
theorem S.eq {xT yT : TypeId} {x y : Operand} {k : IntKind} {a b : Int} (hx : ev? env x = some (.int k a)) (hy : ev? env y = some (.int k b)) :
    OpP P n (.binOp .eql xT x y yT) ty env (.bool (decide (a = b))) := bin_run hx hy fun w => by simp [binOp_eql]; rfl
theorem S.ne {xT yT : TypeId} {x y : Operand} {k : IntKind} {a b : Int} (hx : ev? env x = some (.int k a)) (hy : ev? env y = some (.int k b)) :
    OpP P n (.binOp .neq xT x y yT) ty env (.bool (decide (a ≠ b))) := bin_run hx hy fun w => by
  simp only [binOp_neq, Sem.run_pure, Result.ok.injEq, Value.bool.injEq, and_true]
  by_cases h : a = b <;> simp [h]

theorem S.not32 {xT : TypeId} {x : Operand} {a : Nat} (hx : ev? env x = some (.int .u32 (a : Int))) (ha : a < 4294967296) :
    OpP P n (.unOp .xor xT x) ty env (.int .u32 ((4294967295 ^^^ a : Nat) : Int)) := by
  intro ac w hf
  simp only [exop, execOp, hf.eval hx, Op.unary]
  have e : IntKind.u32.signed = false := rfl
  have := N.bits_xor (k := .u32) (a := 4294967295) (b := a) rfl (by decide) ha
  rw [e]
  simp only [Bool.false_eq_true, if_false, intBits_xor]
  rw [show IntKind.u32.max = ((4294967295 : Nat) : Int) from rfl, this]
  rfl

theorem S.conv {src dst : TypeId} {x : Operand} {k k' : IntKind} {a r : Int} (hx : ev? env x = some (.int k a)) (hs : P.underlying src = some (.int k)) (hd : P.underlying dst = some (.int k')) (hr : k'.wrap a = r) :
    OpP P n (.convert src dst x) ty env (.int k' r) := by
  intro ac w hf
  simp only [exop, execOp, hf.eval hx]
  have h1 := run_convert_int (P := P) w src dst k a (by rw [hs]; rfl) (by rw [hd]; simp [Program.intKind, hd])
  simp [h1, Program.intKind, hd, hr]

/-! ### Lengths, indexes, slices -/

theorem S.lenSl {t e : TypeId} {x : Operand} {a : Option Addr} {l c : Nat} (hx : ev? env x = some (.slice a l c)) (ht : P.underlying t = some (.slice e)) :
    OpP P n (.call { callee := .builtin .len, args := #[x], argTypes := #[t] }) ty env (.int .i64 (l : Int)) := by
  intro ac w hf
  simp only [exop, execOp, resolve]
  have h1 := run_len_slice (P := P) w t ty a l c (by simp [Program.elem, ht])
  simp [hf.eval hx, invoke, builtin_eq .len _ _ _ _ _ rfl h1, goInt]
theorem S.capSl {t e : TypeId} {x : Operand} {a : Option Addr} {l c : Nat} (hx : ev? env x = some (.slice a l c)) (ht : P.underlying t = some (.slice e)) :
    OpP P n (.call { callee := .builtin .cap, args := #[x], argTypes := #[t] }) ty env (.int .i64 (c : Int)) := by
  intro ac w hf
  simp only [exop, execOp, resolve]
  have h1 := run_cap_slice (P := P) w t ty a l c (by simp [Program.elem, ht])
  simp [hf.eval hx, invoke, builtin_eq .cap _ _ _ _ _ rfl h1, goInt]
theorem S.lenStr {t : TypeId} {x : Operand} {s : ByteArray} (hx : ev? env x = some (.string s)) (ht : P.underlying t = some .string) :
    OpP P n (.call { callee := .builtin .len, args := #[x], argTypes := #[t] }) ty env (.int .i64 (s.size : Int)) := by
  intro ac w hf
  simp only [exop, execOp, resolve]
  have h1 := run_len_string (P := P) w t ty s ht
  simp [hf.eval hx, invoke, builtin_eq .len _ _ _ _ _ rfl h1, goInt]
theorem S.lenArr {t e : TypeId} {m : Nat} {x : Operand} {v : Value} (hx : ev? env x = some v) (ht : P.underlying t = some (.array m e)) :
    OpP P n (.call { callee := .builtin .len, args := #[x], argTypes := #[t] }) ty env (.int .i64 (m : Int)) := by
  intro ac w hf
  simp only [exop, execOp, resolve]
  have h1 : (Builtin.len_ #[t] ty #[v]).run P w = .ok (.int .i64 (m : Int)) w := by
    simp [Builtin.len_, underlying, ht, goInt]
  simp [hf.eval hx, invoke, builtin_eq .len _ _ _ _ _ rfl h1]
theorem S.min2 {ats : Array TypeId} {x y : Operand} {k : IntKind} {a b : Int} (hx : ev? env x = some (.int k a)) (hy : ev? env y = some (.int k b)) :
    OpP P n (.call { callee := .builtin .min, args := #[x, y], argTypes := ats }) ty env (.int k (if b < a then b else a)) := by
  intro ac w hf
  simp only [exop, execOp, resolve]
  have h1 : (Builtin.min_ ats ty #[.int k a, .int k b]).run P w = .ok (.int k (if b < a then b else a)) w := rfl
  simp [hf.eval hx, hf.eval hy, invoke, builtin_eq .min _ _ _ _ _ rfl h1]
theorem S.max2 {ats : Array TypeId} {x y : Operand} {k : IntKind} {a b : Int} (hx : ev? env x = some (.int k a)) (hy : ev? env y = some (.int k b)) :
    OpP P n (.call { callee := .builtin .max, args := #[x, y], argTypes := ats }) ty env (.int k (if b > a then b else a)) := by
  intro ac w hf
  simp only [exop, execOp, resolve]
  have h1 : (Builtin.max_ ats ty #[.int k a, .int k b]).run P w = .ok (.int k (if b > a then b else a)) w := rfl
  simp [hf.eval hx, hf.eval hy, invoke, builtin_eq .max _ _ _ _ _ rfl h1]

theorem addr_add (b o k : Nat) : (⟨b, o, none⟩ : Addr).add k = ⟨b, o + k, none⟩ := by
  unfold Addr.add
  by_cases h0 : k = 0 <;> simp [h0]

theorem run_sizeOf_eq {t m : Nat} (h : ∀ w, (sizeOf t).run P w = .ok m w) (w : World) : (sizeOf t).run P w = .ok m w := h w

/-- The address of element i of a slice whose elements take s cells. -/
theorem S.ixSl {t e s : TypeId} {x y : Operand} {b o l c i : Nat} {k : IntKind} (hx : ev? env x = some (.slice (some ⟨b, o, none⟩) l c)) (hy : ev? env y = some (.int k (i : Int))) (hi : i < l)
    (ht : P.underlying t = some (.slice e)) (hs : ∀ w, (sizeOf e).run P w = .ok s w) :
    OpP P n (.indexAddr t x y) ty env (.pointer (some ⟨b, o + i * s, none⟩)) := by
  intro ac w hf
  simp only [exop, execOp, hf.eval hx, hf.eval hy]
  have : (0 : Int) ≤ (i : Int) ∧ (i : Int) < (l : Int) := by omega
  simp [Instr.indexAt, asIntOf, underlying, ht, hs, hi, addr_add]

theorem S.ixArr {t e s m : TypeId} {x y : Operand} {b o i : Nat} {k : IntKind} (hx : ev? env x = some (.pointer (some ⟨b, o, none⟩))) (hy : ev? env y = some (.int k (i : Int))) (hi : i < m)
    (ht : P.underlying t = some (.array m e)) (hs : ∀ w, (sizeOf e).run P w = .ok s w) :
    OpP P n (.indexAddr t x y) ty env (.pointer (some ⟨b, o + i * s, none⟩)) := by
  intro ac w hf
  simp only [exop, execOp, hf.eval hx, hf.eval hy]
  simp [Instr.indexAt, asIntOf, underlying, ht, hs, hi, Instr.sureAddr, addr_add]

/-- Where the part of a slice begins: at an empty end the address stays. -/
def part (o l c : Nat) (s : Nat) : Nat := if c = l then o else o + l * s

theorem sliced_eq {b o l h c s : Nat} : sliced (some ⟨b, o, none⟩) l h c s = .slice (some ⟨b, part o l c s, none⟩) (h - l) (c - l) := by
  unfold sliced part
  by_cases hc : c = l
  · simp [hc]
  · simp [hc, addr_add]

theorem S.slLH {t e s : TypeId} {x y z : Operand} {b o l c lo hi : Nat} {k k' : IntKind} (hx : ev? env x = some (.slice (some ⟨b, o, none⟩) l c)) (hy : ev? env y = some (.int k (lo : Int))) (hz : ev? env z = some (.int k' (hi : Int)))
    (h1 : lo ≤ hi) (h2 : hi ≤ c) (ht : P.underlying t = some (.slice e)) (hs : ∀ w, (sizeOf e).run P w = .ok s w) :
    OpP P n (.slice t x (some y) (some z) none) ty env (.slice (some ⟨b, part o lo c s, none⟩) (hi - lo) (c - lo)) := by
  intro ac w hf
  simp only [exop, execOp, hf.eval hx, Option.map_some, Option.map_none, hf.eval hy, hf.eval hz]
  have he : P.elem t = e := by simp [Program.elem, ht]
  have ht' : P.underlying t = some (.slice (P.elem t)) := by rw [he]; exact ht
  rw [show (do pure (Next.value (← Instr.sliceAt t (.slice (some ⟨b, o, none⟩) l c) (some (.int k (lo : Int))) (some (.int k' (hi : Int))) none)) : Sem Next).run P w = _ from by
    rw [Sem.run_bind, run_sliceAt_slice (P := P) w t _ _ _ _ ht', run_slice_lh (P := P) w t (some ⟨b, o, none⟩) l c ht' k k' lo hi (by omega) (by omega) (by omega)]]
  simp [he, hs, sliced_eq]

theorem S.slL {t e s : TypeId} {x y : Operand} {b o l c lo : Nat} {k : IntKind} (hx : ev? env x = some (.slice (some ⟨b, o, none⟩) l c)) (hy : ev? env y = some (.int k (lo : Int)))
    (h1 : lo ≤ l) (ht : P.underlying t = some (.slice e)) (hs : ∀ w, (sizeOf e).run P w = .ok s w) :
    OpP P n (.slice t x (some y) none none) ty env (.slice (some ⟨b, part o lo c s, none⟩) (l - lo) (c - lo)) := by
  intro ac w hf
  simp only [exop, execOp, hf.eval hx, Option.map_some, Option.map_none, hf.eval hy]
  have he : P.elem t = e := by simp [Program.elem, ht]
  have ht' : P.underlying t = some (.slice (P.elem t)) := by rw [he]; exact ht
  rw [show (do pure (Next.value (← Instr.sliceAt t (.slice (some ⟨b, o, none⟩) l c) (some (.int k (lo : Int))) none none)) : Sem Next).run P w = _ from by
    rw [Sem.run_bind, run_sliceAt_slice (P := P) w t _ _ _ _ ht', run_slice_l (P := P) w t (some ⟨b, o, none⟩) l c ht' k lo (by omega) (by omega)]]
  simp [he, hs, sliced_eq]

theorem S.slH {t e s : TypeId} {x z : Operand} {b o l c hi : Nat} {k' : IntKind} (hx : ev? env x = some (.slice (some ⟨b, o, none⟩) l c)) (hz : ev? env z = some (.int k' (hi : Int)))
    (h2 : hi ≤ c) (ht : P.underlying t = some (.slice e)) (hs : ∀ w, (sizeOf e).run P w = .ok s w) :
    OpP P n (.slice t x none (some z) none) ty env (.slice (some ⟨b, o, none⟩) hi c) := by
  intro ac w hf
  simp only [exop, execOp, hf.eval hx, Option.map_some, Option.map_none, hf.eval hz]
  have he : P.elem t = e := by simp [Program.elem, ht]
  have ht' : P.underlying t = some (.slice (P.elem t)) := by rw [he]; exact ht
  rw [show (do pure (Next.value (← Instr.sliceAt t (.slice (some ⟨b, o, none⟩) l c) none (some (.int k' (hi : Int))) none)) : Sem Next).run P w = _ from by
    rw [Sem.run_bind, run_sliceAt_slice (P := P) w t _ _ _ _ ht', run_slice_h (P := P) w t (some ⟨b, o, none⟩) l c ht' k' hi (by omega) (by omega)]]
  have : part o 0 c s = o := by unfold part; split <;> simp
  simp [he, hs, sliced_eq, this]

/-- A slice of an array behind a pointer. -/
theorem S.slArr {t e s m : TypeId} {x : Operand} {lo hi : Option Operand} {b o l h : Nat} {k k' : IntKind} (hx : ev? env x = some (.pointer (some ⟨b, o, none⟩)))
    (hlo : match lo with | some y => ev? env y = some (.int k (l : Int)) | none => l = 0) (hhi : match hi with | some z => ev? env z = some (.int k' (h : Int)) | none => h = m)
    (h1 : l ≤ h) (h2 : h ≤ m) (ht : P.underlying t = some (.array m e)) (hs : ∀ w, (sizeOf e).run P w = .ok s w) :
    OpP P n (.slice t x lo hi none) ty env (.slice (some ⟨b, part o l m s, none⟩) (h - l) (m - l)) := by
  intro ac w hf
  simp only [exop, execOp, hf.eval hx]
  have key : ∀ (lo' hi' : Option Value), (match lo' with | some v => v = .int k (l : Int) | none => l = 0) → (match hi' with | some v => v = .int k' (h : Int) | none => h = m) →
      (Instr.sliceBounds false m m lo' hi' none).run P w = .ok (l, h, m) w := by
    intro lo' hi' e1 e2
    cases hi' with
    | none =>
      cases lo' with
      | none => simp only at e1 e2; subst e1 e2; rfl
      | some v =>
        simp only at e1 e2; subst e1 e2
        simp [Instr.sliceBounds, Instr.sliceBound, asIntOf, show (l : Int) ≤ (h : Int) by omega, h1]
    | some u =>
      simp only at e2; subst e2
      cases lo' with
      | none => simp only at e1; subst e1; simp [Instr.sliceBounds, Instr.sliceBound, asIntOf, h2]
      | some v => simp only at e1; subst e1; simp [Instr.sliceBounds, Instr.sliceBound, asIntOf, h1, h2]
  have hb := key (lo.map ac.eval) (hi.map ac.eval) (by cases lo with | none => exact hlo | some y => exact hf.eval hlo) (by cases hi with | none => exact hhi | some z => exact hf.eval hhi)
  have hrun : (Instr.sliceAt t (.pointer (some ⟨b, o, none⟩)) (lo.map ac.eval) (hi.map ac.eval) none).run P w = .ok (.slice (some ⟨b, part o l m s, none⟩) (h - l) (m - l)) w := by
    simp only [Instr.sliceAt, Sem.run_bind, underlying]
    simp only [Sem.run_bind, run_program, Result.andThen_ok, ht, Sem.run_pure, Instr.sureAddr]
    rw [hb]
    simp only [Result.andThen_ok, hs]
    unfold part
    by_cases hc : m = l
    · simp [hc]
    · simp [hc, addr_add]
  simp [hrun]

/-- A byte of a string. -/
theorem S.ixStr {t : TypeId} {x y : Operand} {s : ByteArray} {i : Nat} {k : IntKind} {c : UInt8} (hx : ev? env x = some (.string s)) (hy : ev? env y = some (.int k (i : Int))) (hi : s[i]? = some c)
    (ht : P.underlying t = some .string) : OpP P n (.index t x y) ty env (.int .u8 (c.toNat : Int)) := by
  intro ac w hf
  simp only [exop, execOp, hf.eval hx, hf.eval hy]
  simp [Instr.index, asIntOf, underlying, ht, hi]
end
end Go.Eng
