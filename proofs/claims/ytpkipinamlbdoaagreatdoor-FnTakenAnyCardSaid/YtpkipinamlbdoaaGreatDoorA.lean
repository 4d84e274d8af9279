/-
  Words as words: a byte and a word of 32 bits stand in the walk as I8 x and I32 x, which simp does not open. No condition.
-/
import Derived.WalkKit
namespace Go.Proofs.YtpkipinamlbdoaaGreatDoor
open Go Go.RowKit

@[irreducible] def I32 (x : UInt32) : Int := x.toNat
@[irreducible] def I8 (x : UInt8) : Int := x.toNat
theorem I32_def (x : UInt32) : I32 x = x.toNat := by unfold I32; rfl
theorem I8_def (x : UInt8) : I8 x = x.toNat := by unfold I8; rfl
theorem I8_nonneg (x : UInt8) : 0 ≤ I8 x := by rw [I8_def]; omega
theorem I8_lt (x : UInt8) : I8 x < 256 := by rw [I8_def]; have := x.toNat_lt; omega
theorem I32_nonneg (x : UInt32) : 0 ≤ I32 x := by rw [I32_def]; omega
theorem I32_lt (x : UInt32) : I32 x < 4294967296 := by rw [I32_def]; have := x.toNat_lt; omega
theorem I8_toNat (x : UInt8) : (I8 x).toNat = x.toNat := by rw [I8_def]; omega
theorem I32_toNat (x : UInt32) : (I32 x).toNat = x.toNat := by rw [I32_def]; omega
theorem I8_inj {x y : UInt8} : I8 x = I8 y ↔ x = y := by
  rw [I8_def, I8_def]; constructor
  · intro h; exact UInt8.toNat_inj.1 (by omega)
  · intro h; rw [h]
theorem I32_inj {x y : UInt32} : I32 x = I32 y ↔ x = y := by
  rw [I32_def, I32_def]; constructor
  · intro h; exact UInt32.toNat_inj.1 (by omega)
  · intro h; rw [h]
theorem I8_beq (x y : UInt8) : (I8 x == I8 y) = (x == y) := by
  rw [Bool.eq_iff_iff]; simp [I8_inj]
theorem I32_beq (x y : UInt32) : (I32 x == I32 y) = (x == y) := by
  rw [Bool.eq_iff_iff]; simp [I32_inj]
/-- A literal as a word. -/
theorem I32_lit (n : Nat) (h : n < 4294967296) : ((n : Nat) : Int) = I32 (UInt32.ofNat n) := by
  rw [I32_def, UInt32.toNat_ofNat']; congr 1; rw [Nat.mod_eq_of_lt (by simpa using h)]
theorem I8_lit (n : Nat) (h : n < 256) : ((n : Nat) : Int) = I8 (UInt8.ofNat n) := by
  rw [I8_def, UInt8.toNat_ofNat']; congr 1; rw [Nat.mod_eq_of_lt (by simpa using h)]
theorem I32_cvt (x : UInt8) : I8 x % (4294967296 : Int) = I32 x.toUInt32 := by
  rw [I32_def, I8_def]; have := x.toNat_lt; simp; omega
theorem I8_cvt (x : UInt32) : I32 x % (256 : Int) = I8 x.toUInt8 := by
  rw [I32_def, I8_def]; simp
theorem I32_add (x y : UInt32) : (I32 x + I32 y) % (4294967296 : Int) = I32 (x + y) := by
  rw [I32_def, I32_def, I32_def, UInt32.toNat_add]; simp
theorem wraps_u32 (n : Int) (h₀ : 0 ≤ n) (h₁ : n < 2 ^ 32) : IntKind.u32.wrap n = n := by rw [IntKind.wrap_u32]; omega
theorem wraps_u8' (n : Int) (h₀ : 0 ≤ n) (h₁ : n < 2 ^ 8) : IntKind.u8.wrap n = n := by rw [IntKind.wrap_u8]; omega
theorem I32_and (x y : UInt32) : bits .and .u32 (I32 x) (I32 y) = I32 (x &&& y) := by
  rw [I32_def, I32_def, I32_def, (bits_nat .u32 32 (by decide) wraps_u32 _ _ x.toNat_lt y.toNat_lt).1]; simp
theorem I32_or (x y : UInt32) : bits .or .u32 (I32 x) (I32 y) = I32 (x ||| y) := by
  rw [I32_def, I32_def, I32_def, (bits_nat .u32 32 (by decide) wraps_u32 _ _ x.toNat_lt y.toNat_lt).2]; simp
theorem bits_xor_nat (k : IntKind) (j : Nat) (hj : j ≤ k.bits) (hk : ∀ n : Int, 0 ≤ n → n < 2 ^ j → k.wrap n = n) (a b : Nat) (ha : a < 2 ^ j) (hb : b < 2 ^ j) :
    bits .xor k a b = ((a ^^^ b : Nat) : Int) := by
  have hp : 2 ^ j ≤ 2 ^ k.bits := Nat.pow_le_pow_right (by decide) hj
  have ha' : a % 2 ^ k.bits = a := Nat.mod_eq_of_lt (Nat.lt_of_lt_of_le ha hp)
  have hb' : b % 2 ^ k.bits = b := Nat.mod_eq_of_lt (Nat.lt_of_lt_of_le hb hp)
  have cast : ∀ n : Nat, n < 2 ^ j → ((n : Nat) : Int) < 2 ^ j := fun n h => by exact_mod_cast h
  simp only [bits, BitVec.ofInt_natCast, BitVec.toNat_xor, BitVec.toNat_ofNat, ha', hb']
  exact hk _ (Int.natCast_nonneg _) (cast _ (Nat.xor_lt_two_pow ha hb))
theorem I32_xor (x y : UInt32) : bits .xor .u32 (I32 x) (I32 y) = I32 (x ^^^ y) := by
  rw [I32_def, I32_def, I32_def, bits_xor_nat .u32 32 (by decide) wraps_u32 _ _ x.toNat_lt y.toNat_lt]; simp
theorem I8_xor (x y : UInt8) : bits .xor .u8 (I8 x) (I8 y) = I8 (x ^^^ y) := by
  rw [I8_def, I8_def, I8_def, bits_xor_nat .u8 8 (by decide) wraps_u8' _ _ x.toNat_lt y.toNat_lt]; simp
theorem I8_or (x y : UInt8) : bits .or .u8 (I8 x) (I8 y) = I8 (x ||| y) := by
  rw [I8_def, I8_def, I8_def, (bits_nat .u8 8 (by decide) wraps_u8' _ _ x.toNat_lt y.toNat_lt).2]; simp
theorem I32_not (x : UInt32) : bits .xor .u32 (4294967295 : Int) (I32 x) = I32 (~~~x) := by
  have h : (4294967295 : Int) = I32 0xffffffff := by rw [I32_def]; rfl
  rw [h, I32_xor]
  congr 1
theorem I32_notm (x : UInt32) : bits .xor .u32 IntKind.u32.max (I32 x) = I32 (~~~x) := I32_not x
/-- A shift by a constant: '<<' and '>>'. -/
theorem I32_shl (x : UInt32) (k : Nat) (hk : k < 32) : I32 x * 2 ^ k % 4294967296 = I32 (x <<< (UInt32.ofNat k)) := by
  have h2 : (UInt32.ofNat k).toNat % 32 = k := by
    rw [UInt32.toNat_ofNat']
    rw [Nat.mod_eq_of_lt (a := k) (by simp; omega)]; omega
  rw [I32_def, I32_def, UInt32.toNat_shiftLeft, h2, Nat.shiftLeft_eq]
  simp [Int.natCast_mul, Int.natCast_pow]
theorem I32_shr (x : UInt32) (k : Nat) (hk : k < 32) : I32 x / 2 ^ k = I32 (x >>> (UInt32.ofNat k)) := by
  have h2 : (UInt32.ofNat k).toNat % 32 = k := by
    rw [UInt32.toNat_ofNat']
    rw [Nat.mod_eq_of_lt (a := k) (by simp; omega)]; omega
  rw [I32_def, I32_def, UInt32.toNat_shiftRight, h2, Nat.shiftRight_eq_div_pow]
  simp [Int.natCast_pow]
theorem I32_shl1 (x : UInt32) : I32 x * (2 : Int) % (4294967296 : Int) = I32 (x <<< 1) := I32_shl x 1 (by decide)
theorem I32_shl5 (x : UInt32) : I32 x * (32 : Int) % (4294967296 : Int) = I32 (x <<< 5) := I32_shl x 5 (by decide)
theorem I32_shl8 (x : UInt32) : I32 x * (256 : Int) % (4294967296 : Int) = I32 (x <<< 8) := I32_shl x 8 (by decide)
theorem I32_shl16 (x : UInt32) : I32 x * (65536 : Int) % (4294967296 : Int) = I32 (x <<< 16) := I32_shl x 16 (by decide)
theorem I32_shl24 (x : UInt32) : I32 x * (16777216 : Int) % (4294967296 : Int) = I32 (x <<< 24) := I32_shl x 24 (by decide)
theorem I32_shl30 (x : UInt32) : I32 x * (1073741824 : Int) % (4294967296 : Int) = I32 (x <<< 30) := I32_shl x 30 (by decide)
theorem I32_shr1 (x : UInt32) : I32 x / (2 : Int) = I32 (x >>> 1) := I32_shr x 1 (by decide)
theorem I32_shr2 (x : UInt32) : I32 x / (4 : Int) = I32 (x >>> 2) := I32_shr x 2 (by decide)
theorem I32_shr8 (x : UInt32) : I32 x / (256 : Int) = I32 (x >>> 8) := I32_shr x 8 (by decide)
theorem I32_shr16 (x : UInt32) : I32 x / (65536 : Int) = I32 (x >>> 16) := I32_shr x 16 (by decide)
theorem I32_shr24 (x : UInt32) : I32 x / (16777216 : Int) = I32 (x >>> 24) := I32_shr x 24 (by decide)
theorem I32_shr27 (x : UInt32) : I32 x / (134217728 : Int) = I32 (x >>> 27) := I32_shr x 27 (by decide)
theorem I32_shr31 (x : UInt32) : I32 x / (2147483648 : Int) = I32 (x >>> 31) := I32_shr x 31 (by decide)
/-- The byte of a value of one cell. -/
abbrev vb (x : UInt8) : Value := .int .u8 (I8 x)
abbrev vw (x : UInt32) : Value := .int .u32 (I32 x)
end Go.Proofs.YtpkipinamlbdoaaGreatDoor
