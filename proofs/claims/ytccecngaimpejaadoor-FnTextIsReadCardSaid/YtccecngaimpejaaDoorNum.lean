/- How the walk's spelling of 32-bit and 8-bit operations reads as operations on words. No condition. -/
import Derived.Test.YtccecngaimpejaaDoorMath
import Derived.WalkKit
namespace Go.Proofs.YtccecngaimpejaaDoor
open Crc (W)

/-- A word as the walk's number. -/
def num (x : W) : Int := (x.toNat : Int)
/-- A byte as the walk's number. -/
def bnum (b : UInt8) : Int := (b.toNat : Int)

theorem num_lt (x : W) : 0 ≤ num x ∧ num x ≤ 4294967295 := by
  have := x.isLt
  unfold num; omega
theorem bnum_lt (b : UInt8) : 0 ≤ bnum b ∧ bnum b ≤ 255 := by
  have := b.toNat_lt
  unfold bnum; omega

theorem num_inj {x y : W} (h : num x = num y) : x = y := by
  unfold num at h
  exact BitVec.eq_of_toNat_eq (by omega)

theorem ofInt_num (x : W) : BitVec.ofInt 32 (num x) = x := by
  unfold num; rw [BitVec.ofInt_natCast]; exact BitVec.ofNat_toNat ..
theorem wrap_num (x : W) : IntKind.u32.wrap (x.toNat : Int) = num x := IntWalk.u32_in _ (by have := num_lt x; unfold num at this; omega)
theorem num_xor (x y : W) : bits .xor .u32 (num x) (num y) = num (x ^^^ y) := by
  show IntKind.u32.wrap ((BitVec.ofInt 32 (num x) ^^^ BitVec.ofInt 32 (num y)).toNat : Int) = _
  rw [ofInt_num, ofInt_num]; exact wrap_num _
theorem num_or (x y : W) : bits .or .u32 (num x) (num y) = num (x ||| y) := by
  show IntKind.u32.wrap ((BitVec.ofInt 32 (num x) ||| BitVec.ofInt 32 (num y)).toNat : Int) = _
  rw [ofInt_num, ofInt_num]; exact wrap_num _
theorem num_and (x y : W) : bits .and .u32 (num x) (num y) = num (x &&& y) := by
  show IntKind.u32.wrap ((BitVec.ofInt 32 (num x) &&& BitVec.ofInt 32 (num y)).toNat : Int) = _
  rw [ofInt_num, ofInt_num]; exact wrap_num _
theorem num_255 : num 255#32 = 255 := by decide
theorem num_1 : num 1#32 = 1 := by decide
theorem num_ones : num (~~~ 0#32) = 4294967295 := by decide
theorem num_low (x : W) : bits .and .u32 (num x) 255 = num (Crc.low x) := by rw [← num_255]; exact num_and x 255#32
theorem num_not (x : W) : bits .xor .u32 4294967295 (num x) = num (~~~ x) := by
  rw [← num_ones, num_xor]
  congr 1
theorem num_not' (x : W) : bits .xor .u32 IntKind.u32.max (num x) = num (~~~ x) := num_not x
theorem num_ofNat (k : Nat) (h : k < 4294967296) : num (BitVec.ofNat 32 k) = (k : Int) := by
  unfold num; rw [BitVec.toNat_ofNat]; omega
theorem num_shr (x : W) (k : Nat) : num x / (2 : Int) ^ k = num (x >>> k) := by
  unfold num
  rw [BitVec.toNat_ushiftRight, Nat.shiftRight_eq_div_pow]
  simp
theorem num_shr1 (x : W) : num x / (2 : Int) = num (x >>> 1) := num_shr x 1
theorem num_shr8 (x : W) : num x / (256 : Int) = num (x >>> 8) := num_shr x 8
theorem num_shr16 (x : W) : num x / (65536 : Int) = num (x >>> 16) := num_shr x 16
theorem num_shr24 (x : W) : num x / (16777216 : Int) = num (x >>> 24) := num_shr x 24

theorem num_and1 (x : W) : bits .and .u32 (num x) 1 = if x.getLsbD 0 then 1 else 0 := by
  rw [← num_1, num_and]
  have : x &&& 1#32 = if x.getLsbD 0 then 1#32 else 0#32 := by
    apply BitVec.eq_of_getLsbD_eq
    intro i hi
    rw [BitVec.getLsbD_and]
    cases i with
    | zero => cases x.getLsbD 0 <;> rfl
    | succ i =>
      have h : (1#32).getLsbD (i + 1) = false := by
        have h : ∀ j : Fin 32, j.1 ≠ 0 → (1#32).getLsbD j.1 = false := by decide
        exact h ⟨i + 1, hi⟩ (by simp)
      rw [h, Bool.and_false]
      cases x.getLsbD 0
      · simp
      · exact h.symm
  rw [this]
  cases x.getLsbD 0 <;> rfl

/-- The walk's test of the lowest bit, and the two ways behind it. -/
theorem step_odd (p x : W) (h : (bits .and .u32 (num x) 1 == 1) = true) : bits .xor .u32 (num x / (2 : Int)) (num p) = num (Crc.step p x) := by
  rw [num_shr1, num_xor]
  rw [num_and1] at h
  have : x.getLsbD 0 = true := by
    cases hx : x.getLsbD 0 with
    | true => rfl
    | false => rw [hx] at h; exact absurd h (by decide)
  unfold Crc.step
  rw [this]; rfl
theorem step_evn (p x : W) (h : (bits .and .u32 (num x) 1 == 1) = false) : num x / (2 : Int) = num (Crc.step p x) := by
  rw [num_shr1]
  rw [num_and1] at h
  have : x.getLsbD 0 = false := by
    cases hx : x.getLsbD 0 with
    | false => rfl
    | true => rw [hx] at h; exact absurd h (by decide)
  rw [Crc.step_even p x this]

/-- A byte made a word. -/
theorem num_byte (b : UInt8) : num (Crc.byte b) = bnum b := by
  have := b.toNat_lt
  unfold num bnum Crc.byte
  rw [BitVec.toNat_ofNat]; omega
theorem bnum_wrap (b : UInt8) : bnum b % 4294967296 = bnum b := by have := bnum_lt b; omega
theorem num_xor_byte (x : W) (b : UInt8) : bits .xor .u32 (num x) (bnum b) = num (x ^^^ Crc.byte b) := by rw [← num_byte, num_xor]

theorem num_shl (b : UInt8) (k : Nat) : bnum b * (2 : Int) ^ k % (4294967296 : Int) = num (Crc.byte b <<< k) := by
  have hb : (Crc.byte b).toNat = b.toNat := by have := b.toNat_lt; unfold Crc.byte; rw [BitVec.toNat_ofNat]; omega
  unfold num bnum
  rw [BitVec.toNat_shiftLeft, hb, Nat.shiftLeft_eq]
  simp
theorem num_shl8 (b : UInt8) : bnum b * (256 : Int) % (4294967296 : Int) = num (Crc.byte b <<< 8) := num_shl b 8
theorem num_shl16 (b : UInt8) : bnum b * (65536 : Int) % (4294967296 : Int) = num (Crc.byte b <<< 16) := num_shl b 16
theorem num_shl24 (b : UInt8) : bnum b * (16777216 : Int) % (4294967296 : Int) = num (Crc.byte b <<< 24) := num_shl b 24
theorem num_le4 (a b c d : UInt8) : bits .or .u32 (bits .or .u32 (bits .or .u32 (bnum a) (bnum b * (256 : Int) % (4294967296 : Int))) (bnum c * (65536 : Int) % (4294967296 : Int))) (bnum d * (16777216 : Int) % (4294967296 : Int)) = num (Crc.le4 a b c d) := by
  rw [num_shl8, num_shl16, num_shl24, ← num_byte, num_or, num_or, num_or]
  rfl
theorem ret_int {k : IntKind} {a b : Int} (h : a = b) : Ending.returned (.int k a) = .returned (.int k b) := by rw [h]

end Go.Proofs.YtccecngaimpejaaDoor
