/- Octets of numbers: plain lemmas that the writing functions want. -/
import Derived.Test.YtlmelgjepdbakaaDoorRKxApp6
namespace Go.Kx
open Go.RowKit
set_option linter.unusedSimpArgs false
set_option linter.unusedVariables false

theorem byteAt_toNat (n : Int) (i : Nat) : ((byteAt n i).toNat : Int) = (n / (256 ^ i : Nat)) % 256 := by
  have h0 : 0 ≤ (n / (256 ^ i : Nat)) % 256 := Int.emod_nonneg _ (by omega)
  have h1 : (n / (256 ^ i : Nat)) % 256 < 256 := Int.emod_lt_of_pos _ (by omega)
  unfold byteAt
  generalize (n / (256 ^ i : Nat)) % 256 = m at h0 h1 ⊢
  rw [UInt8.toNat_ofNat']
  omega

/-- The i-th octet as the code has it: shifted, cut to eight bits. -/
theorem oct_shr (n : Int) (i j : Nat) (h : j = 8 * i) : (Value.int .u8 (IntKind.u8.wrap (n / 2 ^ j)) : Value) = bv (byteAt n i) := by
  unfold bv
  rw [byteAt_toNat, IntKind.wrap_u8, h]
  congr 2
  rw [Int.natCast_pow]
  rw [show ((2 : Int) ^ (8 * i)) = (256 : Int) ^ i by rw [Int.pow_mul]; rfl]
  rfl
theorem oct_low (n : Int) : (Value.int .u8 (IntKind.u8.wrap n) : Value) = bv (byteAt n 0) := by
  have := oct_shr n 0 0 rfl
  simpa using this

theorem byteAt_mod (n : Int) (i k : Nat) (h : i < k) : byteAt (n % (256 ^ k : Nat)) i = byteAt n i := by
  apply UInt8.toNat_inj.1
  have h1 := byteAt_toNat (n % (256 ^ k : Nat)) i
  have h2 := byteAt_toNat n i
  have : (n % (256 ^ k : Nat)) / (256 ^ i : Nat) % 256 = n / (256 ^ i : Nat) % 256 := by
    obtain ⟨j, rfl⟩ : ∃ j, k = i + (j + 1) := ⟨k - i - 1, by omega⟩
    have hp : (0 : Int) < (256 ^ i : Nat) := by exact_mod_cast Nat.pow_pos (by omega)
    have e1 : ((256 ^ (i + (j + 1)) : Nat) : Int) = (256 ^ i : Nat) * ((256 ^ j : Nat) * 256) := by
      rw [Nat.pow_add, Nat.pow_succ, Int.natCast_mul, Int.natCast_mul]
      rfl
    rw [e1]
    have e2 : n % ((256 ^ i : Nat) * ((256 ^ j : Nat) * 256)) = n - (256 ^ i : Nat) * (((256 ^ j : Nat) * 256) * (n / ((256 ^ i : Nat) * ((256 ^ j : Nat) * 256)))) := by
      rw [Int.emod_def, Int.mul_assoc]
    rw [e2]
    generalize n / ((256 ^ i : Nat) * ((256 ^ j : Nat) * 256)) = q
    have e3 : (n - (256 ^ i : Nat) * (((256 ^ j : Nat) * 256) * q)) / (256 ^ i : Nat) = n / (256 ^ i : Nat) - ((256 ^ j : Nat) * 256) * q := by
      rw [Int.sub_eq_add_neg, ← Int.mul_neg, Int.add_mul_ediv_left _ _ (by omega), Int.sub_eq_add_neg]
    rw [e3]
    have e4 : ((256 ^ j : Nat) : Int) * 256 * q = 256 * ((256 ^ j : Nat) * q) := by
      rw [Int.mul_comm ((256 ^ j : Nat) : Int) 256, Int.mul_assoc]
    rw [e4]
    omega
  omega

theorem be_mod (n : Int) (k : Nat) : ∀ j, j ≤ k → be j (n % (256 ^ k : Nat)) = be j n
  | 0, _ => rfl
  | j + 1, h => by rw [be, be, byteAt_mod n j k (by omega), be_mod n k j (by omega)]

theorem be2_u16 (n : Int) : be 2 (IntKind.u16.wrap n) = be 2 n := by
  rw [IntKind.wrap_u16]; exact be_mod n 2 2 (by omega)
theorem be4_u32 (n : Int) : be 4 (IntKind.u32.wrap n) = be 4 n := by
  rw [IntKind.wrap_u32]; exact be_mod n 4 4 (by omega)
theorem be8_u64 (n : Int) : be 8 (IntKind.u64.wrap n) = be 8 n := by
  rw [show IntKind.u64.wrap n = n % 18446744073709551616 by simp [IntKind.wrap, IntKind.bits, IntKind.signed]]; exact be_mod n 8 8 (by omega)

theorem u16_i16 (n : Int) : IntKind.u16.wrap (IntKind.i16.wrap n) = IntKind.u16.wrap n := by
  rw [IntKind.wrap_u16, IntKind.wrap_u16]
  simp only [IntKind.wrap, IntKind.bits, IntKind.signed, Bool.true_and, decide_eq_true_eq, show ((2 : Int) ^ 16) = 65536 from rfl, show ((2 : Int) ^ (16 - 1)) = 32768 from rfl]
  split <;> omega
theorem u32_i32 (n : Int) : IntKind.u32.wrap (IntKind.i32.wrap n) = IntKind.u32.wrap n := by
  rw [IntKind.wrap_u32, IntKind.wrap_u32, IntKind.wrap_i32]; omega
theorem be2_i16 (n : Int) : be 2 (IntKind.i16.wrap n) = be 2 n := by rw [← be2_u16, u16_i16, be2_u16]
theorem be4_i32 (n : Int) : be 4 (IntKind.i32.wrap n) = be 4 n := by rw [← be4_u32, u32_i32, be4_u32]

end Go.Kx
