/- Messages as they are read: plain functions, and what reading and writing are to each other. -/
import Derived.Test.YtlmelgjepdbakaaDoorRKxRd
namespace Go.Kx
open Go.RowKit
set_option linter.unusedSimpArgs false
set_option linter.unusedVariables false

/-! ### Numbers -/
def decInt (k : IntKind) (n : Nat) (l : List UInt8) : Option (Int × List UInt8) := if l.length < n then none else some (k.wrap (unbe (l.take n)), l.drop n)
def decSpan (n : Int) (l : List UInt8) : Option (List UInt8 × List UInt8) := if n < 0 ∨ (l.length : Int) < n then none else some (l.take n.toNat, l.drop n.toNat)
def decUvA : Nat → List UInt8 → Option (Nat × List UInt8)
  | _, [] => none
  | 0, b :: l => if b.toNat ≤ 15 then some (b.toNat, l) else none
  | i + 1, b :: l => if b.toNat < 128 then some (b.toNat, l) else (decUvA i l).map fun x => (b.toNat - 128 + 128 * x.1, x.2)
def decUv (l : List UInt8) : Option (Nat × List UInt8) := decUvA 4 l

theorem wrap_mod (k : IntKind) (x : Int) : k.wrap (x % 2 ^ k.bits) = k.wrap x := by
  simp only [IntKind.wrap, Int.emod_emod]

theorem emod_split (x : Int) (a : Int) (ha : 0 < a) : x % (a * 256) = (x / a) % 256 * a + x % a := by
  have h1 := Int.mul_ediv_add_emod x a
  have h2 := Int.mul_ediv_add_emod (x / a) 256
  have h3 : 0 ≤ x % a := Int.emod_nonneg _ (by omega)
  have h4 : x % a < a := Int.emod_lt_of_pos _ ha
  have h5 : 0 ≤ (x / a) % 256 := Int.emod_nonneg _ (by omega)
  have h6 : (x / a) % 256 < 256 := Int.emod_lt_of_pos _ (by omega)
  generalize (x / a) % 256 = r at *
  generalize x % a = s at *
  generalize x / a = d at *
  have e : x = (r * a + s) + (a * 256) * (d / 256) := by
    rw [← h1]
    conv => lhs; rw [← h2]
    rw [Int.mul_add, Int.mul_assoc, Int.mul_comm a r]
    omega
  rw [e, Int.add_mul_emod_self_left]
  have h8 : r * a ≤ 255 * a := Int.mul_le_mul_of_nonneg_right (by omega) (by omega)
  have h9 : 0 ≤ r * a := Int.mul_nonneg h5 (by omega)
  exact Int.emod_eq_of_lt (by omega) (by omega)

theorem unbe_be_acc (x : Int) (n : Nat) : ∀ acc : Nat, (((be n x).foldl (fun n b => n * 256 + b.toNat) acc : Nat) : Int) = acc * (256 ^ n : Nat) + x % (256 ^ n : Nat) := by
  induction n with
  | zero => intro acc; simp [be]
  | succ n ih =>
    intro acc
    rw [be, List.foldl_cons, ih]
    have hp : (0 : Int) < (256 ^ n : Nat) := by exact_mod_cast Nat.pow_pos (by omega)
    rw [show ((256 ^ (n + 1) : Nat) : Int) = (256 ^ n : Nat) * 256 by rw [Nat.pow_succ]; rfl, emod_split x _ hp, Int.natCast_add, byteAt_toNat, Int.natCast_mul]
    generalize (x / ((256 ^ n : Nat) : Int)) % 256 = r
    generalize ((256 ^ n : Nat) : Int) = a
    rw [Int.add_mul, Int.add_assoc]
    congr 1
    rw [Int.mul_assoc]
    congr 1
    exact Int.mul_comm _ _
theorem unbe_be (x : Int) (n : Nat) : ((unbe (be n x) : Nat) : Int) = x % (256 ^ n : Nat) := by
  have := unbe_be_acc x n 0
  simpa [unbe] using this

theorem decInt_be (k : IntKind) (n : Nat) (hb : k.bits = 8 * n) (x : Int) (hx : k.wrap x = x) (z : List UInt8) : decInt k n (be n x ++ z) = some (x, z) := by
  unfold decInt
  have hl := be_length n x
  rw [if_neg (by rw [List.length_append, hl]; omega), List.take_append_of_le_length (by omega), List.take_of_length_le (by omega), List.drop_append_of_le_length (by omega), List.drop_of_length_le (by omega), List.nil_append]
  rw [unbe_be, show ((256 ^ n : Nat) : Int) = 2 ^ k.bits by rw [hb, Int.natCast_pow, Int.pow_mul]; rfl, wrap_mod, hx]

theorem uvar_ne (n : Nat) : uvar n ≠ [] := by rw [uvar]; split <;> simp
theorem decUvA_uvar (z : List UInt8) : ∀ (i n : Nat), n < 16 * 128 ^ i → decUvA i (uvar n ++ z) = some (n, z)
  | 0, n, h => by
    rw [uvar_small (by omega), List.cons_append, List.nil_append, decUvA, UInt8.toNat_ofNat']
    rw [show n % 2 ^ 8 = n by omega, if_pos (by omega)]
  | i + 1, n, h => by
    by_cases hn : n < 128
    · rw [uvar_small hn, List.cons_append, List.nil_append, decUvA, UInt8.toNat_ofNat', show n % 2 ^ 8 = n by omega, if_pos hn]
    · rw [uvar_big hn, List.cons_append, decUvA, UInt8.toNat_ofNat', show (n % 128 + 128) % 2 ^ 8 = n % 128 + 128 by omega, if_neg (by omega), decUvA_uvar z i (n / 128) (by rw [Nat.pow_succ] at h; omega)]
      simp only [Option.map_some, Option.some.injEq, Prod.mk.injEq, and_true]
      omega
theorem decUv_uvar (n : Nat) (h : n < 4294967296) (z : List UInt8) : decUv (uvar n ++ z) = some (n, z) := decUvA_uvar z 4 n (by omega)

/-- A number that is read of so many octets fits them. -/
theorem decUvA_lt : ∀ (i : Nat) {l l' : List UInt8} {n : Nat}, decUvA i l = some (n, l') → n < 16 * 128 ^ i
  | 0, [], _, _, h => by simp [decUvA] at h
  | i + 1, [], _, _, h => by simp [decUvA] at h
  | 0, b :: l, l', n, h => by
    rw [decUvA] at h
    split at h
    · simp only [Option.some.injEq, Prod.mk.injEq] at h; omega
    · cases h
  | i + 1, b :: l, l', n, h => by
    rw [decUvA] at h
    have hb := b.toNat_lt
    split at h
    · rename_i hlt
      simp only [Option.some.injEq, Prod.mk.injEq] at h
      have : 0 < 128 ^ i := Nat.pow_pos (by omega)
      rw [Nat.pow_succ]; omega
    · obtain ⟨⟨m, l2⟩, hm, he⟩ := Option.map_eq_some_iff.1 h
      have := decUvA_lt i hm
      simp only [Prod.mk.injEq] at he
      rw [Nat.pow_succ]; omega
theorem decUv_lt {l l' : List UInt8} {n : Nat} (h : decUv l = some (n, l')) : n < 4294967296 := by have := decUvA_lt 4 h; omega

/-- More octets behind do no harm. -/
theorem decUvA_ext : ∀ (i : Nat) {l l' : List UInt8} {n : Nat} (z : List UInt8), decUvA i l = some (n, l') → decUvA i (l ++ z) = some (n, l' ++ z)
  | 0, [], _, _, _, h => by simp [decUvA] at h
  | i + 1, [], _, _, _, h => by simp [decUvA] at h
  | 0, b :: l, l', n, z, h => by
    rw [decUvA] at h
    rw [List.cons_append, decUvA]
    split at h
    · rename_i hb
      simp only [Option.some.injEq, Prod.mk.injEq] at h
      obtain ⟨rfl, rfl⟩ := h
      rw [if_pos hb]
    · cases h
  | i + 1, b :: l, l', n, z, h => by
    rw [decUvA] at h
    rw [List.cons_append, decUvA]
    split at h
    · rename_i hb
      simp only [Option.some.injEq, Prod.mk.injEq] at h
      obtain ⟨rfl, rfl⟩ := h
      rw [if_pos hb]
    · rename_i hb
      rw [if_neg hb]
      obtain ⟨⟨m, l2⟩, hm, he⟩ := Option.map_eq_some_iff.1 h
      simp only [Prod.mk.injEq] at he
      obtain ⟨rfl, rfl⟩ := he
      rw [decUvA_ext i z hm]
      rfl
theorem decUv_ext {l l' : List UInt8} {n : Nat} (z : List UInt8) (h : decUv l = some (n, l')) : decUv (l ++ z) = some (n, l' ++ z) := decUvA_ext 4 z h

theorem decInt_ext {k : IntKind} {n : Nat} {l l' : List UInt8} {x : Int} (z : List UInt8) (h : decInt k n l = some (x, l')) : decInt k n (l ++ z) = some (x, l' ++ z) := by
  unfold decInt at h ⊢
  split at h
  · cases h
  · rename_i hl
    simp only [Option.some.injEq, Prod.mk.injEq] at h
    obtain ⟨rfl, rfl⟩ := h
    rw [if_neg (by rw [List.length_append]; omega), List.take_append_of_le_length (by omega), List.drop_append_of_le_length (by omega)]
theorem decSpan_ext {n : Int} {l l' x : List UInt8} (z : List UInt8) (h : decSpan n l = some (x, l')) : decSpan n (l ++ z) = some (x, l' ++ z) := by
  unfold decSpan at h ⊢
  split at h
  · cases h
  · rename_i hl
    simp only [Option.some.injEq, Prod.mk.injEq] at h
    obtain ⟨rfl, rfl⟩ := h
    rw [if_neg (by rw [List.length_append]; omega), List.take_append_of_le_length (by omega), List.drop_append_of_le_length (by omega)]

/-- How many octets a number takes, and how many its shortest form would. -/
theorem uvar_len_le : ∀ (i : Nat) {l l' : List UInt8} {n : Nat}, decUvA i l = some (n, l') → (uvar n).length + l'.length ≤ l.length
  | 0, [], _, _, h => by simp [decUvA] at h
  | i + 1, [], _, _, h => by simp [decUvA] at h
  | 0, b :: l, l', n, h => by
    rw [decUvA] at h
    split at h
    · simp only [Option.some.injEq, Prod.mk.injEq] at h
      obtain ⟨rfl, rfl⟩ := h
      rw [uvar_small (by omega)]
      simp; omega
    · cases h
  | i + 1, b :: l, l', n, h => by
    rw [decUvA] at h
    split at h
    · rename_i hb
      simp only [Option.some.injEq, Prod.mk.injEq] at h
      obtain ⟨rfl, rfl⟩ := h
      rw [uvar_small hb]
      simp; omega
    · obtain ⟨⟨m, l2⟩, hm, he⟩ := Option.map_eq_some_iff.1 h
      simp only [Prod.mk.injEq] at he
      obtain ⟨rfl, rfl⟩ := he
      have := uvar_len_le i hm
      by_cases hn : b.toNat - 128 + 128 * m < 128
      · rw [uvar_small hn]
        have h1 : 1 ≤ (uvar m).length := by have := uvar_ne m; cases h : uvar m with | nil => exact absurd h this | cons _ _ => simp
        simp; omega
      · rw [uvar_big hn]
        have hb := b.toNat_lt
        rw [show (b.toNat - 128 + 128 * m) / 128 = m by omega]
        simp; omega
theorem decUv_len {l l' : List UInt8} {n : Nat} (h : decUv l = some (n, l')) : (uvar n).length + l'.length ≤ l.length := uvar_len_le 4 h
theorem uvar_pos (n : Nat) : 1 ≤ (uvar n).length := by have := uvar_ne n; cases h : uvar n with | nil => exact absurd h this | cons _ _ => simp
theorem decInt_len {k : IntKind} {n : Nat} {l l' : List UInt8} {x : Int} (h : decInt k n l = some (x, l')) : n + l'.length = l.length := by
  unfold decInt at h
  split at h
  · cases h
  · simp only [Option.some.injEq, Prod.mk.injEq] at h
    obtain ⟨rfl, rfl⟩ := h
    simp; omega
theorem decSpan_len {n : Int} {l l' x : List UInt8} (h : decSpan n l = some (x, l')) : (x.length : Int) = n ∧ x.length + l'.length = l.length := by
  unfold decSpan at h
  split at h
  · cases h
  · simp only [Option.some.injEq, Prod.mk.injEq] at h
    obtain ⟨rfl, rfl⟩ := h
    simp; omega
theorem decSpan_app {n : Int} (x z : List UInt8) (h : n = x.length) : decSpan n (x ++ z) = some (x, z) := by
  subst h
  unfold decSpan
  rw [if_neg (by rw [List.length_append]; omega), Int.toNat_natCast, List.take_append_of_le_length (by omega), List.take_of_length_le (by omega), List.drop_append_of_le_length (by omega), List.drop_of_length_le (by omega), List.nil_append]

theorem wrap_emod (k : IntKind) (x : Int) : k.wrap x % 2 ^ k.bits = x % 2 ^ k.bits := by
  simp only [IntKind.wrap]
  split
  · rw [show x % 2 ^ k.bits - 2 ^ k.bits = x % 2 ^ k.bits + 2 ^ k.bits * (-1) by omega, Int.add_mul_emod_self_left, Int.emod_emod]
  · rw [Int.emod_emod]
theorem wrap_in (k : IntKind) (x : Int) : k.wrap (k.wrap x) = k.wrap x := by
  rw [← wrap_mod k (k.wrap x), wrap_emod, wrap_mod]
theorem decInt_in {k : IntKind} {n : Nat} {l l' : List UInt8} {x : Int} (h : decInt k n l = some (x, l')) : k.wrap x = x := by
  unfold decInt at h
  split at h
  · cases h
  · simp only [Option.some.injEq, Prod.mk.injEq] at h
    obtain ⟨rfl, rfl⟩ := h
    exact wrap_in _ _
end Go.Kx
