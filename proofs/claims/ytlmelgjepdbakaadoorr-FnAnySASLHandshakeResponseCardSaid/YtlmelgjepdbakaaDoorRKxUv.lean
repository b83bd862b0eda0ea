/- Branches that are known, and numbers in groups of seven bits: plain lemmas that the writing functions want. -/
import Derived.Test.YtlmelgjepdbakaaDoorRKxBe
namespace Go.Kx
open Go.RowKit
set_option linter.unusedSimpArgs false
set_option linter.unusedVariables false

theorem CWL.split {P : Program} {n : Nat} {b : List Code} : ∀ {a : List Code} {σ : Fm} {w : World} {Q : Exit → Fm → World → Prop}, CWL P n (a ++ b) σ w Q → CWL P n a σ w (Then (fun σ' w' => CWL P n b σ' w' Q) Q) := by
  intro a
  induction a with
  | nil => exact fun h => h
  | cons c a ih =>
    intro σ w Q h
    refine CW.mono h fun e σ w h' => ?_
    cases e with
    | normal => exact ih h'
    | _ => exact h'
section
variable {P : Program} {n : Nat} {c : Operand} {x y : Code} {cs : List Code} {σ : Fm} {w : World} {Q : Exit → Fm → World → Prop}
theorem CWL.condT (hc : ev σ c = .bool true) (h : CWL P n (flat x ++ cs) σ w Q) : CWL P n (.cond c x y :: cs) σ w Q :=
  CWL.cons (CW.cond hc (CW.of_flat (CWL.split h)))
theorem CWL.condF (hc : ev σ c = .bool false) (h : CWL P n (flat y ++ cs) σ w Q) : CWL P n (.cond c x y :: cs) σ w Q :=
  CWL.cons (CW.cond hc (CW.of_flat (CWL.split h)))
theorem CWL.ret (h : Q .ret σ w) : CWL P n (.ret :: cs) σ w Q := CWL.cons (CW.ret h)
/-- A block that is left by a return alone, or by its end. -/
theorem CWL.block {id : Nat} {c : Code} (h : CWL P n (flat c) σ w (InBlock id (Then (fun σ' w' => CWL P n cs σ' w' Q) Q))) : CWL P n (.block id c :: cs) σ w Q :=
  CWL.cons (CW.block (CW.of_flat h))
end

theorem byte_bv (n : Int) (m : Nat) (h : n % 256 = m) (hm : m < 256) : (Value.int .u8 (IntKind.u8.wrap n) : Value) = bv (UInt8.ofNat m) := by
  unfold bv
  rw [IntKind.wrap_u8, h, UInt8.toNat_ofNat']
  congr 1
  omega

theorem and127 (a : Nat) (h : a < 4294967296) : bits .and .u32 (a : Int) 127 = ((a % 128 : Nat) : Int) := by
  have h1 : (BitVec.ofInt 32 (a : Int) &&& BitVec.ofInt 32 127).toNat = a % 128 := by
    rw [BitVec.toNat_and, BitVec.toNat_ofInt, BitVec.toNat_ofInt]
    have e1 : ((a : Int) % ((2 ^ 32 : Nat) : Int)).toNat = a := by omega
    have e2 : ((127 : Int) % ((2 ^ 32 : Nat) : Int)).toNat = 2 ^ 7 - 1 := by decide
    rw [e1, e2, Nat.and_two_pow_sub_one_eq_mod]
  show IntKind.u32.wrap ((BitVec.ofInt 32 (a : Int) &&& BitVec.ofInt 32 127).toNat : Int) = _
  rw [h1, IntKind.wrap_u32]
  omega
theorem or128 (a : Nat) (h : a < 128) : bits .or .u32 (a : Int) 128 = ((a + 128 : Nat) : Int) := by
  have key : ∀ a : Fin 128, bits .or .u32 ((a.1 : Nat) : Int) 128 = ((a.1 + 128 : Nat) : Int) := by decide +kernel
  exact key ⟨a, h⟩

/-- A group that is not the last one. -/
theorem grp (n k : Nat) (hn : n < 4294967296) : (Value.int .u8 (IntKind.u8.wrap (bits .or .u32 (bits .and .u32 ((n : Int) / 2 ^ k) 127) 128)) : Value) = bv (UInt8.ofNat (n / 2 ^ k % 128 + 128)) := by
  have e : ((n : Int) / 2 ^ k) = ((n / 2 ^ k : Nat) : Int) := by rw [Int.natCast_ediv, Int.natCast_pow]; rfl
  have hd : n / 2 ^ k < 4294967296 := Nat.lt_of_le_of_lt (Nat.div_le_self _ _) hn
  rw [e, and127 _ hd, or128 _ (Nat.mod_lt _ (by decide))]
  exact byte_bv _ _ (by omega) (by omega)
theorem grp0 (n : Nat) (hn : n < 4294967296) : (Value.int .u8 (IntKind.u8.wrap (bits .or .u32 (bits .and .u32 (n : Int) 127) 128)) : Value) = bv (UInt8.ofNat (n % 128 + 128)) := by
  have := grp n 0 hn
  simpa using this
theorem grpL (n k : Nat) (h : n / 2 ^ k < 128) : (Value.int .u8 (IntKind.u8.wrap ((n : Int) / 2 ^ k)) : Value) = bv (UInt8.ofNat (n / 2 ^ k)) := by
  have e : ((n : Int) / 2 ^ k) = ((n / 2 ^ k : Nat) : Int) := by rw [Int.natCast_ediv, Int.natCast_pow]; rfl
  rw [e]
  generalize n / 2 ^ k = m at h ⊢
  exact byte_bv _ _ (by omega) (by omega)
theorem grpL0 (n : Nat) (h : n < 128) : (Value.int .u8 (IntKind.u8.wrap (n : Int)) : Value) = bv (UInt8.ofNat n) := byte_bv _ _ (by omega) (by omega)

theorem uv1 {n : Nat} (h : n < 128) : uvar n = [UInt8.ofNat n] := uvar_small h
theorem uv2 {n : Nat} (h : 128 ≤ n) (h' : n < 16384) : uvar n = [UInt8.ofNat (n % 128 + 128), UInt8.ofNat (n / 2 ^ 7)] := by
  rw [uvar_big (by omega), uvar_small (by omega)]
theorem uv3 {n : Nat} (h : 16384 ≤ n) (h' : n < 2097152) : uvar n = [UInt8.ofNat (n % 128 + 128), UInt8.ofNat (n / 2 ^ 7 % 128 + 128), UInt8.ofNat (n / 2 ^ 14)] := by
  rw [uvar_big (by omega), uv2 (by omega) (by omega), show n / 128 / 2 ^ 7 = n / 2 ^ 14 by omega]
theorem uv4 {n : Nat} (h : 2097152 ≤ n) (h' : n < 268435456) : uvar n = [UInt8.ofNat (n % 128 + 128), UInt8.ofNat (n / 2 ^ 7 % 128 + 128), UInt8.ofNat (n / 2 ^ 14 % 128 + 128), UInt8.ofNat (n / 2 ^ 21)] := by
  rw [uvar_big (by omega), uv3 (by omega) (by omega), show n / 128 / 2 ^ 14 = n / 2 ^ 21 by omega, show n / 128 / 2 ^ 7 = n / 2 ^ 14 by omega]
theorem uv5 {n : Nat} (h : 268435456 ≤ n) (h' : n < 4294967296) : uvar n = [UInt8.ofNat (n % 128 + 128), UInt8.ofNat (n / 2 ^ 7 % 128 + 128), UInt8.ofNat (n / 2 ^ 14 % 128 + 128), UInt8.ofNat (n / 2 ^ 21 % 128 + 128), UInt8.ofNat (n / 2 ^ 28)] := by
  rw [uvar_big (by omega), uv4 (by omega) (by omega), show n / 128 / 2 ^ 21 = n / 2 ^ 28 by omega, show n / 128 / 2 ^ 14 = n / 2 ^ 21 by omega, show n / 128 / 2 ^ 7 = n / 2 ^ 14 by omega]

/-- How many octets a number takes. -/
def uvLen (n : Nat) : Nat := if n < 128 then 1 else if n < 16384 then 2 else if n < 2097152 then 3 else if n < 268435456 then 4 else 5
def bl8 (t : Nat) : Nat := if t = 0 then 0 else if t < 2 then 1 else if t < 4 then 2 else if t < 8 then 3 else if t < 16 then 4 else if t < 32 then 5 else if t < 64 then 6 else if t < 128 then 7 else 8
def bl32 (n : Nat) : Nat := if 65536 ≤ n then (if 256 ≤ n / 65536 then 24 + bl8 (n / 65536 / 256) else 16 + bl8 (n / 65536)) else (if 256 ≤ n then 8 + bl8 (n / 256) else bl8 n)
/-- What the table of lengths says of a count of bits. -/
def utab (j : Nat) : Nat := if j < 8 then 1 else if j < 15 then 2 else if j < 22 then 3 else if j < 29 then 4 else 5

theorem bl8_le {t : Nat} : bl8 t ≤ 8 := by unfold bl8; repeat' split <;> try omega
theorem utab_bl32 {n : Nat} (h : n < 4294967296) : utab (bl32 n) = uvLen n := by
  have k0 : ∀ t : Fin 256, utab (bl8 t.1) = if t.1 < 128 then 1 else 2 := by decide +kernel
  have k1 : ∀ t : Fin 256, t.1 ≠ 0 → utab (8 + bl8 t.1) = if t.1 < 64 then 2 else 3 := by decide +kernel
  have k2 : ∀ t : Fin 256, t.1 ≠ 0 → utab (16 + bl8 t.1) = if t.1 < 32 then 3 else 4 := by decide +kernel
  have k3 : ∀ t : Fin 256, t.1 ≠ 0 → utab (24 + bl8 t.1) = if t.1 < 16 then 4 else 5 := by decide +kernel
  unfold bl32 uvLen
  by_cases h1 : 65536 ≤ n
  · rw [if_pos h1]
    by_cases h2 : 256 ≤ n / 65536
    · rw [if_pos h2]
      have := k3 ⟨n / 65536 / 256, by omega⟩ (by show n / 65536 / 256 ≠ 0; omega)
      simp only at this
      rw [this]
      repeat' split <;> try omega
    · rw [if_neg h2]
      have := k2 ⟨n / 65536, by omega⟩ (by show n / 65536 ≠ 0; omega)
      simp only at this
      rw [this]
      repeat' split <;> try omega
  · rw [if_neg h1]
    by_cases h2 : 256 ≤ n
    · rw [if_pos h2]
      have := k1 ⟨n / 256, by omega⟩ (by show n / 256 ≠ 0; omega)
      simp only at this
      rw [this]
      repeat' split <;> try omega
    · rw [if_neg h2]
      have := k0 ⟨n, by omega⟩
      simp only at this
      rw [this]
      repeat' split <;> try omega
theorem bl32_le {n : Nat} : bl32 n ≤ 32 := by
  unfold bl32
  have := @bl8_le (n / 65536 / 256)
  have := @bl8_le (n / 65536)
  have := @bl8_le (n / 256)
  have := @bl8_le n
  repeat' split <;> try omega

theorem wrap_u32_nat (n : Nat) : IntKind.u32.wrap (n : Int) = (word n : Int) := by rw [IntKind.wrap_u32]; unfold word; omega
theorem word_succ (n : Nat) : IntKind.u32.wrap (1 + IntKind.u32.wrap (n : Int)) = (word (n + 1) : Int) := by rw [IntKind.wrap_u32, IntKind.wrap_u32]; unfold word; omega
theorem word_lt (n : Nat) : word n < 4294967296 := Nat.mod_lt _ (by decide)
theorem uvar_len {n : Nat} (h : n < 4294967296) : (uvar n).length = uvLen n := by
  unfold uvLen
  split
  · rw [uv1 (by omega)]; rfl
  · split
    · rw [uv2 (by omega) (by omega)]; rfl
    · split
      · rw [uv3 (by omega) (by omega)]; rfl
      · split
        · rw [uv4 (by omega) (by omega)]; rfl
        · rw [uv5 (by omega) (by omega)]; rfl
theorem i64_nat (n : Nat) (h : n < 9223372036854775808) : IntKind.i64.wrap (n : Int) = n := by
  rw [show IntKind.i64.wrap (n : Int) = (if (n : Int) % 18446744073709551616 ≥ 9223372036854775808 then (n : Int) % 18446744073709551616 - 18446744073709551616 else (n : Int) % 18446744073709551616) by simp [IntKind.wrap, IntKind.bits, IntKind.signed]]
  split <;> omega

end Go.Kx
