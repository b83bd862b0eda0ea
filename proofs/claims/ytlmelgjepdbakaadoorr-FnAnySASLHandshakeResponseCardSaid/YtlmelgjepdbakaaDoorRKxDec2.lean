/- Values and parts as they are read; reading what was written; what is read can be written and read again. -/
import Derived.Test.YtlmelgjepdbakaaDoorRKxDec
namespace Go.Kx
open Go.RowKit
set_option linter.unusedSimpArgs false
set_option linter.unusedVariables false

def decBool : List UInt8 → Option (V × List UInt8)
  | [] => none
  | b :: l => some (.b (b != 0), l)
def decStrLen (fx : Bool) (l : List UInt8) : Option (Int × List UInt8) := if fx then (decUv l).map fun x => ((x.1 : Int) - 1, x.2) else decInt .i16 2 l
def decBytLen (fx : Bool) (l : List UInt8) : Option (Int × List UInt8) := if fx then (decUv l).map fun x => ((x.1 : Int) - 1, x.2) else decInt .i32 4 l
def decI (k : IntKind) (n : Nat) (l : List UInt8) : Option (V × List UInt8) := (decInt k n l).map fun x => (.i x.1, x.2)

def decW (fx : Bool) : Wt → List UInt8 → Option (V × List UInt8)
  | .bool, l => decBool l
  | .i8, l => decI .i8 1 l
  | .e8, l => decI .i8 1 l
  | .i16, l => decI .i16 2 l
  | .u16, l => decI .u16 2 l
  | .i32, l => decI .i32 4 l
  | .i64, l => decI .i64 8 l
  | .f64, l => (decInt .u64 8 l).map fun x => (.f x.1.toNat, x.2)
  | .uuid, l => (decSpan 16 l).map fun x => (.u x.1, x.2)
  | .str, l => (decStrLen fx l).bind fun n => (decSpan n.1 n.2).map fun x => (.s x.1, x.2)
  | .nstr, l => (decStrLen fx l).bind fun n => if n.1 < 0 then some (.nsN, n.2) else (decSpan n.1 n.2).map fun x => (.ns x.1, x.2)
  | .byt, l => (decBytLen fx l).bind fun n => if n.1 = -1 then some (.by_ [], n.2) else (decSpan n.1 n.2).map fun x => (.by_ x.1, x.2)
  | .nbyt, l => (decBytLen fx l).bind fun n => if n.1 < 0 then some (.byN, n.2) else (decSpan n.1 n.2).map fun x => (.by_ x.1, x.2)

def okStr (fx : Bool) (l : List UInt8) : Prop := if fx then l.length + 1 < 4294967296 else l.length < 32768
def okByt (fx : Bool) (l : List UInt8) : Prop := if fx then l.length + 1 < 4294967296 else l.length < 2147483648

/-- A value that is written and read again as it is. -/
def GoodW (fx : Bool) : Wt → V → Prop
  | .bool, .b _ => True
  | .i8, .i n => IntKind.i8.wrap n = n
  | .e8, .i n => IntKind.i8.wrap n = n
  | .i16, .i n => IntKind.i16.wrap n = n
  | .u16, .i n => IntKind.u16.wrap n = n
  | .i32, .i n => IntKind.i32.wrap n = n
  | .i64, .i n => IntKind.i64.wrap n = n
  | .f64, .f n => n < 18446744073709551616
  | .uuid, .u l => l.length = 16
  | .str, .s l => okStr fx l
  | .nstr, .nsN => True
  | .nstr, .ns l => okStr fx l
  | .byt, .by_ l => okByt fx l
  | .nbyt, .byN => True
  | .nbyt, .by_ l => okByt fx l
  | _, _ => False

theorem word_eq {n : Nat} (h : n < 4294967296) : word n = n := Nat.mod_eq_of_lt h
theorem decI_be (k : IntKind) (n : Nat) (hb : k.bits = 8 * n) (x : Int) (hx : k.wrap x = x) (z : List UInt8) : decI k n (be n x ++ z) = some (.i x, z) := by
  unfold decI; rw [decInt_be k n hb x hx z]; rfl
theorem i16_len {n : Nat} (h : n < 32768) : IntKind.i16.wrap (n : Int) = n := by
  simp only [IntKind.wrap, IntKind.bits, IntKind.signed, Bool.true_and, decide_eq_true_eq, show ((2 : Int) ^ 16) = 65536 from rfl, show ((2 : Int) ^ (16 - 1)) = 32768 from rfl]
  split <;> omega
theorem i32_len {n : Nat} (h : n < 2147483648) : IntKind.i32.wrap (n : Int) = n := by rw [IntKind.wrap_i32]; omega
theorem decStrLen_enc {fx : Bool} {l : List UInt8} (h : okStr fx l) (z : List UInt8) : (decStrLen fx (encStr fx l ++ z)) = some ((l.length : Int), l ++ z) := by
  unfold okStr at h
  unfold decStrLen encStr
  cases fx
  · simp only [Bool.false_eq_true, if_false] at h ⊢
    rw [List.append_assoc, decInt_be .i16 2 rfl _ (i16_len h)]
  · simp only [if_true] at h ⊢
    rw [List.append_assoc, word_eq h, decUv_uvar _ h]
    simp only [Option.map_some, Option.some.injEq, Prod.mk.injEq, and_true]
    omega
theorem decBytLen_enc {fx : Bool} {l : List UInt8} (h : okByt fx l) (z : List UInt8) : (decBytLen fx (encByt fx l ++ z)) = some ((l.length : Int), l ++ z) := by
  unfold okByt at h
  unfold decBytLen encByt
  cases fx
  · simp only [Bool.false_eq_true, if_false] at h ⊢
    rw [List.append_assoc, decInt_be .i32 4 rfl _ (i32_len h)]
  · simp only [if_true] at h ⊢
    rw [List.append_assoc, word_eq h, decUv_uvar _ h]
    simp only [Option.map_some, Option.some.injEq, Prod.mk.injEq, and_true]
    omega
theorem decStrLen_nul (fx : Bool) (z : List UInt8) : decStrLen fx ((if fx then uvar 0 else be 2 (-1)) ++ z) = some (-1, z) := by
  unfold decStrLen
  cases fx
  · simp only [Bool.false_eq_true, if_false]
    exact decInt_be .i16 2 rfl _ (by decide) z
  · simp only [if_true]
    rw [decUv_uvar 0 (by decide)]
    rfl
theorem decBytLen_nul (fx : Bool) (z : List UInt8) : decBytLen fx ((if fx then uvar 0 else be 4 (-1)) ++ z) = some (-1, z) := by
  unfold decBytLen
  cases fx
  · simp only [Bool.false_eq_true, if_false]
    exact decInt_be .i32 4 rfl _ (by decide) z
  · simp only [if_true]
    rw [decUv_uvar 0 (by decide)]
    rfl

theorem decW_encW {fx : Bool} {w : Wt} {u : V} (h : GoodW fx w u) (z : List UInt8) : decW fx w (encW fx w u ++ z) = some (u, z) := by
  cases w <;> cases u <;> first | exact h.elim | skip
  case bool.b x => cases x <;> rfl
  case i8.i n => exact decI_be .i8 1 rfl n h z
  case e8.i n => exact decI_be .i8 1 rfl n h z
  case i16.i n => exact decI_be .i16 2 rfl n h z
  case u16.i n => exact decI_be .u16 2 rfl n h z
  case i32.i n => exact decI_be .i32 4 rfl n h z
  case i64.i n => exact decI_be .i64 8 rfl n h z
  case f64.f n =>
    have hw : IntKind.u64.wrap (n : Int) = n := by
      have : n < 18446744073709551616 := h
      rw [show IntKind.u64.wrap (n : Int) = (n : Int) % 18446744073709551616 by simp [IntKind.wrap, IntKind.bits, IntKind.signed]]; omega
    simp only [decW, encW]
    rw [decInt_be .u64 8 rfl _ hw]
    simp
  case uuid.u l =>
    have h : l.length = 16 := h
    simp only [decW, encW]
    rw [decSpan_app l z (by omega)]
    rfl
  case str.s l =>
    simp only [decW, encW]
    rw [decStrLen_enc h]
    simp only [Option.bind_some]
    rw [decSpan_app l z rfl]
    rfl
  case nstr.nsN =>
    simp only [decW, encW]
    rw [decStrLen_nul]
    simp
  case nstr.ns l =>
    simp only [decW, encW]
    rw [decStrLen_enc h]
    simp only [Option.bind_some]
    rw [if_neg (by omega), decSpan_app l z rfl]
    rfl
  case byt.by_ l =>
    simp only [decW, encW]
    rw [decBytLen_enc h]
    simp only [Option.bind_some]
    rw [if_neg (by omega), decSpan_app l z rfl]
    rfl
  case nbyt.byN =>
    simp only [decW, encW]
    rw [decBytLen_nul]
    simp
  case nbyt.by_ l =>
    simp only [decW, encW]
    rw [decBytLen_enc h]
    simp only [Option.bind_some]
    rw [if_neg (by omega), decSpan_app l z rfl]
    rfl

theorem map_ext {α β : Type} {f : α × List UInt8 → β × List UInt8} {o : Option (α × List UInt8)} {o' : Option (α × List UInt8)} {x : β} {l' z : List UInt8} (hf : ∀ a l, f (a, l) = ((f (a, [])).1, l))
    (ho : ∀ a l, o = some (a, l) → o' = some (a, l ++ z)) (h : o.map f = some (x, l')) : o'.map f = some (x, l' ++ z) := by
  obtain ⟨⟨a, l⟩, h1, h2⟩ := Option.map_eq_some_iff.1 h
  rw [ho a l h1]
  rw [hf] at h2
  simp only [Prod.mk.injEq] at h2
  simp only [Option.map_some]
  rw [hf, h2.1, h2.2]
theorem decStrLen_ext {fx : Bool} {l l' : List UInt8} {n : Int} (z : List UInt8) (h : decStrLen fx l = some (n, l')) : decStrLen fx (l ++ z) = some (n, l' ++ z) := by
  unfold decStrLen at h ⊢
  cases fx
  · exact decInt_ext z h
  · exact map_ext (fun _ _ => rfl) (fun a l1 h => decUv_ext z h) h
theorem decBytLen_ext {fx : Bool} {l l' : List UInt8} {n : Int} (z : List UInt8) (h : decBytLen fx l = some (n, l')) : decBytLen fx (l ++ z) = some (n, l' ++ z) := by
  unfold decBytLen at h ⊢
  cases fx
  · exact decInt_ext z h
  · exact map_ext (fun _ _ => rfl) (fun a l1 h => decUv_ext z h) h
theorem decW_ext {fx : Bool} {w : Wt} {l l' : List UInt8} {u : V} (z : List UInt8) (h : decW fx w l = some (u, l')) : decW fx w (l ++ z) = some (u, l' ++ z) := by
  have hi : ∀ k n, decI k n l = some (u, l') → decI k n (l ++ z) = some (u, l' ++ z) := fun k n h => map_ext (fun _ _ => rfl) (fun a l1 h => decInt_ext z h) h
  cases w <;> simp only [decW] at h ⊢
  case bool =>
    cases l with
    | nil => cases h
    | cons b l => simp only [decBool, Option.some.injEq, Prod.mk.injEq, List.cons_append] at h ⊢; exact ⟨h.1, by rw [h.2]⟩
  case i8 => exact hi _ _ h
  case e8 => exact hi _ _ h
  case i16 => exact hi _ _ h
  case u16 => exact hi _ _ h
  case i32 => exact hi _ _ h
  case i64 => exact hi _ _ h
  case f64 => exact map_ext (fun _ _ => rfl) (fun a l1 h => decInt_ext z h) h
  case uuid => exact map_ext (fun _ _ => rfl) (fun a l1 h => decSpan_ext z h) h
  case str =>
    obtain ⟨⟨n, l1⟩, h1, h2⟩ := Option.bind_eq_some_iff.1 h
    rw [decStrLen_ext z h1]
    exact map_ext (fun _ _ => rfl) (fun a l1 h => decSpan_ext z h) h2
  case nstr =>
    obtain ⟨⟨n, l1⟩, h1, h2⟩ := Option.bind_eq_some_iff.1 h
    rw [decStrLen_ext z h1]
    simp only [Option.bind_some] at h2 ⊢
    split at h2
    · rename_i hn
      rw [if_pos hn]
      simp only [Option.some.injEq, Prod.mk.injEq] at h2 ⊢
      exact ⟨h2.1, by rw [h2.2]⟩
    · rename_i hn
      rw [if_neg hn]
      exact map_ext (fun _ _ => rfl) (fun a l1 h => decSpan_ext z h) h2
  case byt =>
    obtain ⟨⟨n, l1⟩, h1, h2⟩ := Option.bind_eq_some_iff.1 h
    rw [decBytLen_ext z h1]
    simp only [Option.bind_some] at h2 ⊢
    split at h2
    · rename_i hn
      rw [if_pos hn]
      simp only [Option.some.injEq, Prod.mk.injEq] at h2 ⊢
      exact ⟨h2.1, by rw [h2.2]⟩
    · rename_i hn
      rw [if_neg hn]
      exact map_ext (fun _ _ => rfl) (fun a l1 h => decSpan_ext z h) h2
  case nbyt =>
    obtain ⟨⟨n, l1⟩, h1, h2⟩ := Option.bind_eq_some_iff.1 h
    rw [decBytLen_ext z h1]
    simp only [Option.bind_some] at h2 ⊢
    split at h2
    · rename_i hn
      rw [if_pos hn]
      simp only [Option.some.injEq, Prod.mk.injEq] at h2 ⊢
      exact ⟨h2.1, by rw [h2.2]⟩
    · rename_i hn
      rw [if_neg hn]
      exact map_ext (fun _ _ => rfl) (fun a l1 h => decSpan_ext z h) h2

/-- A length that is read: the octets of its shortest form. -/
theorem decStrLen_len {fx : Bool} {l l' : List UInt8} {n : Int} (h : decStrLen fx l = some (n, l')) : l'.length ≤ l.length ∧ (fx = true → -1 ≤ n ∧ n < 4294967295 ∧ (uvar (n + 1).toNat).length + l'.length ≤ l.length) ∧ (fx = false → -32768 ≤ n ∧ n < 32768 ∧ 2 + l'.length = l.length) := by
  unfold decStrLen at h
  cases fx
  · have h1 := decInt_len h
    have h2 := decInt_in h
    refine ⟨by omega, (fun h => by cases h), fun _ => ?_⟩
    simp only [IntKind.wrap, IntKind.bits, IntKind.signed, Bool.true_and, decide_eq_true_eq, show ((2 : Int) ^ 16) = 65536 from rfl, show ((2 : Int) ^ (16 - 1)) = 32768 from rfl] at h2
    split at h2 <;> omega
  · obtain ⟨⟨m, l1⟩, h1, h2⟩ := Option.map_eq_some_iff.1 h
    simp only [Prod.mk.injEq] at h2
    obtain ⟨rfl, rfl⟩ := h2
    have h3 := decUv_len h1
    have h4 := decUv_lt h1
    refine ⟨by omega, fun _ => ⟨by omega, by omega, ?_⟩, fun h => by cases h⟩
    rw [show ((m : Int) - 1 + 1).toNat = m by omega]
    exact h3
theorem decBytLen_len {fx : Bool} {l l' : List UInt8} {n : Int} (h : decBytLen fx l = some (n, l')) : l'.length ≤ l.length ∧ (fx = true → -1 ≤ n ∧ n < 4294967295 ∧ (uvar (n + 1).toNat).length + l'.length ≤ l.length) ∧ (fx = false → n < 2147483648 ∧ 4 + l'.length = l.length) := by
  unfold decBytLen at h
  cases fx
  · have h1 := decInt_len h
    have h2 := decInt_in h
    refine ⟨by omega, (fun h => by cases h), fun _ => ?_⟩
    rw [IntKind.wrap_i32] at h2
    omega
  · obtain ⟨⟨m, l1⟩, h1, h2⟩ := Option.map_eq_some_iff.1 h
    simp only [Prod.mk.injEq] at h2
    obtain ⟨rfl, rfl⟩ := h2
    have h3 := decUv_len h1
    have h4 := decUv_lt h1
    refine ⟨by omega, fun _ => ⟨by omega, by omega, ?_⟩, fun h => by cases h⟩
    rw [show ((m : Int) - 1 + 1).toNat = m by omega]
    exact h3

theorem encStr_len {fx : Bool} {l l1 x : List UInt8} {n : Int} (h : decStrLen fx l = some (n, l1)) (hx : (x.length : Int) = n) : okStr fx x ∧ (encStr fx x).length + l1.length ≤ l.length + x.length := by
  obtain ⟨h0, h1, h2⟩ := decStrLen_len h
  unfold okStr encStr
  cases fx
  · have := h2 rfl
    simp only [Bool.false_eq_true, if_false, List.length_append, be_length]
    omega
  · have := h1 rfl
    simp only [if_true, List.length_append]
    rw [word_eq (by omega), show x.length + 1 = (n + 1).toNat by omega]
    omega
theorem encByt_len {fx : Bool} {l l1 x : List UInt8} {n : Int} (h : decBytLen fx l = some (n, l1)) (hx : (x.length : Int) = n) : okByt fx x ∧ (encByt fx x).length + l1.length ≤ l.length + x.length := by
  obtain ⟨h0, h1, h2⟩ := decBytLen_len h
  unfold okByt encByt
  cases fx
  · have := h2 rfl
    simp only [Bool.false_eq_true, if_false, List.length_append, be_length]
    omega
  · have := h1 rfl
    simp only [if_true, List.length_append]
    rw [word_eq (by omega), show x.length + 1 = (n + 1).toNat by omega]
    omega
theorem encNul_len {fx : Bool} (k : Nat) : ((if fx then uvar 0 else be k (-1)).length : Nat) = if fx then 1 else k := by
  cases fx
  · simp [be_length]
  · simp [uvar_small]

theorem decI_good {k : IntKind} {n : Nat} {l l' : List UInt8} {u : V} (h : decI k n l = some (u, l')) : ∃ x, u = .i x ∧ k.wrap x = x ∧ n + l'.length = l.length := by
  obtain ⟨⟨m, l1⟩, h1, h2⟩ := Option.map_eq_some_iff.1 h
  simp only [Prod.mk.injEq] at h2
  obtain ⟨rfl, rfl⟩ := h2
  exact ⟨m, rfl, decInt_in h1, decInt_len h1⟩

theorem decW_good {fx : Bool} {w : Wt} {l l' : List UInt8} {u : V} (h : decW fx w l = some (u, l')) : GoodW fx w u ∧ (encW fx w u).length + l'.length ≤ l.length := by
  cases w <;> simp only [decW] at h
  case bool =>
    cases l with
    | nil => cases h
    | cons b l =>
      simp only [decBool, Option.some.injEq, Prod.mk.injEq] at h
      obtain ⟨rfl, rfl⟩ := h
      exact ⟨trivial, by simp [encW]; omega⟩
  case i8 => obtain ⟨x, rfl, h1, h2⟩ := decI_good h; exact ⟨h1, by simp only [encW, be_length]; omega⟩
  case e8 => obtain ⟨x, rfl, h1, h2⟩ := decI_good h; exact ⟨h1, by simp only [encW, be_length]; omega⟩
  case i16 => obtain ⟨x, rfl, h1, h2⟩ := decI_good h; exact ⟨h1, by simp only [encW, be_length]; omega⟩
  case u16 => obtain ⟨x, rfl, h1, h2⟩ := decI_good h; exact ⟨h1, by simp only [encW, be_length]; omega⟩
  case i32 => obtain ⟨x, rfl, h1, h2⟩ := decI_good h; exact ⟨h1, by simp only [encW, be_length]; omega⟩
  case i64 => obtain ⟨x, rfl, h1, h2⟩ := decI_good h; exact ⟨h1, by simp only [encW, be_length]; omega⟩
  case f64 =>
    obtain ⟨⟨m, l1⟩, h1, h2⟩ := Option.map_eq_some_iff.1 h
    simp only [Prod.mk.injEq] at h2
    obtain ⟨rfl, rfl⟩ := h2
    have h3 := decInt_len h1
    have h4 := decInt_in h1
    rw [show IntKind.u64.wrap m = m % 18446744073709551616 by simp [IntKind.wrap, IntKind.bits, IntKind.signed]] at h4
    exact ⟨show m.toNat < 18446744073709551616 by omega, by simp only [encW, be_length]; omega⟩
  case uuid =>
    obtain ⟨⟨m, l1⟩, h1, h2⟩ := Option.map_eq_some_iff.1 h
    simp only [Prod.mk.injEq] at h2
    obtain ⟨rfl, rfl⟩ := h2
    have h3 := decSpan_len h1
    exact ⟨show m.length = 16 by omega, by simp only [encW]; omega⟩
  case str =>
    obtain ⟨⟨n, l1⟩, h1, h2⟩ := Option.bind_eq_some_iff.1 h
    obtain ⟨⟨m, l2⟩, h3, h4⟩ := Option.map_eq_some_iff.1 h2
    simp only [Prod.mk.injEq] at h4
    obtain ⟨rfl, rfl⟩ := h4
    have h5 := decSpan_len h3
    simp only at h5
    have h6 := encStr_len h1 h5.1
    exact ⟨h6.1, by simp only [encW]; omega⟩
  case nstr =>
    obtain ⟨⟨n, l1⟩, h1, h2⟩ := Option.bind_eq_some_iff.1 h
    simp only at h2
    split at h2
    · simp only [Option.some.injEq, Prod.mk.injEq] at h2
      obtain ⟨rfl, rfl⟩ := h2
      refine ⟨trivial, ?_⟩
      have h3 := decStrLen_len h1
      simp only [encW]
      rw [encNul_len]
      cases fx
      · have := h3.2.2 rfl; simp; omega
      · have h4 := h3.2.1 rfl
        have := uvar_pos (n + 1).toNat
        simp; omega
    · obtain ⟨⟨m, l2⟩, h3, h4⟩ := Option.map_eq_some_iff.1 h2
      simp only [Prod.mk.injEq] at h4
      obtain ⟨rfl, rfl⟩ := h4
      have h5 := decSpan_len h3
      have h6 := encStr_len h1 h5.1
      exact ⟨h6.1, by simp only [encW]; omega⟩
  case byt =>
    obtain ⟨⟨n, l1⟩, h1, h2⟩ := Option.bind_eq_some_iff.1 h
    simp only at h2
    split at h2
    · simp only [Option.some.injEq, Prod.mk.injEq] at h2
      obtain ⟨rfl, rfl⟩ := h2
      have h3 := decBytLen_len h1
      refine ⟨by simp only [GoodW, okByt]; split <;> simp, ?_⟩
      simp only [encW, encByt]
      cases fx
      · have := h3.2.2 rfl; simp [be_length]; omega
      · have h4 := h3.2.1 rfl
        have := uvar_pos (n + 1).toNat
        simp [word, uvar_small]; omega
    · obtain ⟨⟨m, l2⟩, h3, h4⟩ := Option.map_eq_some_iff.1 h2
      simp only [Prod.mk.injEq] at h4
      obtain ⟨rfl, rfl⟩ := h4
      have h5 := decSpan_len h3
      have h6 := encByt_len h1 h5.1
      exact ⟨h6.1, by simp only [encW]; omega⟩
  case nbyt =>
    obtain ⟨⟨n, l1⟩, h1, h2⟩ := Option.bind_eq_some_iff.1 h
    simp only at h2
    split at h2
    · simp only [Option.some.injEq, Prod.mk.injEq] at h2
      obtain ⟨rfl, rfl⟩ := h2
      refine ⟨trivial, ?_⟩
      have h3 := decBytLen_len h1
      simp only [encW]
      rw [encNul_len]
      cases fx
      · have := h3.2.2 rfl; simp; omega
      · have h4 := h3.2.1 rfl
        have := uvar_pos (n + 1).toNat
        simp; omega
    · obtain ⟨⟨m, l2⟩, h3, h4⟩ := Option.map_eq_some_iff.1 h2
      simp only [Prod.mk.injEq] at h4
      obtain ⟨rfl, rfl⟩ := h4
      have h5 := decSpan_len h3
      have h6 := encByt_len h1 h5.1
      exact ⟨h6.1, by simp only [encW]; omega⟩

theorem encW_pos {fx : Bool} {w : Wt} {u : V} (h : GoodW fx w u) : 1 ≤ (encW fx w u).length := by
  cases w <;> cases u <;> first | exact h.elim | skip
  all_goals simp only [encW, encStr, encByt]
  all_goals try (cases fx <;> simp [be_length]; done)
  all_goals try (simp [be_length]; done)
  all_goals try (have h : _ = 16 := h; omega)
  all_goals (cases fx <;> simp [be_length] <;> first | (have := uvar_pos (word (List.length ‹_› + 1)); omega) | (have := uvar_pos 0; omega))
end Go.Kx
