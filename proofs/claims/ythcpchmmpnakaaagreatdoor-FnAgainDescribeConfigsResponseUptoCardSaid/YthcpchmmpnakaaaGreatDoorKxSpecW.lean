/- What the reference's functions write: numbers, counts, texts. -/
import Derived.Test.YthcpchmmpnakaaaGreatDoorKxAgn
import Derived.Test.YthcpchmmpnakaaaGreatDoorProg
namespace Go.Proofs.YthcpchmmpnakaaaGreatDoor.Sp
open Go.Kx Go.RowKit Go.Proofs
set_option maxRecDepth 100000
set_option linter.unusedSimpArgs false
set_option linter.unusedVariables false

theorem mixed : Tryz.prog.follows .mixedOrders = true := by kernel_rfl
theorem u8 : U8 Tryz.prog 5 := by unfold U8; kernel_rfl
theorem und : Tryz.prog.underlying 22 = some (.slice 5) := by kernel_rfl
/-- New octets. -/
abbrev New (w w' : World) (d : Value) (bs : List UInt8) : Prop := Grew 5 w (.slice none 0 0) w' d bs

theorem call49 : Callable Tryz.prog 49 := ⟨Tryz.f49, Tryz.func49, by kernel_rfl, by kernel_rfl⟩
set_option maxHeartbeats 4000000 in
theorem width (w : World) (k : Int) : Calls Tryz.prog 49 #[.int .i64 k] w fun en w' => ∃ v, en = .returned v ∧ v = .int .i64 (widthL k : Int) ∧ w' = w := by
  refine Calls.of_CW Tryz.func49 rfl (by decide +kernel) (Nat.le_of_ble_eq_true (by kernel_rfl)) (CW.of_flat ?_)
  simp only [flat, List.cons_append, List.nil_append, List.append_nil]
  refine CWL.reg (ops := [(.assign (.const (Go.Value.int Go.IntKind.i64 0)), 3)]) (b := [(2, 1)]) (by kernel_rfl) ?_
  refine OpK.assign ?_
  show CWL _ _ _ _ _ _
  refine CWL.reg (ops := []) (b := [(3, 0)]) (by kernel_rfl) ?_
  show CWL _ _ _ _ _ _
  refine CWL.block ?_
  simp only [flat, List.cons_append, List.nil_append, List.append_nil]
  refine CWL.reg (ops := [(.binOp .eql 3 (.tmp 6) (.const (Go.Value.int Go.IntKind.i64 1)) 3, 4)]) (b := [(4, 1), (5, 1)]) (by kernel_rfl) ?_
  refine OpK.cmp rfl rfl rfl ?_
  show CWL _ _ _ _ _ _
  by_cases h1 : k = 1
  · subst h1
    refine CWL.condT rfl ?_
    simp only [flat, List.cons_append, List.nil_append, List.append_nil]
    refine CWL.reg (ops := [(.assign (.const (Go.Value.int Go.IntKind.i64 1)), 3)]) (b := [(2, 1)]) (by kernel_rfl) ?_
    refine OpK.assign ?_
    show CWL _ _ _ _ _ _
    refine CWL.ret ?_
    exact ⟨_, rfl, rfl, rfl⟩
  refine CWL.condF (congrArg Value.bool (beq_eq_false_iff_ne.2 h1)) ?_
  simp only [flat, List.cons_append, List.nil_append, List.append_nil]
  refine CWL.reg (ops := [(.binOp .eql 3 (.tmp 6) (.const (Go.Value.int Go.IntKind.i64 2)) 3, 4)]) (b := [(6, 1), (7, 1)]) (by kernel_rfl) ?_
  refine OpK.cmp rfl rfl rfl ?_
  show CWL _ _ _ _ _ _
  by_cases h2 : k = 2
  · subst h2
    refine CWL.condT rfl ?_
    simp only [flat, List.cons_append, List.nil_append, List.append_nil]
    refine CWL.condT rfl ?_
    simp only [flat, List.cons_append, List.nil_append, List.append_nil]
    refine CWL.reg (ops := [(.assign (.const (Go.Value.int Go.IntKind.i64 2)), 3)]) (b := [(2, 1)]) (by kernel_rfl) ?_
    refine OpK.assign ?_
    show CWL _ _ _ _ _ _
    refine CWL.ret ?_
    exact ⟨_, rfl, rfl, rfl⟩
  refine CWL.condF (congrArg Value.bool (beq_eq_false_iff_ne.2 h2)) ?_
  simp only [flat, List.cons_append, List.nil_append, List.append_nil]
  refine CWL.reg (ops := [(.binOp .eql 3 (.tmp 6) (.const (Go.Value.int Go.IntKind.i64 5)) 3, 4)]) (b := [(6, 1), (8, 1)]) (by kernel_rfl) ?_
  refine OpK.cmp rfl rfl rfl ?_
  show CWL _ _ _ _ _ _
  by_cases h5 : k = 5
  · subst h5
    refine CWL.condT rfl ?_
    simp only [flat, List.cons_append, List.nil_append, List.append_nil]
    refine CWL.reg (ops := [(.assign (.const (Go.Value.int Go.IntKind.i64 2)), 3)]) (b := [(2, 1)]) (by kernel_rfl) ?_
    refine OpK.assign ?_
    show CWL _ _ _ _ _ _
    refine CWL.ret ?_
    exact ⟨_, rfl, rfl, rfl⟩
  refine CWL.condF (congrArg Value.bool (beq_eq_false_iff_ne.2 h5)) ?_
  simp only [flat, List.cons_append, List.nil_append, List.append_nil]
  refine CWL.reg (ops := [(.binOp .eql 3 (.tmp 6) (.const (Go.Value.int Go.IntKind.i64 3)) 3, 4)]) (b := [(9, 1), (10, 1)]) (by kernel_rfl) ?_
  refine OpK.cmp rfl rfl rfl ?_
  show CWL _ _ _ _ _ _
  by_cases h3 : k = 3
  · subst h3
    refine CWL.condT rfl ?_
    simp only [flat, List.cons_append, List.nil_append, List.append_nil]
    refine CWL.reg (ops := [(.assign (.const (Go.Value.int Go.IntKind.i64 4)), 3)]) (b := [(2, 1)]) (by kernel_rfl) ?_
    refine OpK.assign ?_
    show CWL _ _ _ _ _ _
    refine CWL.ret ?_
    exact ⟨_, rfl, rfl, rfl⟩
  refine CWL.condF (congrArg Value.bool (beq_eq_false_iff_ne.2 h3)) ?_
  simp only [flat, List.cons_append, List.nil_append, List.append_nil]
  try refine CWL.nil_ (P := Tryz.prog) (n := 0) ?_
  show CWL _ _ _ _ _ _
  refine CWL.reg (ops := [(.assign (.const (Go.Value.int Go.IntKind.i64 8)), 3)]) (b := [(2, 1)]) (by kernel_rfl) ?_
  refine OpK.assign ?_
  show CWL _ _ _ _ _ _
  refine CWL.ret ?_
  refine ⟨_, rfl, ?_, rfl⟩
  have : widthL k = 8 := by unfold widthL; rw [if_neg h1, if_neg (by omega), if_neg h3]
  rw [this]
  rfl

theorem call48 : Callable Tryz.prog 48 := ⟨Tryz.f48, Tryz.func48, by kernel_rfl, by kernel_rfl⟩
set_option maxHeartbeats 4000000 in
theorem fixed (w : World) (n : Int) (size : Nat) (h8 : size ≤ 8) : Calls Tryz.prog 48 #[.int .i64 n, .int .i64 (size : Int)] w fun en w' => ∃ d, en = .returned d ∧ New w w' d (be size n) := by
  refine Calls.of_CW Tryz.func48 rfl (by decide +kernel) (Nat.le_of_ble_eq_true (by kernel_rfl)) (CW.of_flat ?_)
  simp only [flat, List.cons_append, List.nil_append, List.append_nil]
  refine CWL.reg (ops := [(.assign (.const (Go.Value.slice none 0 0)), 22)]) (b := [(4, 1)]) (by kernel_rfl) ?_
  refine OpK.assign ?_
  show CWL _ _ _ _ _ _
  refine CWL.reg (ops := [(.assign (.const (Go.Value.slice none 0 0)), 22)]) (b := [(5, 1)]) (by kernel_rfl) ?_
  refine OpK.assign ?_
  show CWL _ _ _ _ _ _
  refine CWL.reg (ops := [(.binOp .sub 3 (.tmp 2) (.const (Go.Value.int Go.IntKind.i64 1)) 3, 3)]) (b := [(6, 1), (8, 1), (7, 2)]) (by kernel_rfl) ?_
  refine OpK.arith rfl rfl rfl ?_
  show CWL _ _ _ _ _ _
  refine CWL.cons (CW.block (CW.loop (fun m σ wl => ∃ d pre, σ 0 = .int .i64 n ∧ σ 6 = .int .i64 ((m : Int) - 1) ∧ σ 5 = d ∧ New w wl d pre ∧ pre ++ be m n = be size n) size
    ⟨.slice none 0 0, [], rfl, ?_, rfl, Grew.refl (Own.nil _ _), rfl⟩ ?_))
  · refine congrArg (Value.int .i64) ?_
    rw [IntKind.wrap_i64]; omega
  rintro m σ wl ⟨d, pre, e0, e6, e5, hg, hpre⟩
  refine CW.pin [(0, .int .i64 n), (6, .int .i64 ((m : Int) - 1)), (5, d)] (all_pin e0 (all_pin e6 (all_pin e5 (fun _ h => by cases h)))) fun σ => ?_
  simp only [flat, List.cons_append, List.nil_append, List.append_nil]
  refine CWL.reg (ops := [(.binOp .geq 3 (.tmp 12) (.const (Go.Value.int Go.IntKind.i64 0)) 3, 4)]) (b := [(10, 1), (9, 12)]) (by kernel_rfl) ?_
  refine OpK.cmp rfl rfl rfl ?_
  show CWL _ _ _ _ _ _
  have hml : pre.length + m = size := by have := congrArg List.length hpre; simpa [be_length] using this
  cases m with
  | zero =>
    refine CWL.condF (congrArg Value.bool (decide_eq_false (by omega))) ?_
    simp only [flat, List.cons_append, List.nil_append, List.append_nil]
    refine CWL.cons (CW.exit ?_)
    show CWL _ _ _ _ _ _
    refine CWL.reg (ops := []) (b := [(4, 10), (21, 10)]) (by kernel_rfl) ?_
    show CWL _ _ _ _ _ _
    refine CWL.ret ?_
    refine ⟨_, rfl, ?_⟩
    simp only [be, List.append_nil] at hpre
    rw [← hpre]
    exact hg
  | succ m =>
    refine CWL.condT (congrArg Value.bool (decide_eq_true (by omega))) ?_
    simp only [flat, List.cons_append, List.nil_append, List.append_nil]
    refine CWL.block ?_
    simp only [flat, List.cons_append, List.nil_append, List.append_nil]
    obtain ⟨v', w', hr, hg1⟩ := append_lit (ty := 22) und u8 hg.own [byteAt n m] (by simp only [List.length_cons, List.length_nil, Lim]; omega)
    have hi : IntKind.i64.wrap (8 * (((m + 1 : Nat) : Int) - 1)) = ((8 * m : Nat) : Int) := by rw [IntKind.wrap_i64]; omega
    have hbv : (Value.int .u8 (IntKind.u8.wrap (n / 2 ^ min (((8 * m : Nat) : Int).toNat) IntKind.i64.bits)) : Value) = bv (byteAt n m) := by
      rw [show min (((8 * m : Nat) : Int).toNat) IntKind.i64.bits = 8 * m by show min _ 64 = _; omega]
      exact oct_shr n m (8 * m) rfl
    simp only [List.map_cons, List.map_nil, List.length_cons, List.length_nil, ← hbv] at hr
    refine CWL.reg (ops := [(.binOp .mul 3 (.const (Go.Value.int Go.IntKind.i64 8)) (.tmp 12) 3, 3), (.binOp .shr 2 (.tmp 0) (.tmp 1) 3, 2), (.convert 2 5 (.tmp 3), 5), (.buildSlice 22 1 #[(0, .tmp 5)], 22), (.call ⟨.builtin .append, #[.tmp 10, .tmp 7], #[22, 22]⟩, 22)]) (b := [(5, 9), (20, 9), (19, 7), (18, 5), (17, 3), (16, 1), (15, 12), (14, 0), (13, 10)]) (by kernel_rfl) ?_
    refine OpK.arith (r := ((8 * m : Nat) : Int)) (by rw [← hi]; rfl) rfl rfl ?_
    refine OpK.shr rfl rfl (by omega) ?_
    refine OpK.convInt (k' := .u8) (by kernel_rfl) (by kernel_rfl) rfl ?_
    refine OpK.buildS (by simp only [List.map_toArray, List.map_cons, List.map_nil]; exact run_bs1 und u8 _) ?_
    refine OpK.run rfl hr ?_
    show CWL _ _ _ _ _ _
    try refine CWL.nil_ (P := Tryz.prog) (n := 0) ?_
    show CWL _ _ _ _ _ _
    refine CWL.reg (ops := [(.binOp .sub 3 (.tmp 12) (.const (Go.Value.int Go.IntKind.i64 1)) 3, 3)]) (b := [(6, 1), (12, 1), (11, 12)]) (by kernel_rfl) ?_
    refine OpK.arith rfl rfl rfl ?_
    show CWL _ _ _ _ _ _
    try refine CWL.nil_ (P := Tryz.prog) (n := 0) ?_
    refine ⟨m, Nat.lt_succ_self m, v', pre ++ [byteAt n m], rfl, ?_, rfl, hg.trans hg1, ?_⟩
    · refine congrArg (Value.int .i64) ?_
      rw [IntKind.wrap_i64]; omega
    · rw [List.append_assoc]; exact hpre

theorem call26 : Callable Tryz.prog 26 := ⟨Tryz.f26, Tryz.func26, by kernel_rfl, by kernel_rfl⟩
set_option maxHeartbeats 4000000 in
theorem uvarint (w : World) (n : Nat) (hn : n < 4294967297) : Calls Tryz.prog 26 #[.int .u64 (n : Int)] w fun en w' => ∃ d, en = .returned d ∧ New w w' d (uvar n) := by
  refine Calls.of_CW Tryz.func26 rfl (by decide +kernel) (Nat.le_of_ble_eq_true (by kernel_rfl)) (CW.of_flat ?_)
  simp only [flat, List.cons_append, List.nil_append, List.append_nil]
  refine CWL.reg (ops := [(.assign (.const (Go.Value.slice none 0 0)), 22)]) (b := [(2, 1)]) (by kernel_rfl) ?_
  refine OpK.assign ?_
  show CWL _ _ _ _ _ _
  refine CWL.reg (ops := [(.assign (.const (Go.Value.slice none 0 0)), 22)]) (b := [(3, 1)]) (by kernel_rfl) ?_
  refine OpK.assign ?_
  show CWL _ _ _ _ _ _
  refine CWL.cons (CW.block (CW.loop (fun m σ wl => ∃ d pre, m ≤ n ∧ pre.length + m ≤ n ∧ σ 0 = .int .u64 (m : Int) ∧ σ 3 = d ∧ New w wl d pre ∧ pre ++ uvar m = uvar n) n
    ⟨.slice none 0 0, [], Nat.le_refl _, by simp, rfl, rfl, Grew.refl (Own.nil _ _), rfl⟩ ?_))
  rintro m σ wl ⟨d, pre, hmn, hsum, e0, e3, hg, hpre⟩
  refine CW.pin [(0, .int .u64 (m : Int)), (3, d)] (all_pin e0 (all_pin e3 (fun _ h => by cases h))) fun σ => ?_
  simp only [flat, List.cons_append, List.nil_append, List.append_nil]
  refine CWL.reg (ops := [(.binOp .gtr 69 (.tmp 0) (.const (Go.Value.int Go.IntKind.u64 127)) 69, 4)]) (b := [(5, 1), (4, 0)]) (by kernel_rfl) ?_
  refine OpK.cmp rfl rfl rfl ?_
  show CWL _ _ _ _ _ _
  by_cases hm : m < 128
  · refine CWL.condF (congrArg Value.bool (decide_eq_false (by omega))) ?_
    simp only [flat, List.cons_append, List.nil_append, List.append_nil]
    refine CWL.cons (CW.exit ?_)
    show CWL _ _ _ _ _ _
    obtain ⟨v', w', hr, hg1⟩ := append_lit (ty := 22) und u8 hg.own [UInt8.ofNat m] (by simp only [List.length_cons, List.length_nil, Lim]; omega)
    simp only [List.map_cons, List.map_nil, List.length_cons, List.length_nil, ← grpL0 m hm] at hr
    refine CWL.reg (ops := [(.convert 69 5 (.tmp 0), 5), (.buildSlice 22 1 #[(0, .tmp 1)], 22), (.call ⟨.builtin .append, #[.tmp 6, .tmp 3], #[22, 22]⟩, 22)]) (b := [(2, 5), (19, 5), (18, 3), (17, 1), (16, 0), (15, 6)]) (by kernel_rfl) ?_
    refine OpK.convInt (k' := .u8) (by kernel_rfl) (by kernel_rfl) rfl ?_
    refine OpK.buildS (by simp only [List.map_toArray, List.map_cons, List.map_nil]; exact run_bs1 und u8 _) ?_
    refine OpK.run rfl hr ?_
    show CWL _ _ _ _ _ _
    refine CWL.ret ?_
    refine ⟨_, rfl, ?_⟩
    rw [← hpre, uvar_small hm]
    exact hg.trans hg1
  · refine CWL.condT (congrArg Value.bool (decide_eq_true (by omega))) ?_
    simp only [flat, List.cons_append, List.nil_append, List.append_nil]
    refine CWL.block ?_
    simp only [flat, List.cons_append, List.nil_append, List.append_nil]
    obtain ⟨v', w', hr, hg1⟩ := append_lit (ty := 22) und u8 hg.own [UInt8.ofNat (m % 128 + 128)] (by simp only [List.length_cons, List.length_nil, Lim]; omega)
    have h1 : IntKind.u8.wrap (bits .and .u64 (m : Int) 127) = ((m % 128 : Nat) : Int) := by rw [u64_and127 m (by omega), u8_nat (by omega)]
    have hbv : (Value.int .u8 (bits .or .u8 (IntKind.u8.wrap (bits .and .u64 (m : Int) 127)) 128) : Value) = bv (UInt8.ofNat (m % 128 + 128)) := by
      rw [h1, ux_or128 _ (by omega)]
      simp [bv]
      omega
    simp only [List.map_cons, List.map_nil, List.length_cons, List.length_nil, ← hbv] at hr
    refine CWL.reg (ops := [(.binOp .and 69 (.tmp 0) (.const (Go.Value.int Go.IntKind.u64 127)) 69, 69), (.convert 69 5 (.tmp 1), 5), (.binOp .or 5 (.tmp 3) (.const (Go.Value.int Go.IntKind.u8 128)) 5, 5), (.buildSlice 22 1 #[(0, .tmp 5)], 22), (.call ⟨.builtin .append, #[.tmp 6, .tmp 7], #[22, 22]⟩, 22)]) (b := [(3, 9), (12, 9), (11, 7), (10, 5), (9, 3), (8, 1), (7, 0), (6, 6)]) (by kernel_rfl) ?_
    refine OpK.and rfl rfl ?_
    refine OpK.convInt (k' := .u8) (by kernel_rfl) (by kernel_rfl) rfl ?_
    refine OpK.or rfl rfl ?_
    refine OpK.buildS (by simp only [List.map_toArray, List.map_cons, List.map_nil]; exact run_bs1 und u8 _) ?_
    refine OpK.run rfl hr ?_
    show CWL _ _ _ _ _ _
    try refine CWL.nil_ (P := Tryz.prog) (n := 0) ?_
    show CWL _ _ _ _ _ _
    refine CWL.reg (ops := [(.binOp .shr 69 (.tmp 0) (.const (Go.Value.int Go.IntKind.u64 7)) 102, 69)]) (b := [(0, 1), (14, 1), (13, 0)]) (by kernel_rfl) ?_
    refine OpK.shr rfl rfl (by decide) ?_
    show CWL _ _ _ _ _ _
    try refine CWL.nil_ (P := Tryz.prog) (n := 0) ?_
    refine ⟨m / 128, by omega, v', pre ++ [UInt8.ofNat (m % 128 + 128)], by omega, by simp only [List.length_append, List.length_cons, List.length_nil]; omega, ?_, rfl, hg.trans hg1, ?_⟩
    · refine congrArg (Value.int .u64) ?_
      rw [show ((2 : Int) ^ min ((7 : Int).toNat) IntKind.u64.bits) = 128 by decide]
      omega
    · rw [List.append_assoc, ← hpre, uvar_big (n := m) hm]; rfl

/-- A count ahead of something. -/
theorem call46 : Callable Tryz.prog 46 := ⟨Tryz.f46, Tryz.func46, by kernel_rfl, by kernel_rfl⟩
set_option maxHeartbeats 4000000 in
theorem counted (w : World) (fx null : Bool) (n size : Nat) (hn : n ≤ 32767) (h8 : size ≤ 8) : Calls Tryz.prog 46 #[.bool fx, .bool null, .int .i64 (n : Int), .int .i64 (size : Int)] w fun en w' => ∃ d, en = .returned d ∧ New w w' d (countedL fx null n size) := by
  refine Calls.of_CW Tryz.func46 rfl (by decide +kernel) (Nat.le_of_ble_eq_true (by kernel_rfl)) (CW.of_flat ?_)
  simp only [flat, List.cons_append, List.nil_append, List.append_nil]
  refine CWL.reg (ops := [(.assign (.const (Go.Value.slice none 0 0)), 22)]) (b := [(8, 1)]) (by kernel_rfl) ?_
  refine OpK.assign ?_
  show CWL _ _ _ _ _ _
  refine CWL.block ?_
  simp only [flat, List.cons_append, List.nil_append, List.append_nil]
  cases fx with
  | true =>
    cases null with
    | true =>
      refine CWL.cons (CW.region ?_)
      refine RW.want rfl ?_
      refine OpK.move ?_
      refine RW.want rfl ?_
      refine OpK.move ?_
      refine RW.want rfl ?_
      refine OpK.move ?_
      refine RW.want rfl ?_
      refine OpK.pick rfl ?_
      refine RW.want rfl ?_
      refine OpK.assign ?_
      refine RW.z ?_
      show CWL _ _ _ _ _ _
      refine CWL.condT rfl ?_
      simp only [flat, List.cons_append, List.nil_append, List.append_nil]
      refine CWL.reg (ops := [(.buildSlice 22 1 #[(0, .const (Go.Value.int Go.IntKind.u8 0))], 22)]) (b := [(8, 1), (14, 1)]) (by kernel_rfl) ?_
      refine OpK.buildS (by simp only [List.map_toArray, List.map_cons, List.map_nil]; exact run_bs1 und u8 _) ?_
      show CWL _ _ _ _ _ _
      refine CWL.ret ?_
      refine ⟨_, rfl, ?_⟩
      exact new_one u8 w 0
    | false =>
      refine CWL.cons (CW.region ?_)
      refine RW.want rfl ?_
      refine OpK.move ?_
      refine RW.want rfl ?_
      refine OpK.move ?_
      refine RW.want rfl ?_
      refine OpK.move ?_
      refine RW.want rfl ?_
      refine OpK.pick rfl ?_
      refine RW.want rfl ?_
      refine OpK.assign ?_
      refine RW.z ?_
      show CWL _ _ _ _ _ _
      refine CWL.condF rfl ?_
      simp only [flat, List.cons_append, List.nil_append, List.append_nil]
      refine CWL.reg (ops := []) (b := [(15, 0), (16, 0)]) (by kernel_rfl) ?_
      show CWL _ _ _ _ _ _
      refine CWL.condT rfl ?_
      simp only [flat, List.cons_append, List.nil_append, List.append_nil]
      have e1 : IntKind.u64.wrap (IntKind.u64.wrap (n : Int) + 1) = ((n + 1 : Nat) : Int) := by
        rw [wrap_un .u64 rfl (n : Int) (by omega) (by show (n : Int) < 2 ^ 64; omega), wrap_un .u64 rfl _ (by omega) (by show (n : Int) + 1 < 2 ^ 64; omega)]; rfl
      refine CWL.reg (ops := [(.convert 3 69 (.tmp 4), 69), (.binOp .add 69 (.tmp 1) (.const (Go.Value.int Go.IntKind.u64 1)) 69, 69), (.call ⟨.value (.func 26), #[.tmp 3], #[69]⟩, 22)]) (b := [(8, 5), (20, 5), (19, 3), (18, 1), (17, 4)]) (by kernel_rfl) ?_
      refine OpK.convInt (k' := .u64) (by kernel_rfl) (by kernel_rfl) rfl ?_
      refine OpK.arith (r := ((n + 1 : Nat) : Int)) (by rw [← e1]; rfl) rfl rfl ?_
      refine OpK.asCall rfl call26 rfl ((uvarint w (n + 1) (by omega)).mono ?_)
      rintro en w1 ⟨d, he, hg⟩
      refine ⟨_, he, ?_⟩
      show CWL _ _ _ _ _ _
      refine CWL.ret ?_
      exact ⟨_, rfl, hg⟩
  | false =>
    refine CWL.cons (CW.region ?_)
    refine RW.want rfl ?_
    refine OpK.move ?_
    refine RW.want rfl ?_
    refine OpK.move ?_
    refine RW.skip rfl ?_
    refine RW.want rfl ?_
    refine OpK.pick rfl ?_
    refine RW.want rfl ?_
    refine OpK.assign ?_
    refine RW.z ?_
    show CWL _ _ _ _ _ _
    refine CWL.condF rfl ?_
    simp only [flat, List.cons_append, List.nil_append, List.append_nil]
    refine CWL.reg (ops := []) (b := [(15, 0), (16, 0)]) (by kernel_rfl) ?_
    show CWL _ _ _ _ _ _
    refine CWL.condF rfl ?_
    simp only [flat, List.cons_append, List.nil_append, List.append_nil]
    cases null with
    | true =>
      refine CWL.reg (ops := []) (b := [(21, 2), (22, 2)]) (by kernel_rfl) ?_
      show CWL _ _ _ _ _ _
      refine CWL.condT rfl ?_
      simp only [flat, List.cons_append, List.nil_append, List.append_nil]
      refine CWL.reg (ops := [(.call ⟨.value (.func 48), #[.const (Go.Value.int Go.IntKind.i64 (-1)), .tmp 6], #[2, 3]⟩, 22)]) (b := [(8, 1), (24, 1), (23, 6)]) (by kernel_rfl) ?_
      refine OpK.asCall rfl call48 rfl ((fixed w (-1) size h8).mono ?_)
      rintro en w1 ⟨d, he, hg⟩
      refine ⟨_, he, ?_⟩
      show CWL _ _ _ _ _ _
      refine CWL.ret ?_
      exact ⟨_, rfl, hg⟩
    | false =>
      refine CWL.reg (ops := []) (b := [(21, 2), (22, 2)]) (by kernel_rfl) ?_
      show CWL _ _ _ _ _ _
      refine CWL.condF rfl ?_
      simp only [flat, List.cons_append, List.nil_append, List.append_nil]
      try refine CWL.nil_ (P := Tryz.prog) (n := 0) ?_
      show CWL _ _ _ _ _ _
      refine CWL.reg (ops := [(.call ⟨.value (.func 48), #[.tmp 4, .tmp 6], #[2, 3]⟩, 22)]) (b := [(8, 1), (27, 1), (26, 6), (25, 4)]) (by kernel_rfl) ?_
      refine OpK.asCall rfl call48 rfl ((fixed w (n : Int) size h8).mono ?_)
      rintro en w1 ⟨d, he, hg⟩
      refine ⟨_, he, ?_⟩
      show CWL _ _ _ _ _ _
      refine CWL.ret ?_
      exact ⟨_, rfl, hg⟩

theorem call28 : Callable Tryz.prog 28 := ⟨Tryz.f28, Tryz.func28, by kernel_rfl, by kernel_rfl⟩
set_option maxHeartbeats 4000000 in
theorem whole (w : World) (B : Nat) (l : List UInt8) (v : Value) (h : SlIs w B l v) : Calls Tryz.prog 28 #[v] w fun en w' => ∃ v', en = .returned v' ∧ SlIs w B (wholeL l) v' ∧ w' = w := by
  have h' := h
  obtain ⟨a, c, rfl, h2, h3, h4, h5⟩ := h'
  refine Calls.of_CW Tryz.func28 rfl (by decide +kernel) (Nat.le_of_ble_eq_true (by kernel_rfl)) (CW.of_flat ?_)
  simp only [flat, List.cons_append, List.nil_append, List.append_nil]
  refine CWL.reg (ops := [(.assign (.const (Go.Value.slice none 0 0)), 22)]) (b := [(2, 1)]) (by kernel_rfl) ?_
  refine OpK.assign ?_
  show CWL _ _ _ _ _ _
  refine CWL.reg (ops := [(.call ⟨.builtin .len, #[.tmp 0], #[22]⟩, 3), (.call ⟨.builtin .min, #[.tmp 1, .const (Go.Value.int Go.IntKind.i64 32767)], #[3, 3]⟩, 3), (.slice 22 (.tmp 0) none (some (.tmp 3)) none, 22)]) (b := [(2, 5), (7, 5), (6, 3), (5, 1), (4, 0), (3, 0)]) (by kernel_rfl) ?_
  refine OpK.len (e := 5) (by kernel_rfl) rfl ?_
  refine OpK.minN (b := 32767) rfl rfl ?_
  refine OpK.sliceTo (e := 5) (s := 1) (by kernel_rfl) (by kernel_rfl) rfl rfl (by omega) ?_
  show CWL _ _ _ _ _ _
  refine CWL.ret ?_
  exact ⟨_, rfl, h.take 32767, rfl⟩

theorem call45 : Callable Tryz.prog 45 := ⟨Tryz.f45, Tryz.func45, by kernel_rfl, by kernel_rfl⟩
set_option maxHeartbeats 4000000 in
theorem things (w : World) (B : Nat) (l : List Tr) (cells : Nat → List Value) (v : Value) (h : LsIs w B l cells v) : Calls Tryz.prog 45 #[v] w fun en w' => ∃ v', en = .returned v' ∧ LsIs w B (l.take 32767) cells v' ∧ w' = w := by
  have h' := h
  obtain ⟨a, c, rfl, h2, h3, h4, h5⟩ := h'
  refine Calls.of_CW Tryz.func45 rfl (by decide +kernel) (Nat.le_of_ble_eq_true (by kernel_rfl)) (CW.of_flat ?_)
  simp only [flat, List.cons_append, List.nil_append, List.append_nil]
  refine CWL.reg (ops := [(.assign (.const (Go.Value.slice none 0 0)), 23)]) (b := [(2, 1)]) (by kernel_rfl) ?_
  refine OpK.assign ?_
  show CWL _ _ _ _ _ _
  refine CWL.reg (ops := [(.call ⟨.builtin .len, #[.tmp 0], #[23]⟩, 3), (.call ⟨.builtin .min, #[.tmp 1, .const (Go.Value.int Go.IntKind.i64 32767)], #[3, 3]⟩, 3), (.slice 23 (.tmp 0) none (some (.tmp 3)) none, 23)]) (b := [(2, 5), (7, 5), (6, 3), (5, 1), (4, 0), (3, 0)]) (by kernel_rfl) ?_
  refine OpK.len (e := 26) (by kernel_rfl) rfl ?_
  refine OpK.minN (b := 32767) rfl rfl ?_
  refine OpK.sliceTo (e := 26) (s := 5) (by kernel_rfl) (by kernel_rfl) rfl rfl (by omega) ?_
  show CWL _ _ _ _ _ _
  refine CWL.ret ?_
  exact ⟨_, rfl, h.take 32767, rfl⟩

theorem call23 : Callable Tryz.prog 23 := ⟨Tryz.f23, Tryz.func23, by kernel_rfl, by kernel_rfl⟩
theorem aggT : aggSize Tryz.prog 26 = some 5 := by kernel_rfl
set_option maxHeartbeats 4000000 in
theorem at_ (w : World) (B : Nat) (hB : B ≤ w.heap.size) (t : Tr) (cs : List Value) (h : TrIs w B t cs) (i : Nat) : Calls Tryz.prog 23 #[.agg cs.toArray, .int .i64 (i : Int)] w fun en w' => ∃ v, en = .returned v ∧ ∃ cs', v = .agg cs'.toArray ∧ TrIs w' B (t.at i) cs' ∧ Ch (fun _ => False) w w' := by
  cases h with
  | @mk n s null l u vs vl vu cells hn hs hl hc hu =>
  have hl' := hl
  obtain ⟨a, c, rfl, h2, h3, h4, h5⟩ := hl'
  refine Calls.of_CW_cell (t := 4) (ty := 26) Tryz.func23 rfl (by decide +kernel) (Nat.le_of_ble_eq_true (by kernel_rfl)) rfl (CW.of_flat ?_)
  simp only [flat, List.cons_append, List.nil_append, List.append_nil]
  refine CWL.reg (ops := [(.box 26 (.tmp 0), 0), (.alloc 26, 0)]) (b := [(4, 3), (2, 1)]) (by kernel_rfl) ?_
  refine OpK.boxG (cs := [.int .i64 n, vs, .bool null, .slice a l.length c, vu]) rfl fun w1 g hb hc1 hg hs1 => ?_
  refine OpK.allocZ zeroT (by kernel_rfl) fun w2 r hr hc2 hr1 hs2 => ?_
  show CWL _ _ _ _ _ _
  have hb2 := hb.ch hc2
  have hc12 : Ch (fun _ => False) w w2 := hc1.trans' hc2
  have hk2 : ∀ k, k < B → w2.heap[k]? = w.heap[k]? := fun k hk => hc12.block k (by omega) fun h => h
  refine CWL.reg (ops := [(.fieldAddr 26 (.tmp 4) 3, 0), (.load 23 (.tmp 1), 23), (.call ⟨.builtin .len, #[.tmp 3], #[23]⟩, 3), (.binOp .lss 3 (.tmp 2) (.tmp 5) 3, 4)]) (b := [(9, 7), (8, 5), (7, 3), (6, 1), (5, 2)]) (by kernel_rfl) ?_
  refine OpK.fieldAddr (off := 3) (by kernel_rfl) rfl ?_
  refine OpK.load (by kernel_rfl) rfl (hb2.cell 3) ?_
  refine OpK.len (e := 26) (by kernel_rfl) rfl ?_
  refine OpK.cmp rfl rfl rfl ?_
  show CWL _ _ _ _ _ _
  by_cases hi : i < l.length
  · refine CWL.condT (congrArg Value.bool (decide_eq_true (by omega))) ?_
    simp only [flat, List.cons_append, List.nil_append, List.append_nil]
    cases a with
    | none => rw [h4 rfl] at hi; exact absurd hi (by simp)
    | some a =>
    obtain ⟨x, hx⟩ : ∃ x, l[i]? = some x := ⟨_, List.getElem?_eq_getElem hi⟩
    obtain ⟨g1, g2⟩ := (hl.keep hk2).tree hx
    have hone := (hc i x hx).one
    refine CWL.reg (ops := [(.fieldAddr 26 (.tmp 4) 3, 0), (.load 23 (.tmp 1), 23), (.indexAddr 23 (.tmp 3) (.tmp 2), 0), (.load 26 (.tmp 5), 26), (.store 26 (.tmp 8) (.tmp 7), 0)]) (b := [(14, 7), (13, 5), (12, 2), (11, 3), (10, 1)]) (by kernel_rfl) ?_
    refine OpK.fieldAddr (off := 3) (by kernel_rfl) rfl ?_
    refine OpK.load (by kernel_rfl) rfl (hb2.cell 3) ?_
    refine OpK.indexAddr (s := 5) (by kernel_rfl) rfl rfl hi ?_
    refine OpK.loadA (n := 5) (by kernel_rfl) rfl g1 g2 ?_
    refine OpK.storeG (cs := zeroT) (us := cells i) (by rw [g2]; kernel_rfl) rfl rfl hone.1 hr (by rw [g2]; rfl) fun w3 hr3 hc3 hs3 => ?_
    show CWL _ _ _ _ _ _
    refine CWL.ret ?_
    refine ⟨_, _, rfl, run_loadBlk aggT hr3 g2, cells i, rfl, ?_, hc12.trans hc3 fun k hk e => by have := hc1.size; omega⟩
    have e : (Tr.mk n s null l u).at i = x := by simp [Tr.at, Tr.l, List.getD, hx]
    rw [e]
    exact (hc i x hx).keep fun k hk => (hc3.block k (by have := hc12.size; omega) (by have := hc1.size; omega)).trans (hk2 k hk)
  · refine CWL.condF (congrArg Value.bool (decide_eq_false (by omega))) ?_
    simp only [flat, List.cons_append, List.nil_append, List.append_nil]
    refine CWL.reg (ops := [(.build 26 #[], 26), (.store 26 (.tmp 8) (.tmp 1), 0)]) (b := [(15, 1)]) (by kernel_rfl) ?_
    refine OpK.build (cells := zeroT.toArray) (by kernel_rfl) ?_
    refine OpK.storeG (cs := zeroT) (us := zeroT) (by kernel_rfl) rfl rfl (TrIs.zero w B).one.1 hr rfl fun w3 hr3 hc3 hs3 => ?_
    show CWL _ _ _ _ _ _
    refine CWL.ret ?_
    refine ⟨_, _, rfl, run_loadBlk aggT hr3 rfl, zeroT, rfl, ?_, hc12.trans hc3 fun k hk e => by have := hc1.size; omega⟩
    have e : (Tr.mk n s null l u).at i = .zero := by simp [Tr.at, Tr.l, List.getD, List.getElem?_eq_none (Nat.le_of_not_lt hi)]
    rw [e]
    exact TrIs.zero _ _

theorem call21 : Callable Tryz.prog 21 := ⟨Tryz.f21, Tryz.func21, by kernel_rfl, by kernel_rfl⟩
set_option maxHeartbeats 4000000 in
theorem has (w : World) (f : Fld) (vs : Value) (ver : Int) : Calls Tryz.prog 21 #[.agg (fldCells f vs).toArray, .int .i64 ver] w fun en w' => ∃ v, en = .returned v ∧ v = .bool (hasL f ver) ∧ Ch (fun _ => False) w w' := by
  unfold hasL
  refine Calls.of_CW Tryz.func21 rfl (by decide +kernel) (Nat.le_of_ble_eq_true (by kernel_rfl)) (CW.of_flat ?_)
  simp only [flat, List.cons_append, List.nil_append, List.append_nil]
  refine CWL.reg (ops := [(.box 46 (.tmp 0), 0), (.assign (.const (Go.Value.bool false)), 4)]) (b := [(4, 3), (2, 1)]) (by kernel_rfl) ?_
  refine OpK.boxG (cs := fldCells f vs) rfl fun w1 g hb hc1 hg hs1 => ?_
  refine OpK.assign ?_
  show CWL _ _ _ _ _ _
  by_cases h1 : f.lo ≤ ver
  · by_cases h2 : f.hi < 0
    · rw [decide_eq_true h1, decide_eq_true h2]
      refine CWL.cons (CW.region ?_)
      refine RW.want rfl ?_
      refine OpK.fieldAddr (off := 1) (by kernel_rfl) rfl ?_
      refine RW.want rfl ?_
      refine OpK.load (by kernel_rfl) rfl (hb.cell 1) ?_
      refine RW.want rfl ?_
      refine OpK.move ?_
      refine RW.want rfl ?_
      refine OpK.cmp (r := true) (by rw [← decide_eq_true h1]; rfl) rfl rfl ?_
      refine RW.want rfl ?_
      refine OpK.move ?_
      refine RW.want rfl ?_
      refine OpK.fieldAddr (off := 2) (by kernel_rfl) rfl ?_
      refine RW.want rfl ?_
      refine OpK.load (by kernel_rfl) rfl (hb.cell 2) ?_
      refine RW.want rfl ?_
      refine OpK.cmp (r := true) (by rw [← decide_eq_true h2]; rfl) rfl rfl ?_
      refine RW.want rfl ?_
      refine OpK.move ?_
      refine RW.skip rfl ?_
      refine RW.skip rfl ?_
      refine RW.skip rfl ?_
      refine RW.skip rfl ?_
      refine RW.want rfl ?_
      refine OpK.pick rfl ?_
      refine RW.want rfl ?_
      refine OpK.pick rfl ?_
      refine RW.want rfl ?_
      refine OpK.assign ?_
      refine RW.z ?_
      show CWL _ _ _ _ _ _
      refine CWL.ret ?_
      exact ⟨_, rfl, rfl, hc1⟩
    · rw [decide_eq_true h1, decide_eq_false h2]
      by_cases h3 : ver ≤ f.hi
      · rw [decide_eq_true h3]
        refine CWL.cons (CW.region ?_)
        refine RW.want rfl ?_
        refine OpK.fieldAddr (off := 1) (by kernel_rfl) rfl ?_
        refine RW.want rfl ?_
        refine OpK.load (by kernel_rfl) rfl (hb.cell 1) ?_
        refine RW.want rfl ?_
        refine OpK.move ?_
        refine RW.want rfl ?_
        refine OpK.cmp (r := true) (by rw [← decide_eq_true h1]; rfl) rfl rfl ?_
        refine RW.want rfl ?_
        refine OpK.move ?_
        refine RW.want rfl ?_
        refine OpK.fieldAddr (off := 2) (by kernel_rfl) rfl ?_
        refine RW.want rfl ?_
        refine OpK.load (by kernel_rfl) rfl (hb.cell 2) ?_
        refine RW.want rfl ?_
        refine OpK.cmp (r := false) (by rw [← decide_eq_false h2]; rfl) rfl rfl ?_
        refine RW.want rfl ?_
        refine OpK.move ?_
        refine RW.want rfl ?_
        refine OpK.move ?_
        refine RW.want rfl ?_
        refine OpK.fieldAddr (off := 2) (by kernel_rfl) rfl ?_
        refine RW.want rfl ?_
        refine OpK.load (by kernel_rfl) rfl (hb.cell 2) ?_
        refine RW.want rfl ?_
        refine OpK.cmp (r := true) (by rw [← decide_eq_true h3]; rfl) rfl rfl ?_
        refine RW.want rfl ?_
        refine OpK.pick rfl ?_
        refine RW.want rfl ?_
        refine OpK.pick rfl ?_
        refine RW.want rfl ?_
        refine OpK.assign ?_
        refine RW.z ?_
        show CWL _ _ _ _ _ _
        refine CWL.ret ?_
        exact ⟨_, rfl, rfl, hc1⟩
      · rw [decide_eq_false h3]
        refine CWL.cons (CW.region ?_)
        refine RW.want rfl ?_
        refine OpK.fieldAddr (off := 1) (by kernel_rfl) rfl ?_
        refine RW.want rfl ?_
        refine OpK.load (by kernel_rfl) rfl (hb.cell 1) ?_
        refine RW.want rfl ?_
        refine OpK.move ?_
        refine RW.want rfl ?_
        refine OpK.cmp (r := true) (by rw [← decide_eq_true h1]; rfl) rfl rfl ?_
        refine RW.want rfl ?_
        refine OpK.move ?_
        refine RW.want rfl ?_
        refine OpK.fieldAddr (off := 2) (by kernel_rfl) rfl ?_
        refine RW.want rfl ?_
        refine OpK.load (by kernel_rfl) rfl (hb.cell 2) ?_
        refine RW.want rfl ?_
        refine OpK.cmp (r := false) (by rw [← decide_eq_false h2]; rfl) rfl rfl ?_
        refine RW.want rfl ?_
        refine OpK.move ?_
        refine RW.want rfl ?_
        refine OpK.move ?_
        refine RW.want rfl ?_
        refine OpK.fieldAddr (off := 2) (by kernel_rfl) rfl ?_
        refine RW.want rfl ?_
        refine OpK.load (by kernel_rfl) rfl (hb.cell 2) ?_
        refine RW.want rfl ?_
        refine OpK.cmp (r := false) (by rw [← decide_eq_false h3]; rfl) rfl rfl ?_
        refine RW.want rfl ?_
        refine OpK.pick rfl ?_
        refine RW.want rfl ?_
        refine OpK.pick rfl ?_
        refine RW.want rfl ?_
        refine OpK.assign ?_
        refine RW.z ?_
        show CWL _ _ _ _ _ _
        refine CWL.ret ?_
        exact ⟨_, rfl, rfl, hc1⟩
  · rw [decide_eq_false h1]
    refine CWL.cons (CW.region ?_)
    refine RW.want rfl ?_
    refine OpK.fieldAddr (off := 1) (by kernel_rfl) rfl ?_
    refine RW.want rfl ?_
    refine OpK.load (by kernel_rfl) rfl (hb.cell 1) ?_
    refine RW.want rfl ?_
    refine OpK.move ?_
    refine RW.want rfl ?_
    refine OpK.cmp (r := false) (by rw [← decide_eq_false h1]; rfl) rfl rfl ?_
    refine RW.want rfl ?_
    refine OpK.move ?_
    refine RW.skip rfl ?_
    refine RW.skip rfl ?_
    refine RW.skip rfl ?_
    refine RW.skip rfl ?_
    refine RW.skip rfl ?_
    refine RW.skip rfl ?_
    refine RW.skip rfl ?_
    refine RW.skip rfl ?_
    refine RW.skip rfl ?_
    refine RW.want rfl ?_
    refine OpK.pick rfl ?_
    refine RW.want rfl ?_
    refine OpK.assign ?_
    refine RW.z ?_
    show CWL _ _ _ _ _ _
    refine CWL.ret ?_
    exact ⟨_, rfl, rfl, hc1⟩

theorem call44 : Callable Tryz.prog 44 := ⟨Tryz.f44, Tryz.func44, by kernel_rfl, by kernel_rfl⟩
set_option maxHeartbeats 4000000 in
theorem isnull (w : World) (B : Nat) (f : Fld) (vs : Value) (ver : Int) (t : Tr) (cs : List Value) (h : TrIs w B t cs) : Calls Tryz.prog 44 #[.agg (fldCells f vs).toArray, .int .i64 ver, .agg cs.toArray] w fun en w' => ∃ v, en = .returned v ∧ v = .bool (nullL f ver t) ∧ Ch (fun _ => False) w w' := by
  cases h with
  | @mk n s null l u vS vl vu cells hn hs hl hc hu =>
  unfold nullL canNull
  show Calls _ _ _ _ fun en w' => ∃ v, en = .returned v ∧ v = .bool (null && (decide (f.null ≥ 0) && decide (ver ≥ f.null))) ∧ Ch (fun _ => False) w w'
  refine Calls.of_CW Tryz.func44 rfl (by decide +kernel) (Nat.le_of_ble_eq_true (by kernel_rfl)) (CW.of_flat ?_)
  simp only [flat, List.cons_append, List.nil_append, List.append_nil]
  refine CWL.reg (ops := [(.box 46 (.tmp 0), 0), (.box 26 (.tmp 4), 0), (.assign (.const (Go.Value.bool false)), 4)]) (b := [(6, 5), (5, 3), (3, 1)]) (by kernel_rfl) ?_
  refine OpK.boxG (cs := fldCells f vs) rfl fun w1 g hb hc1 hg hs1 => ?_
  refine OpK.boxG (cs := [.int .i64 n, vS, .bool null, vl, vu]) rfl fun w2 g2 hbt hc2 hg2 hs2 => ?_
  refine OpK.assign ?_
  show CWL _ _ _ _ _ _
  have hb2 := hb.ch hc2
  have hc12 : Ch (fun _ => False) w w2 := hc1.trans' hc2
  cases null with
  | false =>
    refine CWL.cons (CW.region ?_)
    refine RW.want rfl ?_
    refine OpK.fieldAddr (off := 2) (by kernel_rfl) rfl ?_
    refine RW.want rfl ?_
    refine OpK.load (by kernel_rfl) rfl (hbt.cell 2) ?_
    refine RW.want rfl ?_
    refine OpK.move ?_
    refine RW.skip rfl ?_
    refine RW.skip rfl ?_
    refine RW.skip rfl ?_
    refine RW.want rfl ?_
    refine OpK.pick rfl ?_
    refine RW.want rfl ?_
    refine OpK.move ?_
    refine RW.skip rfl ?_
    refine RW.skip rfl ?_
    refine RW.skip rfl ?_
    refine RW.skip rfl ?_
    refine RW.want rfl ?_
    refine OpK.pick rfl ?_
    refine RW.want rfl ?_
    refine OpK.assign ?_
    refine RW.z ?_
    show CWL _ _ _ _ _ _
    refine CWL.ret ?_
    exact ⟨_, rfl, rfl, hc12⟩
  | true =>
    by_cases h1 : f.null ≥ 0
    · rw [decide_eq_true h1]
      by_cases h2 : ver ≥ f.null
      · rw [decide_eq_true h2]
        refine CWL.cons (CW.region ?_)
        refine RW.want rfl ?_
        refine OpK.fieldAddr (off := 2) (by kernel_rfl) rfl ?_
        refine RW.want rfl ?_
        refine OpK.load (by kernel_rfl) rfl (hbt.cell 2) ?_
        refine RW.want rfl ?_
        refine OpK.move ?_
        refine RW.want rfl ?_
        refine OpK.fieldAddr (off := 3) (by kernel_rfl) rfl ?_
        refine RW.want rfl ?_
        refine OpK.load (by kernel_rfl) rfl (hb2.cell 3) ?_
        refine RW.want rfl ?_
        refine OpK.cmp (r := true) (by rw [← decide_eq_true h1]; rfl) rfl rfl ?_
        refine RW.want rfl ?_
        refine OpK.pick rfl ?_
        refine RW.want rfl ?_
        refine OpK.move ?_
        refine RW.want rfl ?_
        refine OpK.move ?_
        refine RW.want rfl ?_
        refine OpK.fieldAddr (off := 3) (by kernel_rfl) rfl ?_
        refine RW.want rfl ?_
        refine OpK.load (by kernel_rfl) rfl (hb2.cell 3) ?_
        refine RW.want rfl ?_
        refine OpK.cmp (r := true) (by rw [← decide_eq_true h2]; rfl) rfl rfl ?_
        refine RW.want rfl ?_
        refine OpK.pick rfl ?_
        refine RW.want rfl ?_
        refine OpK.assign ?_
        refine RW.z ?_
        show CWL _ _ _ _ _ _
        refine CWL.ret ?_
        exact ⟨_, rfl, rfl, hc12⟩
      · rw [decide_eq_false h2]
        refine CWL.cons (CW.region ?_)
        refine RW.want rfl ?_
        refine OpK.fieldAddr (off := 2) (by kernel_rfl) rfl ?_
        refine RW.want rfl ?_
        refine OpK.load (by kernel_rfl) rfl (hbt.cell 2) ?_
        refine RW.want rfl ?_
        refine OpK.move ?_
        refine RW.want rfl ?_
        refine OpK.fieldAddr (off := 3) (by kernel_rfl) rfl ?_
        refine RW.want rfl ?_
        refine OpK.load (by kernel_rfl) rfl (hb2.cell 3) ?_
        refine RW.want rfl ?_
        refine OpK.cmp (r := true) (by rw [← decide_eq_true h1]; rfl) rfl rfl ?_
        refine RW.want rfl ?_
        refine OpK.pick rfl ?_
        refine RW.want rfl ?_
        refine OpK.move ?_
        refine RW.want rfl ?_
        refine OpK.move ?_
        refine RW.want rfl ?_
        refine OpK.fieldAddr (off := 3) (by kernel_rfl) rfl ?_
        refine RW.want rfl ?_
        refine OpK.load (by kernel_rfl) rfl (hb2.cell 3) ?_
        refine RW.want rfl ?_
        refine OpK.cmp (r := false) (by rw [← decide_eq_false h2]; rfl) rfl rfl ?_
        refine RW.want rfl ?_
        refine OpK.pick rfl ?_
        refine RW.want rfl ?_
        refine OpK.assign ?_
        refine RW.z ?_
        show CWL _ _ _ _ _ _
        refine CWL.ret ?_
        exact ⟨_, rfl, rfl, hc12⟩
    · rw [decide_eq_false h1]
      refine CWL.cons (CW.region ?_)
      refine RW.want rfl ?_
      refine OpK.fieldAddr (off := 2) (by kernel_rfl) rfl ?_
      refine RW.want rfl ?_
      refine OpK.load (by kernel_rfl) rfl (hbt.cell 2) ?_
      refine RW.want rfl ?_
      refine OpK.move ?_
      refine RW.want rfl ?_
      refine OpK.fieldAddr (off := 3) (by kernel_rfl) rfl ?_
      refine RW.want rfl ?_
      refine OpK.load (by kernel_rfl) rfl (hb2.cell 3) ?_
      refine RW.want rfl ?_
      refine OpK.cmp (r := false) (by rw [← decide_eq_false h1]; rfl) rfl rfl ?_
      refine RW.want rfl ?_
      refine OpK.pick rfl ?_
      refine RW.want rfl ?_
      refine OpK.move ?_
      refine RW.skip rfl ?_
      refine RW.skip rfl ?_
      refine RW.skip rfl ?_
      refine RW.skip rfl ?_
      refine RW.want rfl ?_
      refine OpK.pick rfl ?_
      refine RW.want rfl ?_
      refine OpK.assign ?_
      refine RW.z ?_
      show CWL _ _ _ _ _ _
      refine CWL.ret ?_
      exact ⟨_, rfl, rfl, hc12⟩

theorem call24 : Callable Tryz.prog 24 := ⟨Tryz.f24, Tryz.func24, by kernel_rfl, by kernel_rfl⟩
set_option maxHeartbeats 4000000 in
theorem known (w : World) (B d : Nat) (hB : B ≤ w.heap.size) (flds : List Fld) (v : Value) (h : FldsIs w B d flds v) (htag : ∀ f ∈ flds, f.tag < 0) (hlen : flds.length < 1000000) : Calls Tryz.prog 24 #[v] w fun en w' => ∃ x, en = .returned x ∧ x = .int .u32 0 ∧ Ch (fun _ => False) w w' := by
  obtain ⟨a, c, hv, hform⟩ := h.form
  subst hv
  refine Calls.of_CW Tryz.func24 rfl (by decide +kernel) (Nat.le_of_ble_eq_true (by kernel_rfl)) (CW.of_flat ?_)
  simp only [flat, List.cons_append, List.nil_append, List.append_nil]
  refine CWL.reg (ops := [(.assign (.const (Go.Value.int Go.IntKind.u32 0)), 53)]) (b := [(2, 1)]) (by kernel_rfl) ?_
  refine OpK.assign ?_
  show CWL _ _ _ _ _ _
  refine CWL.reg (ops := [(.assign (.const (Go.Value.int Go.IntKind.u32 0)), 53)]) (b := [(3, 1)]) (by kernel_rfl) ?_
  refine OpK.assign ?_
  show CWL _ _ _ _ _ _
  refine CWL.reg (ops := [(.call ⟨.builtin .len, #[.tmp 0], #[30]⟩, 3), (.move (.const (Go.Value.int Go.IntKind.i64 0)), 3)]) (b := [(8, 3), (7, 1), (6, 0)]) (by kernel_rfl) ?_
  refine OpK.len (e := 46) (by kernel_rfl) rfl ?_
  refine OpK.move ?_
  show CWL _ _ _ _ _ _
  refine CWL.cons (CW.block (CW.loop (fun m σ wl => ∃ i, i + m = flds.length ∧ σ 3 = .int .u32 0 ∧ σ 6 = .slice a flds.length c ∧ σ 7 = .int .i64 (flds.length : Int) ∧ σ 8 = .int .i64 (i : Int) ∧ Ch (fun _ => False) w wl) flds.length
    ⟨0, by simp, rfl, rfl, rfl, rfl, Ch.refl _ _⟩ ?_))
  rintro m σ wl ⟨i, him, e3, e6, e7, e8, hcl⟩
  refine CW.pin [(3, .int .u32 0), (6, .slice a flds.length c), (7, .int .i64 (flds.length : Int)), (8, .int .i64 (i : Int))] (all_pin e3 (all_pin e6 (all_pin e7 (all_pin e8 (fun _ h => by cases h))))) fun σ => ?_
  simp only [flat, List.cons_append, List.nil_append, List.append_nil]
  refine CWL.reg (ops := [(.binOp .lss 3 (.tmp 16) (.tmp 14) 3, 0)]) (b := [(9, 1)]) (by kernel_rfl) ?_
  refine OpK.cmp rfl rfl rfl ?_
  show CWL _ _ _ _ _ _
  cases m with
  | zero =>
    refine CWL.condF (congrArg Value.bool (decide_eq_false (by omega))) ?_
    simp only [flat, List.cons_append, List.nil_append, List.append_nil]
    refine CWL.cons (CW.exit ?_)
    show CWL _ _ _ _ _ _
    refine CWL.reg (ops := []) (b := [(2, 6), (22, 6)]) (by kernel_rfl) ?_
    show CWL _ _ _ _ _ _
    refine CWL.ret ?_
    exact ⟨_, rfl, rfl, hcl⟩
  | succ m =>
    refine CWL.condT (congrArg Value.bool (decide_eq_true (by omega))) ?_
    simp only [flat, List.cons_append, List.nil_append, List.append_nil]
    refine CWL.block ?_
    simp only [flat, List.cons_append, List.nil_append, List.append_nil]
    obtain ⟨f, hf⟩ : ∃ f, flds[i]? = some f := ⟨_, List.getElem?_eq_getElem (by omega)⟩
    obtain ⟨g, vs, d', rfl, hgB, rfl, hat, hsub⟩ := hform i f hf
    have hat' : At wl g (i * 8) (fldCells f vs) := fun j x hx => (cell_keep (w := w) (w' := wl) (hcl.block g (by omega) fun h => h)).trans (hat j x hx)
    refine CWL.reg (ops := [(.indexAddr 30 (.tmp 12) (.tmp 16), 0), (.load 46 (.tmp 1), 46), (.alloc 46, 0), (.store 46 (.tmp 5) (.tmp 3), 0)]) (b := [(5, 5), (11, 3), (10, 1)]) (by kernel_rfl) ?_
    refine OpK.indexAddr (s := 8) (by kernel_rfl) rfl rfl (by omega) ?_
    refine OpK.loadA (n := 8) (by kernel_rfl) rfl (hat'.mid) rfl ?_
    refine OpK.allocZ zeroF (by kernel_rfl) fun w2 r hr hc2 hr1 hs2 => ?_
    refine OpK.storeG (cs := zeroF) (us := fldCells f vs) (by kernel_rfl) rfl rfl (fldCells_one hsub.one) hr rfl fun w3 hr3 hc3 hs3 => ?_
    show CWL _ _ _ _ _ _
    refine CWL.reg (ops := [(.fieldAddr 46 (.tmp 10) 4, 0), (.load 3 (.tmp 1), 3), (.binOp .geq 3 (.tmp 3) (.const (Go.Value.int Go.IntKind.i64 0)) 3, 4)]) (b := [(14, 5), (13, 3), (12, 1)]) (by kernel_rfl) ?_
    refine OpK.fieldAddr (off := 4) (by kernel_rfl) rfl ?_
    refine OpK.load (by kernel_rfl) rfl (hr3.cell 4) ?_
    refine OpK.cmp rfl rfl rfl ?_
    show CWL _ _ _ _ _ _
    have ht := htag f (List.mem_of_getElem? hf)
    refine CWL.condF (congrArg Value.bool (decide_eq_false (by show ¬ f.tag ≥ 0; omega))) ?_
    simp only [flat, List.cons_append, List.nil_append, List.append_nil]
    try refine CWL.nil_ (P := Tryz.prog) (n := 0) ?_
    show CWL _ _ _ _ _ _
    have hi1 := i64_succ i (by omega)
    refine CWL.reg (ops := [(.binOp .add 3 (.tmp 16) (.const (Go.Value.int Go.IntKind.i64 1)) 3, 3)]) (b := [(8, 1), (21, 1)]) (by kernel_rfl) ?_
    refine OpK.arith (r := ((i + 1 : Nat) : Int)) (by rw [← hi1]; rfl) rfl rfl ?_
    show CWL _ _ _ _ _ _
    try refine CWL.nil_ (P := Tryz.prog) (n := 0) ?_
    exact ⟨m, Nat.lt_succ_self m, i + 1, by omega, rfl, rfl, rfl, rfl, (hcl.trans' hc2).trans hc3 fun k hk e => by have := hcl.size; omega⟩

theorem call27 : Callable Tryz.prog 27 := ⟨Tryz.f27, Tryz.func27, by kernel_rfl, by kernel_rfl⟩
set_option maxHeartbeats 8000000 in
theorem unknown (w : World) (B d : Nat) (hB : B ≤ w.heap.size) (flds : List Fld) (vF : Value) (h : FldsIs w B d flds vF) (htag : ∀ f ∈ flds, f.tag < 0) (hlen : flds.length < 1000000) (u : List (UInt32 × List UInt8)) (vu : Value) (hu : TgIs w B u vu) :
    Calls Tryz.prog 27 #[vF, vu] w fun en w' => ∃ x, en = .returned x ∧ ∃ us, TOwn 55 w' x us ∧ All2 (TgR w' B) us (unkL u) ∧ Ch (fun _ => False) w w' ∧ ∀ k, x.ownBlock = some k → w.heap.size ≤ k := by
  have hu' := hu
  obtain ⟨a, c, rfl, h2, h3, h4, h5⟩ := hu'
  have hU := hu.take 32767
  generalize hnU : min 32767 u.length = nU at hU
  have hUl : (u.take 32767).length = nU := by rw [List.length_take]; exact hnU
  generalize hUd : u.take 32767 = U at hU hUl
  have hsmall : nU ≤ 32767 := by omega
  refine Calls.of_CW Tryz.func27 rfl (by decide +kernel) (Nat.le_of_ble_eq_true (by kernel_rfl)) (CW.of_flat ?_)
  simp only [flat, List.cons_append, List.nil_append, List.append_nil]
  refine CWL.reg (ops := [(.assign (.const (Go.Value.slice none 0 0)), 24)]) (b := [(4, 1)]) (by kernel_rfl) ?_
  refine OpK.assign ?_
  show CWL _ _ _ _ _ _
  refine CWL.reg (ops := [(.call ⟨.value (.func 24), #[.tmp 0], #[30]⟩, 53)]) (b := [(5, 1), (12, 1), (11, 0)]) (by kernel_rfl) ?_
  refine OpK.asCall rfl call24 rfl ((known w B d hB flds vF h htag hlen).mono ?_)
  rintro en w1 ⟨x1, he1, rfl, hc1⟩
  refine ⟨_, he1, ?_⟩
  show CWL _ _ _ _ _ _
  refine CWL.reg (ops := [(.assign (.const (Go.Value.slice none 0 0)), 24)]) (b := [(6, 1)]) (by kernel_rfl) ?_
  refine OpK.assign ?_
  show CWL _ _ _ _ _ _
  refine CWL.reg (ops := [(.call ⟨.builtin .len, #[.tmp 2], #[24]⟩, 3), (.call ⟨.builtin .min, #[.tmp 1, .const (Go.Value.int Go.IntKind.i64 32767)], #[3, 3]⟩, 3), (.slice 24 (.tmp 2) none (some (.tmp 3)) none, 24), (.call ⟨.builtin .len, #[.tmp 5], #[24]⟩, 3), (.move (.const (Go.Value.int Go.IntKind.i64 0)), 3)]) (b := [(19, 9), (18, 7), (17, 5), (16, 3), (15, 1), (14, 2), (13, 2)]) (by kernel_rfl) ?_
  refine OpK.len (e := 55) (by kernel_rfl) rfl ?_
  refine OpK.minN (b := 32767) rfl rfl ?_
  rw [hnU]
  refine OpK.sliceTo (e := 55) (s := 2) (by kernel_rfl) (by kernel_rfl) rfl rfl (by omega) ?_
  refine OpK.len (e := 55) (by kernel_rfl) rfl ?_
  refine OpK.move ?_
  show CWL _ _ _ _ _ _
  refine CWL.cons (CW.block (CW.loop (fun m σ wl => ∃ i v us, i + m = nU ∧ σ 5 = .int .u32 0 ∧ σ 6 = v ∧ σ 17 = .slice a nU c ∧ σ 18 = .int .i64 (nU : Int) ∧ σ 19 = .int .i64 (i : Int) ∧ TOwn 55 wl v us ∧
      All2 (TgR w B) us (((U.take i).map fun x => (x.1.toNat, x.2)).foldl insU []) ∧ Ch (fun _ => False) w wl ∧ ∀ k, v.ownBlock = some k → w.heap.size ≤ k) nU
    ⟨0, .slice none 0 0, [], by simp, rfl, rfl, rfl, rfl, rfl, TOwn.nil _ _, by simpa using All2.nil, hc1, fun k hk => by cases hk⟩ ?_))
  rintro m σ wl ⟨i, v, us, him, e5, e6, e17, e18, e19, hown, hall, hcw, hvlo⟩
  refine CW.pin [(5, .int .u32 0), (6, v), (17, .slice a nU c), (18, .int .i64 (nU : Int)), (19, .int .i64 (i : Int))] (all_pin e5 (all_pin e6 (all_pin e17 (all_pin e18 (all_pin e19 (fun _ h => by cases h)))))) fun σ => ?_
  simp only [flat, List.cons_append, List.nil_append, List.append_nil]
  refine CWL.reg (ops := [(.binOp .lss 3 (.tmp 38) (.tmp 36) 3, 0)]) (b := [(20, 1)]) (by kernel_rfl) ?_
  refine OpK.cmp rfl rfl rfl ?_
  show CWL _ _ _ _ _ _
  obtain ⟨hrise, _, hfew⟩ := unk_fold (N := 4294967296) ((U.take i).map fun x => (x.1.toNat, x.2)) (out := []) (fun y hy => by
    simp only [List.mem_map] at hy
    obtain ⟨q, _, rfl⟩ := hy
    exact q.1.toNat_lt) trivial (fun _ h => by cases h)
  have husl : us.length ≤ i := by rw [hall.size]; rw [List.length_map, List.length_take, List.length_nil] at hfew; omega
  cases m with
  | zero =>
    refine CWL.condF (congrArg Value.bool (decide_eq_false (by omega))) ?_
    simp only [flat, List.cons_append, List.nil_append, List.append_nil]
    refine CWL.cons (CW.exit ?_)
    show CWL _ _ _ _ _ _
    refine CWL.reg (ops := []) (b := [(4, 12), (84, 12)]) (by kernel_rfl) ?_
    show CWL _ _ _ _ _ _
    refine CWL.ret ?_
    refine ⟨_, rfl, us, hown, ?_, hcw, hvlo⟩
    rw [List.take_of_length_le (by omega)] at hall
    unfold unkL
    rw [hUd]
    exact hall.imp fun _ _ hR => ⟨hR.1, hR.2.keep fun k hk => hcw.block k (by omega) fun h => h⟩
  | succ m =>
    refine CWL.condT (congrArg Value.bool (decide_eq_true (by omega))) ?_
    simp only [flat, List.cons_append, List.nil_append, List.append_nil]
    refine CWL.block ?_
    simp only [flat, List.cons_append, List.nil_append, List.append_nil]
    obtain ⟨x, hx⟩ : ∃ x, U[i]? = some x := ⟨_, List.getElem?_eq_getElem (by omega)⟩
    obtain ⟨a', c', eU, _, _, hU4, hU5⟩ := hU
    simp only [Value.slice.injEq] at eU
    obtain ⟨rfl, _, rfl⟩ := eU
    cases a with
    | none => rw [hU4 rfl] at hx; simp at hx
    | some a =>
    obtain ⟨hUb, hU6⟩ := hU5 a rfl
    obtain ⟨vv, hk0, hk1, hvv⟩ := hU6 i x hx
    have hab := hUb (nil_of_get hx)
    have hat : AtA wl (a.add (i * 2)) [.int .u32 (x.1.toNat : Int), vv] := (two_at hk0 hk1).ch (by rw [add_block]; omega) hcw
    have hnext : ((U.take (i + 1)).map fun x => (x.1.toNat, x.2)).foldl insU [] = insU (((U.take i).map fun x => (x.1.toNat, x.2)).foldl insU []) (x.1.toNat, x.2) := by
      rw [List.take_add_one, hx]
      simp
    refine CWL.reg (ops := [(.indexAddr 24 (.tmp 34) (.tmp 38), 0), (.load 55 (.tmp 1), 55), (.alloc 55, 0), (.store 55 (.tmp 5) (.tmp 3), 0)]) (b := [(8, 5), (22, 3), (21, 1)]) (by kernel_rfl) ?_
    refine OpK.indexAddr (s := 2) (by kernel_rfl) rfl rfl (by omega) ?_
    refine OpK.loadA (n := 2) (by kernel_rfl) rfl (hat) rfl ?_
    refine OpK.allocZ zeroG (by kernel_rfl) fun w2 r hr hc2 hr1 hs2 => ?_
    refine OpK.storeG (cs := zeroG) (us := [.int .u32 (x.1.toNat : Int), vv]) (by kernel_rfl) rfl rfl (by intro q hq; simp only [List.mem_cons, List.not_mem_nil, or_false] at hq; rcases hq with rfl | rfl; rfl; exact hvv.form) hr rfl fun w3 hbt3 hc3 hs3 => ?_
    show CWL _ _ _ _ _ _
    have hcl3 : Ch (fun _ => False) wl w3 := hc2.trans hc3 fun k hk e => by omega
    have hown3 := hown.ch hcl3
    have hvr : ¬ v.ownBlock = some r := fun e => by have := hown.lt e; omega
    have hrl : r < w3.heap.size := hbt3.lt
    refine CWL.reg (ops := [(.assign (.const (Go.Value.int Go.IntKind.i64 0)), 3)]) (b := [(9, 1)]) (by kernel_rfl) ?_
    refine OpK.assign ?_
    show CWL _ _ _ _ _ _
    refine CWL.loopJ (fun m σ w' => ∃ p, p + m = us.length ∧ (∀ j y, j < p → us[j]? = some y → y.1 < x.1.toNat) ∧ σ 5 = .int .u32 0 ∧ σ 6 = v ∧ σ 8 = .pointer (some ⟨r, 0, none⟩) ∧ σ 9 = .int .i64 (p : Int) ∧ σ 17 = .slice (some a) nU c ∧ σ 18 = .int .i64 (nU : Int) ∧ σ 19 = .int .i64 (i : Int) ∧ Ch (fun _ => False) w3 w')
      (fun σ w' => ∃ p, p ≤ us.length ∧ (∀ j y, j < p → us[j]? = some y → y.1 < x.1.toNat) ∧ (∀ y, us[p]? = some y → ¬ y.1 < x.1.toNat) ∧ σ 5 = .int .u32 0 ∧ σ 6 = v ∧ σ 8 = .pointer (some ⟨r, 0, none⟩) ∧ σ 9 = .int .i64 (p : Int) ∧ σ 17 = .slice (some a) nU c ∧ σ 18 = .int .i64 (nU : Int) ∧ σ 19 = .int .i64 (i : Int) ∧ Ch (fun _ => False) w3 w') us.length
      ⟨0, by simp, fun j y hj => absurd hj (by omega), rfl, rfl, rfl, rfl, rfl, rfl, rfl, Ch.refl _ _⟩ ?_ ?_
    · rintro q σ w4 ⟨p, hpq, hlow, e5, e6, e8, e9, e17, e18, e19, hc4⟩
      refine CW.pin [(5, .int .u32 0), (6, v), (8, .pointer (some ⟨r, 0, none⟩)), (9, .int .i64 (p : Int)), (17, .slice (some a) nU c), (18, .int .i64 (nU : Int)), (19, .int .i64 (i : Int))] (all_pin e5 (all_pin e6 (all_pin e8 (all_pin e9 (all_pin e17 (all_pin e18 (all_pin e19 (fun _ h => by cases h)))))))) fun σ => ?_
      simp only [flat, List.cons_append, List.nil_append, List.append_nil]
      have hown4 := hown3.ch hc4
      have hbt4 := hbt3.ch hc4
      obtain ⟨av, cv, hv, hvf⟩ := hown4.form
      subst hv
      cases q with
      | zero =>
        refine CWL.regD0 mixed [(0, true), (1, true), (2, false), (3, true), (4, true), (5, true), (6, true), (7, true), (8, true), (9, true), (10, true), (11, true), (12, true), (13, true)] (by decide +kernel) ?_
        refine HW.early rfl rfl (Yi.move) ?_
        refine HW.early rfl rfl (Yi.move) ?_
        refine HW.step (Ch.drew _ _) rfl rfl (OpK.len (e := 55) (by kernel_rfl) rfl ⟨rfl, rfl⟩) ?_
        refine HW.early rfl rfl (Yi.cmp (r := false) (by rw [← decide_eq_false (show ¬ (p : Int) < (us.length : Int) by omega)]; rfl) rfl rfl) ?_
        refine HW.early rfl rfl (Yi.move) ?_
        refine HW.none_ rfl rfl ?_
        refine HW.none_ rfl rfl ?_
        refine HW.none_ rfl rfl ?_
        refine HW.none_ rfl rfl ?_
        refine HW.none_ rfl rfl ?_
        refine HW.none_ rfl rfl ?_
        refine HW.none_ rfl rfl ?_
        refine HW.none_ rfl rfl ?_
        refine HW.early rfl rfl (Yi.pick rfl) ?_
        refine HW.done ?_
        refine CWL.condF rfl ?_
        simp only [flat, List.cons_append, List.nil_append, List.append_nil]
        refine CWL.cons (CW.exit ?_)
        exact ⟨p, by omega, hlow, fun y hy => by rw [List.getElem?_eq_none (by omega)] at hy; (cases hy), rfl, rfl, rfl, rfl, rfl, rfl, rfl, hc4.trans' (Ch.drew _ _)⟩
      | succ q =>
        obtain ⟨y, hy⟩ : ∃ y, us[p]? = some y := ⟨_, List.getElem?_eq_getElem (by omega)⟩
        obtain ⟨gv, rfl, hgv, _, haty⟩ := hvf p y hy
        by_cases hlt : y.1 < x.1.toNat
        · skip
          refine CWL.regD0 mixed [(0, true), (1, true), (2, false), (3, true), (4, true), (5, true), (6, true), (7, true), (8, true), (9, true), (10, true), (11, true), (12, true), (13, true)] (by decide +kernel) ?_
          refine HW.early rfl rfl (Yi.move) ?_
          refine HW.early rfl rfl (Yi.move) ?_
          refine HW.step (Ch.drew _ _) rfl rfl (OpK.len (e := 55) (by kernel_rfl) rfl ⟨rfl, rfl⟩) ?_
          refine HW.early rfl rfl (Yi.cmp (r := true) (by rw [← decide_eq_true (show (p : Int) < (us.length : Int) by omega)]; rfl) rfl rfl) ?_
          refine HW.early rfl rfl (Yi.move) ?_
          refine HW.early rfl rfl (Yi.move) ?_
          refine HW.early rfl rfl (Yi.move) ?_
          refine HW.early rfl rfl (Yi.indexAddr (s := 2) (by kernel_rfl) rfl rfl (by omega)) ?_
          refine HW.early rfl rfl (Yi.fieldAddr (off := 0) (by kernel_rfl) rfl) ?_
          refine HW.early rfl rfl (Yi.load (by kernel_rfl) rfl (fun w' hw' => haty.ch (by rw [add_block]; exact hgv) hw' 0 _ rfl)) ?_
          refine HW.early rfl rfl (Yi.fieldAddr (off := 0) (by kernel_rfl) rfl) ?_
          refine HW.early rfl rfl (Yi.load (by kernel_rfl) rfl (fun w' hw' => (hbt4.ch hw').cell 0)) ?_
          refine HW.early rfl rfl (Yi.cmp (r := true) (by rw [← decide_eq_true (show (y.1 : Int) < (x.1.toNat : Int) by omega)]; rfl) rfl rfl) ?_
          refine HW.early rfl rfl (Yi.pick rfl) ?_
          refine HW.done ?_
          refine CWL.condT rfl ?_
          simp only [flat, List.cons_append, List.nil_append, List.append_nil]
          refine CWL.block ?_
          simp only [flat, List.cons_append, List.nil_append, List.append_nil]
          have hp1 := i64_succ p (by omega)
          refine CWL.reg (ops := [(.binOp .add 3 (.tmp 18) (.const (Go.Value.int Go.IntKind.i64 1)) 3, 3)]) (b := [(9, 1), (38, 1), (37, 18)]) (by kernel_rfl) ?_
          refine OpK.arith (r := ((p + 1 : Nat) : Int)) (by rw [← hp1]; rfl) rfl rfl ?_
          show CWL _ _ _ _ _ _
          try refine CWL.nil_ (P := Tryz.prog) (n := 0) ?_
          refine ⟨q, Nat.lt_succ_self q, p + 1, by omega, fun j z hj hz => ?_, rfl, rfl, rfl, rfl, rfl, rfl, rfl, hc4.trans' (Ch.drew _ _)⟩
          by_cases hjp : j = p
          · subst hjp; rw [hy] at hz; cases hz; exact hlt
          · exact hlow j z (by omega) hz
        · skip
          refine CWL.regD0 mixed [(0, true), (1, true), (2, false), (3, true), (4, true), (5, true), (6, true), (7, true), (8, true), (9, true), (10, true), (11, true), (12, true), (13, true)] (by decide +kernel) ?_
          refine HW.early rfl rfl (Yi.move) ?_
          refine HW.early rfl rfl (Yi.move) ?_
          refine HW.step (Ch.drew _ _) rfl rfl (OpK.len (e := 55) (by kernel_rfl) rfl ⟨rfl, rfl⟩) ?_
          refine HW.early rfl rfl (Yi.cmp (r := true) (by rw [← decide_eq_true (show (p : Int) < (us.length : Int) by omega)]; rfl) rfl rfl) ?_
          refine HW.early rfl rfl (Yi.move) ?_
          refine HW.early rfl rfl (Yi.move) ?_
          refine HW.early rfl rfl (Yi.move) ?_
          refine HW.early rfl rfl (Yi.indexAddr (s := 2) (by kernel_rfl) rfl rfl (by omega)) ?_
          refine HW.early rfl rfl (Yi.fieldAddr (off := 0) (by kernel_rfl) rfl) ?_
          refine HW.early rfl rfl (Yi.load (by kernel_rfl) rfl (fun w' hw' => haty.ch (by rw [add_block]; exact hgv) hw' 0 _ rfl)) ?_
          refine HW.early rfl rfl (Yi.fieldAddr (off := 0) (by kernel_rfl) rfl) ?_
          refine HW.early rfl rfl (Yi.load (by kernel_rfl) rfl (fun w' hw' => (hbt4.ch hw').cell 0)) ?_
          refine HW.early rfl rfl (Yi.cmp (r := false) (by rw [← decide_eq_false (show ¬ (y.1 : Int) < (x.1.toNat : Int) by omega)]; rfl) rfl rfl) ?_
          refine HW.early rfl rfl (Yi.pick rfl) ?_
          refine HW.done ?_
          refine CWL.condF rfl ?_
          simp only [flat, List.cons_append, List.nil_append, List.append_nil]
          refine CWL.cons (CW.exit ?_)
          exact ⟨p, by omega, hlow, fun z hz => by rw [hy] at hz; (cases hz); exact hlt, rfl, rfl, rfl, rfl, rfl, rfl, rfl, hc4.trans' (Ch.drew _ _)⟩
    rintro σ w4 ⟨p, hp, hlow, hhigh, e5, e6, e8, e9, e17, e18, e19, hc4⟩
    rw [pin_eq (σ := σ) (l := [(5, .int .u32 0), (6, v), (8, .pointer (some ⟨r, 0, none⟩)), (9, .int .i64 (p : Int)), (17, .slice (some a) nU c), (18, .int .i64 (nU : Int)), (19, .int .i64 (i : Int))]) (all_pin e5 (all_pin e6 (all_pin e8 (all_pin e9 (all_pin e17 (all_pin e18 (all_pin e19 (fun _ h => by cases h))))))))]
    have hpos := posOf_eq hlow hp hhigh
    have hins := ins_two (k := x.1.toNat) (v := vv) (bs := x.2) hall hrise hvv hpos
    have hown4' := hown3.ch hc4
    have hbt4' := hbt3.ch hc4
    have hcw5 : Ch (fun _ => False) w w4.drew := ((hcw.trans' hcl3).trans' hc4).trans' (Ch.drew _ _)
    have hown4 : TOwn 55 w4.drew v us := hown4'.ch (Ch.drew _ _)
    have hbt4 : Blk w4.drew r 55 [.int .u32 (x.1.toNat : Int), vv] := hbt4'.ch (Ch.drew _ _)
    have hs4 := hc4.size
    have hsz : w3.heap.size ≤ w4.drew.heap.size := hs4
    obtain ⟨av, cv, hv, hvf⟩ := hown4'.form
    have hkey0 : decide ((x.1.toNat : Int) < 0) = false := decide_eq_false (by omega)
    by_cases hex : ∃ y, us[p]? = some y ∧ y.1 = x.1.toNat
    · obtain ⟨y, hy, hyk⟩ := hex
      subst hv
      obtain ⟨gv, rfl, hgv, _, haty⟩ := hvf p y hy
      have hpl := (List.getElem?_eq_some_iff.1 hy).1
      refine CWL.regD0 mixed [(0, true), (1, true), (2, true), (3, true), (4, true), (5, true), (6, true), (7, false), (8, true), (9, true), (10, true), (11, true), (12, true), (13, true), (14, true), (15, true), (16, true), (17, true), (18, true), (19, true)] (by decide +kernel) ?_
      refine HW.early rfl rfl (Yi.fieldAddr (off := 0) (by kernel_rfl) rfl) ?_
      refine HW.early rfl rfl (Yi.load (by kernel_rfl) rfl (fun w' hw' => (hbt4'.ch hw').cell 0)) ?_
      refine HW.early rfl rfl (Yi.move) ?_
      refine HW.early rfl rfl (Yi.cmp (r := false) (by rw [← hkey0]; rfl) rfl rfl) ?_
      refine HW.early rfl rfl (Yi.move) ?_
      refine HW.early rfl rfl (Yi.move) ?_
      refine HW.early rfl rfl (Yi.move) ?_
      refine HW.step (Ch.drew _ _) rfl rfl (OpK.len (e := 55) (by kernel_rfl) rfl ⟨rfl, rfl⟩) ?_
      refine HW.early rfl rfl (Yi.cmp (r := true) (by rw [← decide_eq_true (show (p : Int) < (us.length : Int) by omega)]; rfl) rfl rfl) ?_
      refine HW.early rfl rfl (Yi.move) ?_
      refine HW.early rfl rfl (Yi.move) ?_
      refine HW.early rfl rfl (Yi.move) ?_
      refine HW.early rfl rfl (Yi.indexAddr (s := 2) (by kernel_rfl) rfl rfl (by omega)) ?_
      refine HW.early rfl rfl (Yi.fieldAddr (off := 0) (by kernel_rfl) rfl) ?_
      refine HW.early rfl rfl (Yi.load (by kernel_rfl) rfl (fun w' hw' => haty.ch (by rw [add_block]; exact hgv) hw' 0 _ rfl)) ?_
      refine HW.early rfl rfl (Yi.fieldAddr (off := 0) (by kernel_rfl) rfl) ?_
      refine HW.early rfl rfl (Yi.load (by kernel_rfl) rfl (fun w' hw' => (hbt4'.ch hw').cell 0)) ?_
      refine HW.early rfl rfl (Yi.cmp (r := true) (by rw [hyk]; simp [cmpB]) rfl rfl) ?_
      refine HW.early rfl rfl (Yi.pick rfl) ?_
      refine HW.early rfl rfl (Yi.pick rfl) ?_
      refine HW.done ?_
      refine CWL.condT rfl ?_
      simp only [flat, List.cons_append, List.nil_append, List.append_nil]
      refine CWL.cons (CW.exit ?_)
      show CWL _ _ _ _ _ _
      have hi1 := i64_succ i (by omega)
      refine CWL.reg (ops := [(.binOp .add 3 (.tmp 38) (.const (Go.Value.int Go.IntKind.i64 1)) 3, 3)]) (b := [(19, 1), (83, 1)]) (by kernel_rfl) ?_
      refine OpK.arith (r := ((i + 1 : Nat) : Int)) (by rw [← hi1]; rfl) rfl rfl ?_
      show CWL _ _ _ _ _ _
      try refine CWL.nil_ (P := Tryz.prog) (n := 0) ?_
      exact ⟨m, Nat.lt_succ_self m, i + 1, _, _, by omega, rfl, rfl, rfl, rfl, rfl, hown4, by rw [hnext]; exact hins.1 ⟨y, hy, hyk⟩, hcw5, hvlo⟩
    · by_cases hpl : p < us.length
      · obtain ⟨y, hy⟩ : ∃ y, us[p]? = some y := ⟨_, List.getElem?_eq_getElem (by omega)⟩
        have hyk : ¬ y.1 = x.1.toNat := fun e => hex ⟨y, hy, e⟩
        obtain ⟨gv, rfl, hgv, _, haty⟩ := hvf p y hy
        subst hv
        refine CWL.regD0 mixed [(0, true), (1, true), (2, true), (3, true), (4, true), (5, true), (6, true), (7, false), (8, true), (9, true), (10, true), (11, true), (12, true), (13, true), (14, true), (15, true), (16, true), (17, true), (18, true), (19, true)] (by decide +kernel) ?_
        refine HW.early rfl rfl (Yi.fieldAddr (off := 0) (by kernel_rfl) rfl) ?_
        refine HW.early rfl rfl (Yi.load (by kernel_rfl) rfl (fun w' hw' => (hbt4'.ch hw').cell 0)) ?_
        refine HW.early rfl rfl (Yi.move) ?_
        refine HW.early rfl rfl (Yi.cmp (r := false) (by rw [← hkey0]; rfl) rfl rfl) ?_
        refine HW.early rfl rfl (Yi.move) ?_
        refine HW.early rfl rfl (Yi.move) ?_
        refine HW.early rfl rfl (Yi.move) ?_
        refine HW.step (Ch.drew _ _) rfl rfl (OpK.len (e := 55) (by kernel_rfl) rfl ⟨rfl, rfl⟩) ?_
        refine HW.early rfl rfl (Yi.cmp (r := true) (by rw [← decide_eq_true (show (p : Int) < (us.length : Int) by omega)]; rfl) rfl rfl) ?_
        refine HW.early rfl rfl (Yi.move) ?_
        refine HW.early rfl rfl (Yi.move) ?_
        refine HW.early rfl rfl (Yi.move) ?_
        refine HW.early rfl rfl (Yi.indexAddr (s := 2) (by kernel_rfl) rfl rfl (by omega)) ?_
        refine HW.early rfl rfl (Yi.fieldAddr (off := 0) (by kernel_rfl) rfl) ?_
        refine HW.early rfl rfl (Yi.load (by kernel_rfl) rfl (fun w' hw' => haty.ch (by rw [add_block]; exact hgv) hw' 0 _ rfl)) ?_
        refine HW.early rfl rfl (Yi.fieldAddr (off := 0) (by kernel_rfl) rfl) ?_
        refine HW.early rfl rfl (Yi.load (by kernel_rfl) rfl (fun w' hw' => (hbt4'.ch hw').cell 0)) ?_
        refine HW.early rfl rfl (Yi.cmp (r := false) (by simp [cmpB]; omega) rfl rfl) ?_
        refine HW.early rfl rfl (Yi.pick rfl) ?_
        refine HW.early rfl rfl (Yi.pick rfl) ?_
        refine HW.done ?_
        refine CWL.condF rfl ?_
        simp only [flat, List.cons_append, List.nil_append, List.append_nil]
        generalize w4.drew = w5 at hcw5 hown4 hbt4 hsz ⊢
        have hz := run_bsTag (P := Tryz.prog) (t := 24) (e := 55) (by kernel_rfl)
        have hown5 : TOwn 55 (w5.alloc (.cells zeroG.toArray 55)) (.slice (some ⟨gv, 0, none⟩) us.length cv) us := hown4.keep fun k hk => alloc_old _ _ _ (hown4.lt hk)
        obtain ⟨v6, w6, hr6, hown6, hc6, hb6⟩ := append_tag (P := Tryz.prog) (t := 24) (ty := 24) (by kernel_rfl) (by kernel_rfl) hown5 (by omega) (a := ⟨w5.heap.size, 0, none⟩) (Blk.new w5 55 zeroG).ata
        have hc56 : Ch (fun i => (Value.slice (some ⟨gv, 0, none⟩) us.length cv).ownBlock = some i) w5 w6 := (Ch.alloc _ w5 _).trans hc6 fun i _ h => h
        refine CWL.reg (ops := [(.build 55 #[], 55), (.buildSlice 24 1 #[(0, .tmp 1)], 24), (.call ⟨.builtin .append, #[.tmp 12, .tmp 3], #[24, 24]⟩, 24)]) (b := [(6, 5), (62, 5), (61, 3), (60, 1), (59, 12)]) (by kernel_rfl) ?_
        refine OpK.build (cells := zeroG.toArray) (by kernel_rfl) ?_
        refine OpK.buildS (by simp only [List.map_toArray, List.map_cons, List.map_nil]; exact hz w5) ?_
        refine OpK.run rfl hr6 ?_
        show CWL _ _ _ _ _ _
        obtain ⟨a6, c6, hv6, hf6⟩ := hown6.form
        have hv6' : v6 = .slice a6 (us.length + 1) c6 := by rw [hv6]; simp
        subst hv6'
        have hsub : IntKind.i64.wrap (((us.length + 1 : Nat) : Int) - 1) = (us.length : Int) := by rw [IntKind.wrap_i64]; omega
        refine CWL.reg (ops := [(.call ⟨.builtin .len, #[.tmp 12], #[24]⟩, 3), (.binOp .sub 3 (.tmp 1) (.const (Go.Value.int Go.IntKind.i64 1)) 3, 3)]) (b := [(10, 3), (65, 3), (64, 1), (63, 12)]) (by kernel_rfl) ?_
        refine OpK.len (e := 55) (by kernel_rfl) rfl ?_
        refine OpK.arith (r := (us.length : Int)) (by rw [← hsub]; rfl) rfl rfl ?_
        show CWL _ _ _ _ _ _
        have hbt6 : Blk w6 r 55 [.int .u32 (x.1.toNat : Int), vv] := hbt4.keep (hc56.block r (by omega) hvr)
        have hv6lo : ∀ k, (Value.slice a6 (us.length + 1) c6).ownBlock = some k → w.heap.size ≤ k ∧ k ≠ r := fun k hk => by
          rcases hb6 k hk with h | h
          · exact ⟨hvlo k h, fun e => hvr (e ▸ h)⟩
          · have h0 := hcw5.size
            have e5 : (w5.alloc (.cells zeroG.toArray 55)).heap.size = w5.heap.size + 1 := by simp
            exact ⟨by omega, by omega⟩
        have hcw6 : Ch (fun _ => False) w w6 := hcw5.trans hc56 fun k hk e => by have := hvlo k e; omega
        refine CWL.loopJ (fun m σ w' => ∃ k y, k = p + m ∧ k ≤ us.length ∧ σ 5 = .int .u32 0 ∧ σ 6 = .slice a6 (us.length + 1) c6 ∧ σ 8 = .pointer (some ⟨r, 0, none⟩) ∧ σ 9 = .int .i64 (p : Int) ∧ σ 10 = .int .i64 (k : Int) ∧ σ 17 = .slice (some a) nU c ∧ σ 18 = .int .i64 (nU : Int) ∧ σ 19 = .int .i64 (i : Int) ∧
            TOwn 55 w' (.slice a6 (us.length + 1) c6) (us.take k ++ y :: us.drop k) ∧ Blk w' r 55 [.int .u32 (x.1.toNat : Int), vv] ∧ Ch (fun _ => False) w w')
          (fun σ w' => ∃ y, σ 5 = .int .u32 0 ∧ σ 6 = .slice a6 (us.length + 1) c6 ∧ σ 8 = .pointer (some ⟨r, 0, none⟩) ∧ σ 9 = .int .i64 (p : Int) ∧ σ 17 = .slice (some a) nU c ∧ σ 18 = .int .i64 (nU : Int) ∧ σ 19 = .int .i64 (i : Int) ∧
            TOwn 55 w' (.slice a6 (us.length + 1) c6) (us.take p ++ y :: us.drop p) ∧ Blk w' r 55 [.int .u32 (x.1.toNat : Int), vv] ∧ Ch (fun _ => False) w w') (us.length - p)
          ⟨us.length, (0, .slice none 0 0), by omega, Nat.le_refl _, rfl, rfl, rfl, rfl, rfl, rfl, rfl, rfl, by rw [List.take_of_length_le (Nat.le_refl _), List.drop_of_length_le (Nat.le_refl _)]; exact hown6, hbt6, hcw6⟩ ?_ ?_
        · rintro m σ w7 ⟨k, y, hk, hkl, e5, e6, e8, e9, e10, e17, e18, e19, hown7, hbt7, hcw7⟩
          refine CW.pin [(5, .int .u32 0), (6, .slice a6 (us.length + 1) c6), (8, .pointer (some ⟨r, 0, none⟩)), (9, .int .i64 (p : Int)), (10, .int .i64 (k : Int)), (17, .slice (some a) nU c), (18, .int .i64 (nU : Int)), (19, .int .i64 (i : Int))] (all_pin e5 (all_pin e6 (all_pin e8 (all_pin e9 (all_pin e10 (all_pin e17 (all_pin e18 (all_pin e19 (fun _ h => by cases h))))))))) fun σ => ?_
          simp only [flat, List.cons_append, List.nil_append, List.append_nil]
          refine CWL.reg (ops := [(.binOp .gtr 3 (.tmp 20) (.tmp 18) 3, 4)]) (b := [(68, 1), (67, 18), (66, 20)]) (by kernel_rfl) ?_
          refine OpK.cmp rfl rfl rfl ?_
          show CWL _ _ _ _ _ _
          cases m with
          | zero =>
            refine CWL.condF (congrArg Value.bool (decide_eq_false (by omega))) ?_
            simp only [flat, List.cons_append, List.nil_append, List.append_nil]
            refine CWL.cons (CW.exit ?_)
            obtain rfl : k = p := by omega
            exact ⟨y, rfl, rfl, rfl, rfl, rfl, rfl, rfl, hown7, hbt7, hcw7⟩
          | succ m =>
            refine CWL.condT (congrArg Value.bool (decide_eq_true (by omega))) ?_
            simp only [flat, List.cons_append, List.nil_append, List.append_nil]
            refine CWL.block ?_
            simp only [flat, List.cons_append, List.nil_append, List.append_nil]
            obtain ⟨z, hz⟩ : ∃ z, us[k - 1]? = some z := ⟨_, List.getElem?_eq_getElem (by omega)⟩
            have hget := (shift_get (us := us) (y := y) (k := k) (by omega) hkl).trans hz
            obtain ⟨a7, c7, hv7, hf7⟩ := hown7.form
            obtain ⟨g7, rfl, hg7, hob7, hat7⟩ := hf7 (k - 1) z hget
            have hl7 : (us.take k ++ y :: us.drop k).length = us.length + 1 := by rw [List.length_append, List.length_take, List.length_cons, List.length_drop]; omega
            rw [hl7] at hv7
            cases hv7
            have hown7' : TOwn 55 w7 (.slice (some ⟨g7, 0, none⟩) (us.take k ++ y :: us.drop k).length c6) (us.take k ++ y :: us.drop k) := by rw [hl7]; exact hown7
            have hk1 : IntKind.i64.wrap ((k : Int) - 1) = ((k - 1 : Nat) : Int) := by rw [IntKind.wrap_i64]; omega
            have hz1 : z.2.oneCell' = true := by
              obtain ⟨z', _, hzr⟩ := hall.at1 hz
              exact hzr.2.form
            have hv6 := hv6lo g7 rfl
            refine CWL.reg (ops := [(.binOp .sub 3 (.tmp 20) (.const (Go.Value.int Go.IntKind.i64 1)) 3, 3), (.indexAddr 24 (.tmp 12) (.tmp 1), 0), (.load 55 (.tmp 3), 55), (.indexAddr 24 (.tmp 12) (.tmp 20), 0), (.store 55 (.tmp 7) (.tmp 5), 0)]) (b := [(78, 7), (77, 5), (76, 3), (75, 1), (74, 20), (73, 12), (72, 20), (71, 12)]) (by kernel_rfl) ?_
            refine OpK.arith (r := ((k - 1 : Nat) : Int)) (by rw [← hk1]; rfl) rfl rfl ?_
            refine OpK.indexAddr (s := 2) (by kernel_rfl) rfl rfl (by omega) ?_
            refine OpK.loadA (n := 2) (by kernel_rfl) rfl (hat7) rfl ?_
            refine OpK.indexAddr (s := 2) (by kernel_rfl) rfl rfl (by omega) ?_
            refine OpK.storeT (z := z) (k := k) (by kernel_rfl) rfl rfl hz1 hown7' (by omega) fun w8 hown8 hc8 hs8 => ?_
            show CWL _ _ _ _ _ _
            try refine CWL.nil_ (P := Tryz.prog) (n := 0) ?_
            show CWL _ _ _ _ _ _
            refine CWL.reg (ops := [(.binOp .sub 3 (.tmp 20) (.const (Go.Value.int Go.IntKind.i64 1)) 3, 3)]) (b := [(10, 1), (70, 1), (69, 20)]) (by kernel_rfl) ?_
            refine OpK.arith (r := ((k - 1 : Nat) : Int)) (by rw [← hk1]; rfl) rfl rfl ?_
            show CWL _ _ _ _ _ _
            try refine CWL.nil_ (P := Tryz.prog) (n := 0) ?_
            have hset : (us.take k ++ y :: us.drop k).set k z = us.take (k - 1) ++ z :: us.drop (k - 1) := shift_step (by omega) hkl hz
            refine ⟨m, Nat.lt_succ_self m, k - 1, z, by omega, by omega, rfl, rfl, rfl, rfl, rfl, rfl, rfl, rfl, ?_, hbt7.keep (hc8.block r (by have := hbt7.lt; omega) (fun e => hv6.2 e.symm)), hcw7.trans hc8 fun i hi e => by omega⟩
            rw [hset] at hown8
            have hl8 : (us.take (k - 1) ++ z :: us.drop (k - 1)).length = us.length + 1 := by rw [List.length_append, List.length_take, List.length_cons, List.length_drop]; omega
            rw [hl8] at hown8
            exact hown8
        rintro σ w7 ⟨y, e5, e6, e8, e9, e17, e18, e19, hown7, hbt7, hcw7⟩
        rw [pin_eq (σ := σ) (l := [(5, .int .u32 0), (6, .slice a6 (us.length + 1) c6), (8, .pointer (some ⟨r, 0, none⟩)), (9, .int .i64 (p : Int)), (17, .slice (some a) nU c), (18, .int .i64 (nU : Int)), (19, .int .i64 (i : Int))]) (all_pin e5 (all_pin e6 (all_pin e8 (all_pin e9 (all_pin e17 (all_pin e18 (all_pin e19 (fun _ h => by cases h))))))))]
        have hl7 : (us.take p ++ y :: us.drop p).length = us.length + 1 := by rw [List.length_append, List.length_take, List.length_cons, List.length_drop]; omega
        obtain ⟨g7, rfl⟩ : ∃ g, a6 = some ⟨g, 0, none⟩ := by
          obtain ⟨a7, c7, hv7, hf7⟩ := hown7.form
          obtain ⟨g7, h1, _⟩ := hf7 p y (by rw [List.getElem?_append_right (by rw [List.length_take]; omega), show p - (us.take p).length = 0 by rw [List.length_take]; omega]; rfl)
          rw [hl7] at hv7
          cases hv7
          exact ⟨g7, h1⟩
        have hown7' : TOwn 55 w7 (.slice (some ⟨g7, 0, none⟩) (us.take p ++ y :: us.drop p).length c6) (us.take p ++ y :: us.drop p) := by rw [hl7]; exact hown7
        have hv6 := hv6lo g7 rfl
        refine CWL.reg (ops := [(.load 55 (.tmp 16), 55), (.indexAddr 24 (.tmp 12) (.tmp 18), 0), (.store 55 (.tmp 3) (.tmp 1), 0)]) (b := [(82, 3), (81, 1), (80, 18), (79, 12)]) (by kernel_rfl) ?_
        refine OpK.loadA (n := 2) (by kernel_rfl) rfl (hbt7.ata) rfl ?_
        refine OpK.indexAddr (s := 2) (by kernel_rfl) rfl rfl (by omega) ?_
        refine OpK.storeT (z := (x.1.toNat, vv)) (k := p) (by kernel_rfl) rfl rfl hvv.form hown7' (by omega) fun w8 hown8 hc8 hs8 => ?_
        show CWL _ _ _ _ _ _
        try refine CWL.nil_ (P := Tryz.prog) (n := 0) ?_
        show CWL _ _ _ _ _ _
        have hi1 := i64_succ i (by omega)
        refine CWL.reg (ops := [(.binOp .add 3 (.tmp 38) (.const (Go.Value.int Go.IntKind.i64 1)) 3, 3)]) (b := [(19, 1), (83, 1)]) (by kernel_rfl) ?_
        refine OpK.arith (r := ((i + 1 : Nat) : Int)) (by rw [← hi1]; rfl) rfl rfl ?_
        show CWL _ _ _ _ _ _
        try refine CWL.nil_ (P := Tryz.prog) (n := 0) ?_
        rw [shift_end (by omega)] at hown8
        have hl8 : (us.take p ++ (x.1.toNat, vv) :: us.drop p).length = us.length + 1 := by rw [List.length_append, List.length_take, List.length_cons, List.length_drop]; omega
        rw [hl8] at hown8
        exact ⟨m, Nat.lt_succ_self m, i + 1, _, _, by omega, rfl, rfl, rfl, rfl, rfl, hown8, by rw [hnext]; exact hins.2 hex, hcw7.trans hc8 fun i hi e => by omega, fun k hk => by cases hk; exact hv6.1⟩
      · have hpe : p = us.length := by omega
        subst hv
        refine CWL.regD0 mixed [(0, true), (1, true), (2, true), (3, true), (4, true), (5, true), (6, true), (7, false), (8, true), (9, true), (10, true), (11, true), (12, true), (13, true), (14, true), (15, true), (16, true), (17, true), (18, true), (19, true)] (by decide +kernel) ?_
        refine HW.early rfl rfl (Yi.fieldAddr (off := 0) (by kernel_rfl) rfl) ?_
        refine HW.early rfl rfl (Yi.load (by kernel_rfl) rfl (fun w' hw' => (hbt4'.ch hw').cell 0)) ?_
        refine HW.early rfl rfl (Yi.move) ?_
        refine HW.early rfl rfl (Yi.cmp (r := false) (by rw [← hkey0]; rfl) rfl rfl) ?_
        refine HW.early rfl rfl (Yi.move) ?_
        refine HW.early rfl rfl (Yi.move) ?_
        refine HW.early rfl rfl (Yi.move) ?_
        refine HW.step (Ch.drew _ _) rfl rfl (OpK.len (e := 55) (by kernel_rfl) rfl ⟨rfl, rfl⟩) ?_
        refine HW.early rfl rfl (Yi.cmp (r := false) (by rw [← decide_eq_false (show ¬ (p : Int) < (us.length : Int) by omega)]; rfl) rfl rfl) ?_
        refine HW.early rfl rfl (Yi.move) ?_
        refine HW.none_ rfl rfl ?_
        refine HW.none_ rfl rfl ?_
        refine HW.none_ rfl rfl ?_
        refine HW.none_ rfl rfl ?_
        refine HW.none_ rfl rfl ?_
        refine HW.none_ rfl rfl ?_
        refine HW.none_ rfl rfl ?_
        refine HW.none_ rfl rfl ?_
        refine HW.early rfl rfl (Yi.pick rfl) ?_
        refine HW.early rfl rfl (Yi.pick rfl) ?_
        refine HW.done ?_
        refine CWL.condF rfl ?_
        simp only [flat, List.cons_append, List.nil_append, List.append_nil]
        generalize w4.drew = w5 at hcw5 hown4 hbt4 hsz ⊢
        have hz := run_bsTag (P := Tryz.prog) (t := 24) (e := 55) (by kernel_rfl)
        have hown5 : TOwn 55 (w5.alloc (.cells zeroG.toArray 55)) (.slice av us.length cv) us := hown4.keep fun k hk => alloc_old _ _ _ (hown4.lt hk)
        obtain ⟨v6, w6, hr6, hown6, hc6, hb6⟩ := append_tag (P := Tryz.prog) (t := 24) (ty := 24) (by kernel_rfl) (by kernel_rfl) hown5 (by omega) (a := ⟨w5.heap.size, 0, none⟩) (Blk.new w5 55 zeroG).ata
        have hc56 : Ch (fun i => (Value.slice av us.length cv).ownBlock = some i) w5 w6 := (Ch.alloc _ w5 _).trans hc6 fun i _ h => h
        refine CWL.reg (ops := [(.build 55 #[], 55), (.buildSlice 24 1 #[(0, .tmp 1)], 24), (.call ⟨.builtin .append, #[.tmp 12, .tmp 3], #[24, 24]⟩, 24)]) (b := [(6, 5), (62, 5), (61, 3), (60, 1), (59, 12)]) (by kernel_rfl) ?_
        refine OpK.build (cells := zeroG.toArray) (by kernel_rfl) ?_
        refine OpK.buildS (by simp only [List.map_toArray, List.map_cons, List.map_nil]; exact hz w5) ?_
        refine OpK.run rfl hr6 ?_
        show CWL _ _ _ _ _ _
        obtain ⟨a6, c6, hv6, hf6⟩ := hown6.form
        have hv6' : v6 = .slice a6 (us.length + 1) c6 := by rw [hv6]; simp
        subst hv6'
        have hsub : IntKind.i64.wrap (((us.length + 1 : Nat) : Int) - 1) = (us.length : Int) := by rw [IntKind.wrap_i64]; omega
        refine CWL.reg (ops := [(.call ⟨.builtin .len, #[.tmp 12], #[24]⟩, 3), (.binOp .sub 3 (.tmp 1) (.const (Go.Value.int Go.IntKind.i64 1)) 3, 3)]) (b := [(10, 3), (65, 3), (64, 1), (63, 12)]) (by kernel_rfl) ?_
        refine OpK.len (e := 55) (by kernel_rfl) rfl ?_
        refine OpK.arith (r := (us.length : Int)) (by rw [← hsub]; rfl) rfl rfl ?_
        show CWL _ _ _ _ _ _
        have hbt6 : Blk w6 r 55 [.int .u32 (x.1.toNat : Int), vv] := hbt4.keep (hc56.block r (by omega) hvr)
        have hv6lo : ∀ k, (Value.slice a6 (us.length + 1) c6).ownBlock = some k → w.heap.size ≤ k ∧ k ≠ r := fun k hk => by
          rcases hb6 k hk with h | h
          · exact ⟨hvlo k h, fun e => hvr (e ▸ h)⟩
          · have h0 := hcw5.size
            have e5 : (w5.alloc (.cells zeroG.toArray 55)).heap.size = w5.heap.size + 1 := by simp
            exact ⟨by omega, by omega⟩
        have hcw6 : Ch (fun _ => False) w w6 := hcw5.trans hc56 fun k hk e => by have := hvlo k e; omega
        refine CWL.loopJ (fun m σ w' => ∃ k y, k = p + m ∧ k ≤ us.length ∧ σ 5 = .int .u32 0 ∧ σ 6 = .slice a6 (us.length + 1) c6 ∧ σ 8 = .pointer (some ⟨r, 0, none⟩) ∧ σ 9 = .int .i64 (p : Int) ∧ σ 10 = .int .i64 (k : Int) ∧ σ 17 = .slice (some a) nU c ∧ σ 18 = .int .i64 (nU : Int) ∧ σ 19 = .int .i64 (i : Int) ∧
            TOwn 55 w' (.slice a6 (us.length + 1) c6) (us.take k ++ y :: us.drop k) ∧ Blk w' r 55 [.int .u32 (x.1.toNat : Int), vv] ∧ Ch (fun _ => False) w w')
          (fun σ w' => ∃ y, σ 5 = .int .u32 0 ∧ σ 6 = .slice a6 (us.length + 1) c6 ∧ σ 8 = .pointer (some ⟨r, 0, none⟩) ∧ σ 9 = .int .i64 (p : Int) ∧ σ 17 = .slice (some a) nU c ∧ σ 18 = .int .i64 (nU : Int) ∧ σ 19 = .int .i64 (i : Int) ∧
            TOwn 55 w' (.slice a6 (us.length + 1) c6) (us.take p ++ y :: us.drop p) ∧ Blk w' r 55 [.int .u32 (x.1.toNat : Int), vv] ∧ Ch (fun _ => False) w w') (us.length - p)
          ⟨us.length, (0, .slice none 0 0), by omega, Nat.le_refl _, rfl, rfl, rfl, rfl, rfl, rfl, rfl, rfl, by rw [List.take_of_length_le (Nat.le_refl _), List.drop_of_length_le (Nat.le_refl _)]; exact hown6, hbt6, hcw6⟩ ?_ ?_
        · rintro m σ w7 ⟨k, y, hk, hkl, e5, e6, e8, e9, e10, e17, e18, e19, hown7, hbt7, hcw7⟩
          refine CW.pin [(5, .int .u32 0), (6, .slice a6 (us.length + 1) c6), (8, .pointer (some ⟨r, 0, none⟩)), (9, .int .i64 (p : Int)), (10, .int .i64 (k : Int)), (17, .slice (some a) nU c), (18, .int .i64 (nU : Int)), (19, .int .i64 (i : Int))] (all_pin e5 (all_pin e6 (all_pin e8 (all_pin e9 (all_pin e10 (all_pin e17 (all_pin e18 (all_pin e19 (fun _ h => by cases h))))))))) fun σ => ?_
          simp only [flat, List.cons_append, List.nil_append, List.append_nil]
          refine CWL.reg (ops := [(.binOp .gtr 3 (.tmp 20) (.tmp 18) 3, 4)]) (b := [(68, 1), (67, 18), (66, 20)]) (by kernel_rfl) ?_
          refine OpK.cmp rfl rfl rfl ?_
          show CWL _ _ _ _ _ _
          cases m with
          | zero =>
            refine CWL.condF (congrArg Value.bool (decide_eq_false (by omega))) ?_
            simp only [flat, List.cons_append, List.nil_append, List.append_nil]
            refine CWL.cons (CW.exit ?_)
            obtain rfl : k = p := by omega
            exact ⟨y, rfl, rfl, rfl, rfl, rfl, rfl, rfl, hown7, hbt7, hcw7⟩
          | succ m =>
            refine CWL.condT (congrArg Value.bool (decide_eq_true (by omega))) ?_
            simp only [flat, List.cons_append, List.nil_append, List.append_nil]
            refine CWL.block ?_
            simp only [flat, List.cons_append, List.nil_append, List.append_nil]
            obtain ⟨z, hz⟩ : ∃ z, us[k - 1]? = some z := ⟨_, List.getElem?_eq_getElem (by omega)⟩
            have hget := (shift_get (us := us) (y := y) (k := k) (by omega) hkl).trans hz
            obtain ⟨a7, c7, hv7, hf7⟩ := hown7.form
            obtain ⟨g7, rfl, hg7, hob7, hat7⟩ := hf7 (k - 1) z hget
            have hl7 : (us.take k ++ y :: us.drop k).length = us.length + 1 := by rw [List.length_append, List.length_take, List.length_cons, List.length_drop]; omega
            rw [hl7] at hv7
            cases hv7
            have hown7' : TOwn 55 w7 (.slice (some ⟨g7, 0, none⟩) (us.take k ++ y :: us.drop k).length c6) (us.take k ++ y :: us.drop k) := by rw [hl7]; exact hown7
            have hk1 : IntKind.i64.wrap ((k : Int) - 1) = ((k - 1 : Nat) : Int) := by rw [IntKind.wrap_i64]; omega
            have hz1 : z.2.oneCell' = true := by
              obtain ⟨z', _, hzr⟩ := hall.at1 hz
              exact hzr.2.form
            have hv6 := hv6lo g7 rfl
            refine CWL.reg (ops := [(.binOp .sub 3 (.tmp 20) (.const (Go.Value.int Go.IntKind.i64 1)) 3, 3), (.indexAddr 24 (.tmp 12) (.tmp 1), 0), (.load 55 (.tmp 3), 55), (.indexAddr 24 (.tmp 12) (.tmp 20), 0), (.store 55 (.tmp 7) (.tmp 5), 0)]) (b := [(78, 7), (77, 5), (76, 3), (75, 1), (74, 20), (73, 12), (72, 20), (71, 12)]) (by kernel_rfl) ?_
            refine OpK.arith (r := ((k - 1 : Nat) : Int)) (by rw [← hk1]; rfl) rfl rfl ?_
            refine OpK.indexAddr (s := 2) (by kernel_rfl) rfl rfl (by omega) ?_
            refine OpK.loadA (n := 2) (by kernel_rfl) rfl (hat7) rfl ?_
            refine OpK.indexAddr (s := 2) (by kernel_rfl) rfl rfl (by omega) ?_
            refine OpK.storeT (z := z) (k := k) (by kernel_rfl) rfl rfl hz1 hown7' (by omega) fun w8 hown8 hc8 hs8 => ?_
            show CWL _ _ _ _ _ _
            try refine CWL.nil_ (P := Tryz.prog) (n := 0) ?_
            show CWL _ _ _ _ _ _
            refine CWL.reg (ops := [(.binOp .sub 3 (.tmp 20) (.const (Go.Value.int Go.IntKind.i64 1)) 3, 3)]) (b := [(10, 1), (70, 1), (69, 20)]) (by kernel_rfl) ?_
            refine OpK.arith (r := ((k - 1 : Nat) : Int)) (by rw [← hk1]; rfl) rfl rfl ?_
            show CWL _ _ _ _ _ _
            try refine CWL.nil_ (P := Tryz.prog) (n := 0) ?_
            have hset : (us.take k ++ y :: us.drop k).set k z = us.take (k - 1) ++ z :: us.drop (k - 1) := shift_step (by omega) hkl hz
            refine ⟨m, Nat.lt_succ_self m, k - 1, z, by omega, by omega, rfl, rfl, rfl, rfl, rfl, rfl, rfl, rfl, ?_, hbt7.keep (hc8.block r (by have := hbt7.lt; omega) (fun e => hv6.2 e.symm)), hcw7.trans hc8 fun i hi e => by omega⟩
            rw [hset] at hown8
            have hl8 : (us.take (k - 1) ++ z :: us.drop (k - 1)).length = us.length + 1 := by rw [List.length_append, List.length_take, List.length_cons, List.length_drop]; omega
            rw [hl8] at hown8
            exact hown8
        rintro σ w7 ⟨y, e5, e6, e8, e9, e17, e18, e19, hown7, hbt7, hcw7⟩
        rw [pin_eq (σ := σ) (l := [(5, .int .u32 0), (6, .slice a6 (us.length + 1) c6), (8, .pointer (some ⟨r, 0, none⟩)), (9, .int .i64 (p : Int)), (17, .slice (some a) nU c), (18, .int .i64 (nU : Int)), (19, .int .i64 (i : Int))]) (all_pin e5 (all_pin e6 (all_pin e8 (all_pin e9 (all_pin e17 (all_pin e18 (all_pin e19 (fun _ h => by cases h))))))))]
        have hl7 : (us.take p ++ y :: us.drop p).length = us.length + 1 := by rw [List.length_append, List.length_take, List.length_cons, List.length_drop]; omega
        obtain ⟨g7, rfl⟩ : ∃ g, a6 = some ⟨g, 0, none⟩ := by
          obtain ⟨a7, c7, hv7, hf7⟩ := hown7.form
          obtain ⟨g7, h1, _⟩ := hf7 p y (by rw [List.getElem?_append_right (by rw [List.length_take]; omega), show p - (us.take p).length = 0 by rw [List.length_take]; omega]; rfl)
          rw [hl7] at hv7
          cases hv7
          exact ⟨g7, h1⟩
        have hown7' : TOwn 55 w7 (.slice (some ⟨g7, 0, none⟩) (us.take p ++ y :: us.drop p).length c6) (us.take p ++ y :: us.drop p) := by rw [hl7]; exact hown7
        have hv6 := hv6lo g7 rfl
        refine CWL.reg (ops := [(.load 55 (.tmp 16), 55), (.indexAddr 24 (.tmp 12) (.tmp 18), 0), (.store 55 (.tmp 3) (.tmp 1), 0)]) (b := [(82, 3), (81, 1), (80, 18), (79, 12)]) (by kernel_rfl) ?_
        refine OpK.loadA (n := 2) (by kernel_rfl) rfl (hbt7.ata) rfl ?_
        refine OpK.indexAddr (s := 2) (by kernel_rfl) rfl rfl (by omega) ?_
        refine OpK.storeT (z := (x.1.toNat, vv)) (k := p) (by kernel_rfl) rfl rfl hvv.form hown7' (by omega) fun w8 hown8 hc8 hs8 => ?_
        show CWL _ _ _ _ _ _
        try refine CWL.nil_ (P := Tryz.prog) (n := 0) ?_
        show CWL _ _ _ _ _ _
        have hi1 := i64_succ i (by omega)
        refine CWL.reg (ops := [(.binOp .add 3 (.tmp 38) (.const (Go.Value.int Go.IntKind.i64 1)) 3, 3)]) (b := [(19, 1), (83, 1)]) (by kernel_rfl) ?_
        refine OpK.arith (r := ((i + 1 : Nat) : Int)) (by rw [← hi1]; rfl) rfl rfl ?_
        show CWL _ _ _ _ _ _
        try refine CWL.nil_ (P := Tryz.prog) (n := 0) ?_
        rw [shift_end (by omega)] at hown8
        have hl8 : (us.take p ++ (x.1.toNat, vv) :: us.drop p).length = us.length + 1 := by rw [List.length_append, List.length_take, List.length_cons, List.length_drop]; omega
        rw [hl8] at hown8
        exact ⟨m, Nat.lt_succ_self m, i + 1, _, _, by omega, rfl, rfl, rfl, rfl, rfl, hown8, by rw [hnext]; exact hins.2 hex, hcw7.trans hc8 fun i hi e => by omega, fun k hk => by cases hk; exact hv6.1⟩
end Go.Proofs.YthcpchmmpnakaaaGreatDoor.Sp
