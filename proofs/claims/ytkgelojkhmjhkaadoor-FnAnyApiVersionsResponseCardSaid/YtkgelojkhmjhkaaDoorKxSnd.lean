/- What the functions of the package that write a value, or a count, do: each writes the octets that the plain functions say, behind the slice that it is given. -/
import Derived.Test.YtkgelojkhmjhkaaDoorKxDraw
import Derived.Test.YtkgelojkhmjhkaaDoorKxAgain2
import Derived.Test.YtkgelojkhmjhkaaDoorProg
namespace Go.Proofs.YtkgelojkhmjhkaaDoor.Snd
open Go.Kx Go.RowKit Go.Proofs
set_option maxRecDepth 100000
set_option linter.unusedSimpArgs false
set_option linter.unusedVariables false

theorem u8 : U8 Tryd.prog 5 := by unfold U8; kernel_rfl
theorem und : Tryd.prog.underlying 22 = some (.slice 5) := by kernel_rfl
theorem unds : Tryd.prog.underlying 9 = some .string := by kernel_rfl

theorem call45 : Callable Tryd.prog 45 := ⟨Tryd.f45, Tryd.func45, by kernel_rfl, by kernel_rfl⟩
set_option maxHeartbeats 4000000 in
theorem c45 (w : World) (n : Int) (d : Value) (bs : List UInt8) (hd : Own 5 w d bs) (hl : bs.length + 2 ≤ Lim) : Calls Tryd.prog 45 #[d, .int .u16 n] w fun en w' => ∃ d', en = .returned d' ∧ Grew 5 w d w' d' (bs ++ be 2 n) := by
  obtain ⟨v', w', hr, hg⟩ := append_lit (ty := 22) und u8 hd (be 2 n) (by rw [be_length]; exact hl)
  have hc : ((be 2 n).map bv) = [.int .u8 (IntKind.u8.wrap (n / 2 ^ min ((8 : Int).toNat) IntKind.u16.bits)), .int .u8 (IntKind.u8.wrap n)] := by
    simp only [be, List.map_cons, List.map_nil]
    rw [← oct_shr n 1 8 rfl, ← oct_low n]
    rfl
  rw [hc, be_length] at hr
  refine Calls.of_CW Tryd.func45 rfl (by decide +kernel) (Nat.le_of_ble_eq_true (by kernel_rfl)) (CW.of_flat ?_)
  simp only [flat, List.cons_append, List.nil_append, List.append_nil]
  refine CWL.reg (ops := [(.assign (.const (Go.Value.slice none 0 0)), 22)]) (b := [(4, 1)]) (by kernel_rfl) ?_
  refine OpK.assign ?_
  refine CWL.reg (ops := [(.binOp .shr 78 (.tmp 2) (.const (Go.Value.int Go.IntKind.u64 8)) 80, 78), (.convert 78 5 (.tmp 1), 5), (.convert 78 5 (.tmp 2), 5), (.buildSlice 22 2 #[(0, .tmp 3), (1, .tmp 5)], 22), (.call ⟨.builtin .append, #[.tmp 0, .tmp 7], #[22, 22]⟩, 22)]) (b := [(4, 9), (12, 9), (11, 7), (10, 5), (9, 2), (8, 3), (7, 1), (6, 2), (5, 0)]) (by kernel_rfl) ?_
  refine OpK.shr rfl rfl (by decide) ?_
  refine OpK.convInt (k' := .u8) (by kernel_rfl) (by kernel_rfl) rfl ?_
  refine OpK.convInt (k' := .u8) (by kernel_rfl) (by kernel_rfl) rfl ?_
  refine OpK.buildS (by simp only [List.map_toArray, List.map_cons, List.map_nil]; exact run_bs2 (by kernel_rfl) u8 _ _) ?_
  refine OpK.run rfl hr ?_
  refine CWL.cons (CW.ret ?_)
  exact ⟨_, rfl, hg⟩

theorem call49 : Callable Tryd.prog 49 := ⟨Tryd.f49, Tryd.func49, by kernel_rfl, by kernel_rfl⟩
set_option maxHeartbeats 4000000 in
theorem c49 (w : World) (n : Int) (d : Value) (bs : List UInt8) (hd : Own 5 w d bs) (hl : bs.length + 4 ≤ Lim) : Calls Tryd.prog 49 #[d, .int .u32 n] w fun en w' => ∃ d', en = .returned d' ∧ Grew 5 w d w' d' (bs ++ be 4 n) := by
  obtain ⟨v', w', hr, hg⟩ := append_lit (ty := 22) und u8 hd (be 4 n) (by rw [be_length]; exact hl)
  have hc : ((be 4 n).map bv) = [.int .u8 (IntKind.u8.wrap (n / 2 ^ min ((24 : Int).toNat) IntKind.u32.bits)), .int .u8 (IntKind.u8.wrap (n / 2 ^ min ((16 : Int).toNat) IntKind.u32.bits)), .int .u8 (IntKind.u8.wrap (n / 2 ^ min ((8 : Int).toNat) IntKind.u32.bits)), .int .u8 (IntKind.u8.wrap n)] := by
    simp only [be, List.map_cons, List.map_nil]
    rw [← oct_shr n 3 24 rfl, ← oct_shr n 2 16 rfl, ← oct_shr n 1 8 rfl, ← oct_low n]
    rfl
  rw [hc, be_length] at hr
  refine Calls.of_CW Tryd.func49 rfl (by decide +kernel) (Nat.le_of_ble_eq_true (by kernel_rfl)) (CW.of_flat ?_)
  simp only [flat, List.cons_append, List.nil_append, List.append_nil]
  refine CWL.reg (ops := [(.assign (.const (Go.Value.slice none 0 0)), 22)]) (b := [(4, 1)]) (by kernel_rfl) ?_
  refine OpK.assign ?_
  refine CWL.reg (ops := [(.binOp .shr 53 (.tmp 2) (.const (Go.Value.int Go.IntKind.u64 24)) 80, 53), (.convert 53 5 (.tmp 1), 5), (.binOp .shr 53 (.tmp 2) (.const (Go.Value.int Go.IntKind.u64 16)) 80, 53), (.convert 53 5 (.tmp 5), 5), (.binOp .shr 53 (.tmp 2) (.const (Go.Value.int Go.IntKind.u64 8)) 80, 53), (.convert 53 5 (.tmp 9), 5), (.convert 53 5 (.tmp 2), 5), (.buildSlice 22 4 #[(0, .tmp 3), (1, .tmp 7), (2, .tmp 11), (3, .tmp 13)], 22), (.call ⟨.builtin .append, #[.tmp 0, .tmp 15], #[22, 22]⟩, 22)]) (b := [(4, 17), (18, 17), (17, 15), (16, 13), (15, 2), (14, 11), (13, 9), (12, 2), (11, 7), (10, 5), (9, 2), (8, 3), (7, 1), (6, 2), (5, 0)]) (by kernel_rfl) ?_
  refine OpK.shr rfl rfl (by decide) ?_
  refine OpK.convInt (k' := .u8) (by kernel_rfl) (by kernel_rfl) rfl ?_
  refine OpK.shr rfl rfl (by decide) ?_
  refine OpK.convInt (k' := .u8) (by kernel_rfl) (by kernel_rfl) rfl ?_
  refine OpK.shr rfl rfl (by decide) ?_
  refine OpK.convInt (k' := .u8) (by kernel_rfl) (by kernel_rfl) rfl ?_
  refine OpK.convInt (k' := .u8) (by kernel_rfl) (by kernel_rfl) rfl ?_
  refine OpK.buildS (by simp only [List.map_toArray, List.map_cons, List.map_nil]; exact run_bs4 (by kernel_rfl) u8 _ _ _ _) ?_
  refine OpK.run rfl hr ?_
  refine CWL.cons (CW.ret ?_)
  exact ⟨_, rfl, hg⟩

theorem call50 : Callable Tryd.prog 50 := ⟨Tryd.f50, Tryd.func50, by kernel_rfl, by kernel_rfl⟩
set_option maxHeartbeats 4000000 in
theorem c50 (w : World) (n : Int) (d : Value) (bs : List UInt8) (hd : Own 5 w d bs) (hl : bs.length + 8 ≤ Lim) : Calls Tryd.prog 50 #[d, .int .u64 n] w fun en w' => ∃ d', en = .returned d' ∧ Grew 5 w d w' d' (bs ++ be 8 n) := by
  obtain ⟨v', w', hr, hg⟩ := append_lit (ty := 22) und u8 hd (be 8 n) (by rw [be_length]; exact hl)
  have hc : ((be 8 n).map bv) = [.int .u8 (IntKind.u8.wrap (n / 2 ^ min ((56 : Int).toNat) IntKind.u64.bits)), .int .u8 (IntKind.u8.wrap (n / 2 ^ min ((48 : Int).toNat) IntKind.u64.bits)), .int .u8 (IntKind.u8.wrap (n / 2 ^ min ((40 : Int).toNat) IntKind.u64.bits)), .int .u8 (IntKind.u8.wrap (n / 2 ^ min ((32 : Int).toNat) IntKind.u64.bits)), .int .u8 (IntKind.u8.wrap (n / 2 ^ min ((24 : Int).toNat) IntKind.u64.bits)), .int .u8 (IntKind.u8.wrap (n / 2 ^ min ((16 : Int).toNat) IntKind.u64.bits)), .int .u8 (IntKind.u8.wrap (n / 2 ^ min ((8 : Int).toNat) IntKind.u64.bits)), .int .u8 (IntKind.u8.wrap n)] := by
    simp only [be, List.map_cons, List.map_nil]
    rw [← oct_shr n 7 56 rfl, ← oct_shr n 6 48 rfl, ← oct_shr n 5 40 rfl, ← oct_shr n 4 32 rfl, ← oct_shr n 3 24 rfl, ← oct_shr n 2 16 rfl, ← oct_shr n 1 8 rfl, ← oct_low n]
    rfl
  rw [hc, be_length] at hr
  refine Calls.of_CW Tryd.func50 rfl (by decide +kernel) (Nat.le_of_ble_eq_true (by kernel_rfl)) (CW.of_flat ?_)
  simp only [flat, List.cons_append, List.nil_append, List.append_nil]
  refine CWL.reg (ops := [(.assign (.const (Go.Value.slice none 0 0)), 22)]) (b := [(4, 1)]) (by kernel_rfl) ?_
  refine OpK.assign ?_
  refine CWL.reg (ops := [(.binOp .shr 84 (.tmp 2) (.const (Go.Value.int Go.IntKind.u64 56)) 80, 84), (.convert 84 5 (.tmp 1), 5), (.binOp .shr 84 (.tmp 2) (.const (Go.Value.int Go.IntKind.u64 48)) 80, 84), (.convert 84 5 (.tmp 5), 5), (.binOp .shr 84 (.tmp 2) (.const (Go.Value.int Go.IntKind.u64 40)) 80, 84), (.convert 84 5 (.tmp 9), 5), (.binOp .shr 84 (.tmp 2) (.const (Go.Value.int Go.IntKind.u64 32)) 80, 84), (.convert 84 5 (.tmp 13), 5), (.binOp .shr 84 (.tmp 2) (.const (Go.Value.int Go.IntKind.u64 24)) 80, 84), (.convert 84 5 (.tmp 17), 5), (.binOp .shr 84 (.tmp 2) (.const (Go.Value.int Go.IntKind.u64 16)) 80, 84), (.convert 84 5 (.tmp 21), 5), (.binOp .shr 84 (.tmp 2) (.const (Go.Value.int Go.IntKind.u64 8)) 80, 84), (.convert 84 5 (.tmp 25), 5), (.convert 84 5 (.tmp 2), 5), (.buildSlice 22 8 #[(0, .tmp 3), (1, .tmp 7), (2, .tmp 11), (3, .tmp 15), (4, .tmp 19), (5, .tmp 23), (6, .tmp 27), (7, .tmp 29)], 22), (.call ⟨.builtin .append, #[.tmp 0, .tmp 31], #[22, 22]⟩, 22)]) (b := [(4, 33), (30, 33), (29, 31), (28, 29), (27, 2), (26, 27), (25, 25), (24, 2), (23, 23), (22, 21), (21, 2), (20, 19), (19, 17), (18, 2), (17, 15), (16, 13), (15, 2), (14, 11), (13, 9), (12, 2), (11, 7), (10, 5), (9, 2), (8, 3), (7, 1), (6, 2), (5, 0)]) (by kernel_rfl) ?_
  refine OpK.shr rfl rfl (by decide) ?_
  refine OpK.convInt (k' := .u8) (by kernel_rfl) (by kernel_rfl) rfl ?_
  refine OpK.shr rfl rfl (by decide) ?_
  refine OpK.convInt (k' := .u8) (by kernel_rfl) (by kernel_rfl) rfl ?_
  refine OpK.shr rfl rfl (by decide) ?_
  refine OpK.convInt (k' := .u8) (by kernel_rfl) (by kernel_rfl) rfl ?_
  refine OpK.shr rfl rfl (by decide) ?_
  refine OpK.convInt (k' := .u8) (by kernel_rfl) (by kernel_rfl) rfl ?_
  refine OpK.shr rfl rfl (by decide) ?_
  refine OpK.convInt (k' := .u8) (by kernel_rfl) (by kernel_rfl) rfl ?_
  refine OpK.shr rfl rfl (by decide) ?_
  refine OpK.convInt (k' := .u8) (by kernel_rfl) (by kernel_rfl) rfl ?_
  refine OpK.shr rfl rfl (by decide) ?_
  refine OpK.convInt (k' := .u8) (by kernel_rfl) (by kernel_rfl) rfl ?_
  refine OpK.convInt (k' := .u8) (by kernel_rfl) (by kernel_rfl) rfl ?_
  refine OpK.buildS (by simp only [List.map_toArray, List.map_cons, List.map_nil]; exact run_bs8 (by kernel_rfl) u8 _ _ _ _ _ _ _ _) ?_
  refine OpK.run rfl hr ?_
  refine CWL.cons (CW.ret ?_)
  exact ⟨_, rfl, hg⟩

theorem call25 : Callable Tryd.prog 25 := ⟨Tryd.f25, Tryd.func25, by kernel_rfl, by kernel_rfl⟩
set_option maxHeartbeats 4000000 in
theorem ok25 (full : Bool) : ApOk Tryd.prog 5 full 25 (.val false .bool) := by
  intro w S v cs d bs hr hd hcl hl
  cases v <;> simp only [Rep, Wt.ty] at hr
  rename_i b
  subst hr
  obtain ⟨v', w', hr, hg⟩ := append_lit (ty := 22) und u8 hd [if b then 1 else 0] hl
  cases b
  · skip
    refine Calls.of_CW Tryd.func25 rfl (by decide +kernel) (Nat.le_of_ble_eq_true (by kernel_rfl)) (CW.of_flat ?_)
    simp only [flat, List.cons_append, List.nil_append, List.append_nil]
    refine CWL.reg (ops := [(.assign (.const (Go.Value.slice none 0 0)), 22)]) (b := [(4, 1)]) (by kernel_rfl) ?_
    refine OpK.assign ?_
    refine CWL.reg (ops := []) (b := [(5, 2)]) (by kernel_rfl) ?_
    refine CWL.condF rfl ?_
    simp only [flat, List.cons_append, List.nil_append, List.append_nil]
    refine CWL.reg (ops := [(.buildSlice 22 1 #[(0, .const (Go.Value.int Go.IntKind.u8 0))], 22), (.call ⟨.builtin .append, #[.tmp 0, .tmp 1], #[22, 22]⟩, 22)]) (b := [(4, 3), (11, 3), (10, 1), (9, 0)]) (by kernel_rfl) ?_
    refine OpK.buildS (by simp only [List.map_toArray, List.map_cons, List.map_nil]; exact run_bs1 (by kernel_rfl) u8 _) ?_
    refine OpK.run rfl hr ?_
    refine CWL.ret ?_
    exact ⟨_, rfl, hg⟩
  · skip
    refine Calls.of_CW Tryd.func25 rfl (by decide +kernel) (Nat.le_of_ble_eq_true (by kernel_rfl)) (CW.of_flat ?_)
    simp only [flat, List.cons_append, List.nil_append, List.append_nil]
    refine CWL.reg (ops := [(.assign (.const (Go.Value.slice none 0 0)), 22)]) (b := [(4, 1)]) (by kernel_rfl) ?_
    refine OpK.assign ?_
    refine CWL.reg (ops := []) (b := [(5, 2)]) (by kernel_rfl) ?_
    refine CWL.condT rfl ?_
    simp only [flat, List.cons_append, List.nil_append, List.append_nil]
    refine CWL.reg (ops := [(.buildSlice 22 1 #[(0, .const (Go.Value.int Go.IntKind.u8 1))], 22), (.call ⟨.builtin .append, #[.tmp 0, .tmp 1], #[22, 22]⟩, 22)]) (b := [(4, 3), (8, 3), (7, 1), (6, 0)]) (by kernel_rfl) ?_
    refine OpK.buildS (by simp only [List.map_toArray, List.map_cons, List.map_nil]; exact run_bs1 (by kernel_rfl) u8 _) ?_
    refine OpK.run rfl hr ?_
    refine CWL.ret ?_
    exact ⟨_, rfl, hg⟩

theorem call15 : Callable Tryd.prog 15 := ⟨Tryd.f15, Tryd.func15, by kernel_rfl, by kernel_rfl⟩
set_option maxHeartbeats 4000000 in
theorem c15 (w : World) (n : Int) (d : Value) (bs : List UInt8) (hd : Own 5 w d bs) (hl : bs.length + 2 ≤ Lim) : Calls Tryd.prog 15 #[d, .int .i16 n] w fun en w' => ∃ d', en = .returned d' ∧ Grew 5 w d w' d' (bs ++ be 2 n) := by
  refine Calls.of_CW Tryd.func15 rfl (by decide +kernel) (Nat.le_of_ble_eq_true (by kernel_rfl)) (CW.of_flat ?_)
  simp only [flat, List.cons_append, List.nil_append, List.append_nil]
  refine CWL.reg (ops := [(.assign (.const (Go.Value.slice none 0 0)), 22)]) (b := [(4, 1)]) (by kernel_rfl) ?_
  refine OpK.assign ?_
  refine CWL.reg (ops := [(.convert 29 78 (.tmp 2), 78), (.call ⟨.value (.func 45), #[.tmp 0, .tmp 1], #[22, 78]⟩, 22)]) (b := [(4, 3), (8, 3), (7, 1), (6, 2), (5, 0)]) (by kernel_rfl) ?_
  refine OpK.convInt (k' := .u16) (by kernel_rfl) (by kernel_rfl) rfl ?_
  refine OpK.asCall rfl call45 rfl ((c45 w (IntKind.u16.wrap n) d bs hd hl).mono ?_)
  rintro en w1 ⟨d1, he1, hg1⟩
  refine ⟨d1, he1, ?_⟩
  refine CWL.ret ?_
  rw [be2_u16] at hg1
  exact ⟨_, rfl, hg1⟩

theorem call21 : Callable Tryd.prog 21 := ⟨Tryd.f21, Tryd.func21, by kernel_rfl, by kernel_rfl⟩
set_option maxHeartbeats 4000000 in
theorem c21 (w : World) (n : Int) (d : Value) (bs : List UInt8) (hd : Own 5 w d bs) (hl : bs.length + 4 ≤ Lim) : Calls Tryd.prog 21 #[d, .int .i32 n] w fun en w' => ∃ d', en = .returned d' ∧ Grew 5 w d w' d' (bs ++ be 4 n) := by
  refine Calls.of_CW Tryd.func21 rfl (by decide +kernel) (Nat.le_of_ble_eq_true (by kernel_rfl)) (CW.of_flat ?_)
  simp only [flat, List.cons_append, List.nil_append, List.append_nil]
  refine CWL.reg (ops := [(.assign (.const (Go.Value.slice none 0 0)), 22)]) (b := [(4, 1)]) (by kernel_rfl) ?_
  refine OpK.assign ?_
  refine CWL.reg (ops := [(.convert 21 53 (.tmp 2), 53), (.call ⟨.value (.func 49), #[.tmp 0, .tmp 1], #[22, 53]⟩, 22)]) (b := [(4, 3), (8, 3), (7, 1), (6, 2), (5, 0)]) (by kernel_rfl) ?_
  refine OpK.convInt (k' := .u32) (by kernel_rfl) (by kernel_rfl) rfl ?_
  refine OpK.asCall rfl call49 rfl ((c49 w (IntKind.u32.wrap n) d bs hd hl).mono ?_)
  rintro en w1 ⟨d1, he1, hg1⟩
  refine ⟨d1, he1, ?_⟩
  refine CWL.ret ?_
  rw [be4_u32] at hg1
  exact ⟨_, rfl, hg1⟩

theorem call24 : Callable Tryd.prog 24 := ⟨Tryd.f24, Tryd.func24, by kernel_rfl, by kernel_rfl⟩
set_option maxHeartbeats 4000000 in
theorem c24 (w : World) (n : Int) (d : Value) (bs : List UInt8) (hd : Own 5 w d bs) (hl : bs.length + 8 ≤ Lim) : Calls Tryd.prog 24 #[d, .int .i64 n] w fun en w' => ∃ d', en = .returned d' ∧ Grew 5 w d w' d' (bs ++ be 8 n) := by
  refine Calls.of_CW Tryd.func24 rfl (by decide +kernel) (Nat.le_of_ble_eq_true (by kernel_rfl)) (CW.of_flat ?_)
  simp only [flat, List.cons_append, List.nil_append, List.append_nil]
  refine CWL.reg (ops := [(.assign (.const (Go.Value.slice none 0 0)), 22)]) (b := [(4, 1)]) (by kernel_rfl) ?_
  refine OpK.assign ?_
  refine CWL.reg (ops := [(.convert 2 84 (.tmp 2), 84), (.call ⟨.value (.func 50), #[.tmp 0, .tmp 1], #[22, 84]⟩, 22)]) (b := [(4, 3), (8, 3), (7, 1), (6, 2), (5, 0)]) (by kernel_rfl) ?_
  refine OpK.convInt (k' := .u64) (by kernel_rfl) (by kernel_rfl) rfl ?_
  refine OpK.asCall rfl call50 rfl ((c50 w (IntKind.u64.wrap n) d bs hd hl).mono ?_)
  rintro en w1 ⟨d1, he1, hg1⟩
  refine ⟨d1, he1, ?_⟩
  refine CWL.ret ?_
  rw [be8_u64] at hg1
  exact ⟨_, rfl, hg1⟩

set_option maxHeartbeats 4000000 in
theorem ok15 (full : Bool) : ApOk Tryd.prog 5 full 15 (.val false .i16) := by
  intro w S v cs d bs hr hd hcl hl
  cases v <;> simp only [Rep, Wt.ty] at hr
  rename_i n
  obtain ⟨rfl, hn⟩ := hr
  exact c15 w n d bs hd hl

set_option maxHeartbeats 4000000 in
theorem ok45 (full : Bool) : ApOk Tryd.prog 5 full 45 (.val false .u16) := by
  intro w S v cs d bs hr hd hcl hl
  cases v <;> simp only [Rep, Wt.ty] at hr
  rename_i n
  obtain ⟨rfl, hn⟩ := hr
  exact c45 w n d bs hd hl

set_option maxHeartbeats 4000000 in
theorem ok21 (full : Bool) : ApOk Tryd.prog 5 full 21 (.val false .i32) := by
  intro w S v cs d bs hr hd hcl hl
  cases v <;> simp only [Rep, Wt.ty] at hr
  rename_i n
  obtain ⟨rfl, hn⟩ := hr
  exact c21 w n d bs hd hl

set_option maxHeartbeats 4000000 in
theorem ok24 (full : Bool) : ApOk Tryd.prog 5 full 24 (.val false .i64) := by
  intro w S v cs d bs hr hd hcl hl
  cases v <;> simp only [Rep, Wt.ty] at hr
  rename_i n
  obtain ⟨rfl, hn⟩ := hr
  exact c24 w n d bs hd hl

theorem tab8 (j : Nat) (h : j < 256) : (match (.const (Go.Value.string {data := List.toArray (List.append (List.append [0, 1, 2, 2, 3, 3, 3, 3, 4, 4, 4, 4, 4, 4, 4, 4, 5, 5, 5, 5, 5, 5, 5, 5, 5, 5, 5, 5, 5, 5, 5, 5, 6, 6, 6, 6, 6, 6, 6, 6, 6, 6, 6, 6, 6, 6, 6, 6, 6, 6, 6, 6, 6, 6, 6, 6, 6, 6, 6, 6, 6, 6, 6, 6] [7, 7, 7, 7, 7, 7, 7, 7, 7, 7, 7, 7, 7, 7, 7, 7, 7, 7, 7, 7, 7, 7, 7, 7, 7, 7, 7, 7, 7, 7, 7, 7, 7, 7, 7, 7, 7, 7, 7, 7, 7, 7, 7, 7, 7, 7, 7, 7, 7, 7, 7, 7, 7, 7, 7, 7, 7, 7, 7, 7, 7, 7, 7, 7]) (List.append [8, 8, 8, 8, 8, 8, 8, 8, 8, 8, 8, 8, 8, 8, 8, 8, 8, 8, 8, 8, 8, 8, 8, 8, 8, 8, 8, 8, 8, 8, 8, 8, 8, 8, 8, 8, 8, 8, 8, 8, 8, 8, 8, 8, 8, 8, 8, 8, 8, 8, 8, 8, 8, 8, 8, 8, 8, 8, 8, 8, 8, 8, 8, 8] [8, 8, 8, 8, 8, 8, 8, 8, 8, 8, 8, 8, 8, 8, 8, 8, 8, 8, 8, 8, 8, 8, 8, 8, 8, 8, 8, 8, 8, 8, 8, 8, 8, 8, 8, 8, 8, 8, 8, 8, 8, 8, 8, 8, 8, 8, 8, 8, 8, 8, 8, 8, 8, 8, 8, 8, 8, 8, 8, 8, 8, 8, 8, 8]))}) : Operand) with | .const (.string s) => s[j]? | _ => none) = some (UInt8.ofNat (bl8 j)) := by
  have k : ∀ j : Fin 256, (match (.const (Go.Value.string {data := List.toArray (List.append (List.append [0, 1, 2, 2, 3, 3, 3, 3, 4, 4, 4, 4, 4, 4, 4, 4, 5, 5, 5, 5, 5, 5, 5, 5, 5, 5, 5, 5, 5, 5, 5, 5, 6, 6, 6, 6, 6, 6, 6, 6, 6, 6, 6, 6, 6, 6, 6, 6, 6, 6, 6, 6, 6, 6, 6, 6, 6, 6, 6, 6, 6, 6, 6, 6] [7, 7, 7, 7, 7, 7, 7, 7, 7, 7, 7, 7, 7, 7, 7, 7, 7, 7, 7, 7, 7, 7, 7, 7, 7, 7, 7, 7, 7, 7, 7, 7, 7, 7, 7, 7, 7, 7, 7, 7, 7, 7, 7, 7, 7, 7, 7, 7, 7, 7, 7, 7, 7, 7, 7, 7, 7, 7, 7, 7, 7, 7, 7, 7]) (List.append [8, 8, 8, 8, 8, 8, 8, 8, 8, 8, 8, 8, 8, 8, 8, 8, 8, 8, 8, 8, 8, 8, 8, 8, 8, 8, 8, 8, 8, 8, 8, 8, 8, 8, 8, 8, 8, 8, 8, 8, 8, 8, 8, 8, 8, 8, 8, 8, 8, 8, 8, 8, 8, 8, 8, 8, 8, 8, 8, 8, 8, 8, 8, 8] [8, 8, 8, 8, 8, 8, 8, 8, 8, 8, 8, 8, 8, 8, 8, 8, 8, 8, 8, 8, 8, 8, 8, 8, 8, 8, 8, 8, 8, 8, 8, 8, 8, 8, 8, 8, 8, 8, 8, 8, 8, 8, 8, 8, 8, 8, 8, 8, 8, 8, 8, 8, 8, 8, 8, 8, 8, 8, 8, 8, 8, 8, 8, 8]))}) : Operand) with | .const (.string s) => s[j.1]? | _ => none) = some (UInt8.ofNat (bl8 j.1)) := by decide +kernel
  exact k ⟨j, h⟩

theorem call56 : Callable Tryd.prog 56 := ⟨Tryd.f56, Tryd.func56, by kernel_rfl, by kernel_rfl⟩
set_option maxHeartbeats 4000000 in
theorem c56 (w : World) (n : Nat) (hn : n < 4294967296) : Calls Tryd.prog 56 #[.int .u32 n] w fun en w' => ∃ r, en = .returned r ∧ r = .int .i64 (bl32 n : Int) ∧ w' = w := by
  by_cases h1 : 65536 ≤ n
  · by_cases h2 : 256 ≤ n / 65536
    · skip
      have hb : bl32 n = 24 + bl8 (n / 65536 / 256) := by unfold bl32; rw [if_pos h1, if_pos h2]
      refine Calls.of_CW Tryd.func56 rfl (by decide +kernel) (Nat.le_of_ble_eq_true (by kernel_rfl)) (CW.of_flat ?_)
      simp only [flat, List.cons_append, List.nil_append, List.append_nil]
      refine CWL.reg (ops := [(.assign (.const (Go.Value.int Go.IntKind.i64 0)), 3)]) (b := [(2, 1)]) (by kernel_rfl) ?_
      refine OpK.assign ?_
      refine CWL.reg (ops := [(.binOp .geq 53 (.tmp 0) (.const (Go.Value.int Go.IntKind.u32 65536)) 53, 4)]) (b := [(4, 1), (3, 0)]) (by kernel_rfl) ?_
      refine OpK.cmp rfl rfl rfl ?_
      refine CWL.condT (congrArg Value.bool (decide_eq_true (by omega))) ?_
      simp only [flat, List.cons_append, List.nil_append, List.append_nil]
      refine CWL.reg (ops := [(.binOp .shr 53 (.tmp 0) (.const (Go.Value.int Go.IntKind.u64 16)) 80, 53)]) (b := [(0, 1), (6, 1), (5, 0)]) (by kernel_rfl) ?_
      refine OpK.shr rfl rfl (by decide) ?_
      refine CWL.reg (ops := [(.assign (.const (Go.Value.int Go.IntKind.i64 16)), 3)]) (b := [(2, 1)]) (by kernel_rfl) ?_
      refine OpK.assign ?_
      refine CWL.reg (ops := [(.binOp .geq 53 (.tmp 0) (.const (Go.Value.int Go.IntKind.u32 256)) 53, 4)]) (b := [(8, 1), (7, 0)]) (by kernel_rfl) ?_
      refine OpK.cmp rfl rfl rfl ?_
      refine CWL.condT (congrArg Value.bool (decide_eq_true (by rw [show (2 : Int) ^ min ((16 : Int).toNat) IntKind.u32.bits = 65536 from rfl]; omega))) ?_
      simp only [flat, List.cons_append, List.nil_append, List.append_nil]
      refine CWL.reg (ops := [(.binOp .shr 53 (.tmp 0) (.const (Go.Value.int Go.IntKind.u64 8)) 80, 53)]) (b := [(0, 1), (10, 1), (9, 0)]) (by kernel_rfl) ?_
      refine OpK.shr rfl rfl (by decide) ?_
      refine CWL.reg (ops := [(.binOp .add 3 (.tmp 4) (.const (Go.Value.int Go.IntKind.i64 8)) 3, 3)]) (b := [(2, 1), (12, 1), (11, 4)]) (by kernel_rfl) ?_
      refine OpK.arith rfl rfl rfl ?_
      refine CWL.reg (ops := [(.convert 53 5 (.tmp 0), 5), (.index 9 (.const (Go.Value.string {data := List.toArray (List.append (List.append [0, 1, 2, 2, 3, 3, 3, 3, 4, 4, 4, 4, 4, 4, 4, 4, 5, 5, 5, 5, 5, 5, 5, 5, 5, 5, 5, 5, 5, 5, 5, 5, 6, 6, 6, 6, 6, 6, 6, 6, 6, 6, 6, 6, 6, 6, 6, 6, 6, 6, 6, 6, 6, 6, 6, 6, 6, 6, 6, 6, 6, 6, 6, 6] [7, 7, 7, 7, 7, 7, 7, 7, 7, 7, 7, 7, 7, 7, 7, 7, 7, 7, 7, 7, 7, 7, 7, 7, 7, 7, 7, 7, 7, 7, 7, 7, 7, 7, 7, 7, 7, 7, 7, 7, 7, 7, 7, 7, 7, 7, 7, 7, 7, 7, 7, 7, 7, 7, 7, 7, 7, 7, 7, 7, 7, 7, 7, 7]) (List.append [8, 8, 8, 8, 8, 8, 8, 8, 8, 8, 8, 8, 8, 8, 8, 8, 8, 8, 8, 8, 8, 8, 8, 8, 8, 8, 8, 8, 8, 8, 8, 8, 8, 8, 8, 8, 8, 8, 8, 8, 8, 8, 8, 8, 8, 8, 8, 8, 8, 8, 8, 8, 8, 8, 8, 8, 8, 8, 8, 8, 8, 8, 8, 8] [8, 8, 8, 8, 8, 8, 8, 8, 8, 8, 8, 8, 8, 8, 8, 8, 8, 8, 8, 8, 8, 8, 8, 8, 8, 8, 8, 8, 8, 8, 8, 8, 8, 8, 8, 8, 8, 8, 8, 8, 8, 8, 8, 8, 8, 8, 8, 8, 8, 8, 8, 8, 8, 8, 8, 8, 8, 8, 8, 8, 8, 8, 8, 8]))})) (.tmp 1), 5), (.convert 5 3 (.tmp 3), 3), (.binOp .add 3 (.tmp 4) (.tmp 5) 3, 3)]) (b := [(2, 7), (18, 7), (17, 5), (16, 3), (15, 1), (14, 0), (13, 4)]) (by kernel_rfl) ?_
      refine OpK.convInt (k' := .u8) (by kernel_rfl) (by kernel_rfl) rfl ?_
      refine OpK.indexStr (by kernel_rfl) rfl (congrArg (Value.int .u8) (show _ = ((n / 65536 / 256 : Nat) : Int) by rw [show (2 : Int) ^ min ((16 : Int).toNat) IntKind.u32.bits = 65536 from rfl, show (2 : Int) ^ min ((8 : Int).toNat) IntKind.u32.bits = 256 from rfl]; rw [IntKind.wrap_u8]; omega)) (tab8 (n / 65536 / 256) (by omega)) ?_
      refine OpK.convInt (k' := .i64) (by kernel_rfl) (by kernel_rfl) rfl ?_
      refine OpK.arith rfl rfl rfl ?_
      refine CWL.ret ?_
      refine ⟨_, rfl, ?_, rfl⟩
      rw [hb]
      exact len_fin 24 (n / 65536 / 256) (by decide)
    · skip
      have hb : bl32 n = 16 + bl8 (n / 65536) := by unfold bl32; rw [if_pos h1, if_neg h2]
      refine Calls.of_CW Tryd.func56 rfl (by decide +kernel) (Nat.le_of_ble_eq_true (by kernel_rfl)) (CW.of_flat ?_)
      simp only [flat, List.cons_append, List.nil_append, List.append_nil]
      refine CWL.reg (ops := [(.assign (.const (Go.Value.int Go.IntKind.i64 0)), 3)]) (b := [(2, 1)]) (by kernel_rfl) ?_
      refine OpK.assign ?_
      refine CWL.reg (ops := [(.binOp .geq 53 (.tmp 0) (.const (Go.Value.int Go.IntKind.u32 65536)) 53, 4)]) (b := [(4, 1), (3, 0)]) (by kernel_rfl) ?_
      refine OpK.cmp rfl rfl rfl ?_
      refine CWL.condT (congrArg Value.bool (decide_eq_true (by omega))) ?_
      simp only [flat, List.cons_append, List.nil_append, List.append_nil]
      refine CWL.reg (ops := [(.binOp .shr 53 (.tmp 0) (.const (Go.Value.int Go.IntKind.u64 16)) 80, 53)]) (b := [(0, 1), (6, 1), (5, 0)]) (by kernel_rfl) ?_
      refine OpK.shr rfl rfl (by decide) ?_
      refine CWL.reg (ops := [(.assign (.const (Go.Value.int Go.IntKind.i64 16)), 3)]) (b := [(2, 1)]) (by kernel_rfl) ?_
      refine OpK.assign ?_
      refine CWL.reg (ops := [(.binOp .geq 53 (.tmp 0) (.const (Go.Value.int Go.IntKind.u32 256)) 53, 4)]) (b := [(8, 1), (7, 0)]) (by kernel_rfl) ?_
      refine OpK.cmp rfl rfl rfl ?_
      refine CWL.condF (congrArg Value.bool (decide_eq_false (by rw [show (2 : Int) ^ min ((16 : Int).toNat) IntKind.u32.bits = 65536 from rfl]; omega))) ?_
      simp only [flat, List.cons_append, List.nil_append, List.append_nil]
      refine CWL.reg (ops := [(.convert 53 5 (.tmp 0), 5), (.index 9 (.const (Go.Value.string {data := List.toArray (List.append (List.append [0, 1, 2, 2, 3, 3, 3, 3, 4, 4, 4, 4, 4, 4, 4, 4, 5, 5, 5, 5, 5, 5, 5, 5, 5, 5, 5, 5, 5, 5, 5, 5, 6, 6, 6, 6, 6, 6, 6, 6, 6, 6, 6, 6, 6, 6, 6, 6, 6, 6, 6, 6, 6, 6, 6, 6, 6, 6, 6, 6, 6, 6, 6, 6] [7, 7, 7, 7, 7, 7, 7, 7, 7, 7, 7, 7, 7, 7, 7, 7, 7, 7, 7, 7, 7, 7, 7, 7, 7, 7, 7, 7, 7, 7, 7, 7, 7, 7, 7, 7, 7, 7, 7, 7, 7, 7, 7, 7, 7, 7, 7, 7, 7, 7, 7, 7, 7, 7, 7, 7, 7, 7, 7, 7, 7, 7, 7, 7]) (List.append [8, 8, 8, 8, 8, 8, 8, 8, 8, 8, 8, 8, 8, 8, 8, 8, 8, 8, 8, 8, 8, 8, 8, 8, 8, 8, 8, 8, 8, 8, 8, 8, 8, 8, 8, 8, 8, 8, 8, 8, 8, 8, 8, 8, 8, 8, 8, 8, 8, 8, 8, 8, 8, 8, 8, 8, 8, 8, 8, 8, 8, 8, 8, 8] [8, 8, 8, 8, 8, 8, 8, 8, 8, 8, 8, 8, 8, 8, 8, 8, 8, 8, 8, 8, 8, 8, 8, 8, 8, 8, 8, 8, 8, 8, 8, 8, 8, 8, 8, 8, 8, 8, 8, 8, 8, 8, 8, 8, 8, 8, 8, 8, 8, 8, 8, 8, 8, 8, 8, 8, 8, 8, 8, 8, 8, 8, 8, 8]))})) (.tmp 1), 5), (.convert 5 3 (.tmp 3), 3), (.binOp .add 3 (.tmp 4) (.tmp 5) 3, 3)]) (b := [(2, 7), (18, 7), (17, 5), (16, 3), (15, 1), (14, 0), (13, 4)]) (by kernel_rfl) ?_
      refine OpK.convInt (k' := .u8) (by kernel_rfl) (by kernel_rfl) rfl ?_
      refine OpK.indexStr (by kernel_rfl) rfl (congrArg (Value.int .u8) (show _ = ((n / 65536 : Nat) : Int) by rw [show (2 : Int) ^ min ((16 : Int).toNat) IntKind.u32.bits = 65536 from rfl]; rw [IntKind.wrap_u8]; omega)) (tab8 (n / 65536) (by omega)) ?_
      refine OpK.convInt (k' := .i64) (by kernel_rfl) (by kernel_rfl) rfl ?_
      refine OpK.arith rfl rfl rfl ?_
      refine CWL.ret ?_
      refine ⟨_, rfl, ?_, rfl⟩
      rw [hb]
      exact len_fin 16 (n / 65536) (by decide)
  · by_cases h2 : 256 ≤ n
    · skip
      have hb : bl32 n = 8 + bl8 (n / 256) := by unfold bl32; rw [if_neg h1, if_pos h2]
      refine Calls.of_CW Tryd.func56 rfl (by decide +kernel) (Nat.le_of_ble_eq_true (by kernel_rfl)) (CW.of_flat ?_)
      simp only [flat, List.cons_append, List.nil_append, List.append_nil]
      refine CWL.reg (ops := [(.assign (.const (Go.Value.int Go.IntKind.i64 0)), 3)]) (b := [(2, 1)]) (by kernel_rfl) ?_
      refine OpK.assign ?_
      refine CWL.reg (ops := [(.binOp .geq 53 (.tmp 0) (.const (Go.Value.int Go.IntKind.u32 65536)) 53, 4)]) (b := [(4, 1), (3, 0)]) (by kernel_rfl) ?_
      refine OpK.cmp rfl rfl rfl ?_
      refine CWL.condF (congrArg Value.bool (decide_eq_false (by omega))) ?_
      simp only [flat, List.cons_append, List.nil_append, List.append_nil]
      refine CWL.reg (ops := [(.binOp .geq 53 (.tmp 0) (.const (Go.Value.int Go.IntKind.u32 256)) 53, 4)]) (b := [(8, 1), (7, 0)]) (by kernel_rfl) ?_
      refine OpK.cmp rfl rfl rfl ?_
      refine CWL.condT (congrArg Value.bool (decide_eq_true (by omega))) ?_
      simp only [flat, List.cons_append, List.nil_append, List.append_nil]
      refine CWL.reg (ops := [(.binOp .shr 53 (.tmp 0) (.const (Go.Value.int Go.IntKind.u64 8)) 80, 53)]) (b := [(0, 1), (10, 1), (9, 0)]) (by kernel_rfl) ?_
      refine OpK.shr rfl rfl (by decide) ?_
      refine CWL.reg (ops := [(.binOp .add 3 (.tmp 4) (.const (Go.Value.int Go.IntKind.i64 8)) 3, 3)]) (b := [(2, 1), (12, 1), (11, 4)]) (by kernel_rfl) ?_
      refine OpK.arith rfl rfl rfl ?_
      refine CWL.reg (ops := [(.convert 53 5 (.tmp 0), 5), (.index 9 (.const (Go.Value.string {data := List.toArray (List.append (List.append [0, 1, 2, 2, 3, 3, 3, 3, 4, 4, 4, 4, 4, 4, 4, 4, 5, 5, 5, 5, 5, 5, 5, 5, 5, 5, 5, 5, 5, 5, 5, 5, 6, 6, 6, 6, 6, 6, 6, 6, 6, 6, 6, 6, 6, 6, 6, 6, 6, 6, 6, 6, 6, 6, 6, 6, 6, 6, 6, 6, 6, 6, 6, 6] [7, 7, 7, 7, 7, 7, 7, 7, 7, 7, 7, 7, 7, 7, 7, 7, 7, 7, 7, 7, 7, 7, 7, 7, 7, 7, 7, 7, 7, 7, 7, 7, 7, 7, 7, 7, 7, 7, 7, 7, 7, 7, 7, 7, 7, 7, 7, 7, 7, 7, 7, 7, 7, 7, 7, 7, 7, 7, 7, 7, 7, 7, 7, 7]) (List.append [8, 8, 8, 8, 8, 8, 8, 8, 8, 8, 8, 8, 8, 8, 8, 8, 8, 8, 8, 8, 8, 8, 8, 8, 8, 8, 8, 8, 8, 8, 8, 8, 8, 8, 8, 8, 8, 8, 8, 8, 8, 8, 8, 8, 8, 8, 8, 8, 8, 8, 8, 8, 8, 8, 8, 8, 8, 8, 8, 8, 8, 8, 8, 8] [8, 8, 8, 8, 8, 8, 8, 8, 8, 8, 8, 8, 8, 8, 8, 8, 8, 8, 8, 8, 8, 8, 8, 8, 8, 8, 8, 8, 8, 8, 8, 8, 8, 8, 8, 8, 8, 8, 8, 8, 8, 8, 8, 8, 8, 8, 8, 8, 8, 8, 8, 8, 8, 8, 8, 8, 8, 8, 8, 8, 8, 8, 8, 8]))})) (.tmp 1), 5), (.convert 5 3 (.tmp 3), 3), (.binOp .add 3 (.tmp 4) (.tmp 5) 3, 3)]) (b := [(2, 7), (18, 7), (17, 5), (16, 3), (15, 1), (14, 0), (13, 4)]) (by kernel_rfl) ?_
      refine OpK.convInt (k' := .u8) (by kernel_rfl) (by kernel_rfl) rfl ?_
      refine OpK.indexStr (by kernel_rfl) rfl (congrArg (Value.int .u8) (show _ = ((n / 256 : Nat) : Int) by rw [show (2 : Int) ^ min ((8 : Int).toNat) IntKind.u32.bits = 256 from rfl]; rw [IntKind.wrap_u8]; omega)) (tab8 (n / 256) (by omega)) ?_
      refine OpK.convInt (k' := .i64) (by kernel_rfl) (by kernel_rfl) rfl ?_
      refine OpK.arith rfl rfl rfl ?_
      refine CWL.ret ?_
      refine ⟨_, rfl, ?_, rfl⟩
      rw [hb]
      exact len_fin 8 (n / 256) (by decide)
    · skip
      have hb : bl32 n = 0 + bl8 (n) := by unfold bl32; rw [if_neg h1, if_neg h2]; simp
      refine Calls.of_CW Tryd.func56 rfl (by decide +kernel) (Nat.le_of_ble_eq_true (by kernel_rfl)) (CW.of_flat ?_)
      simp only [flat, List.cons_append, List.nil_append, List.append_nil]
      refine CWL.reg (ops := [(.assign (.const (Go.Value.int Go.IntKind.i64 0)), 3)]) (b := [(2, 1)]) (by kernel_rfl) ?_
      refine OpK.assign ?_
      refine CWL.reg (ops := [(.binOp .geq 53 (.tmp 0) (.const (Go.Value.int Go.IntKind.u32 65536)) 53, 4)]) (b := [(4, 1), (3, 0)]) (by kernel_rfl) ?_
      refine OpK.cmp rfl rfl rfl ?_
      refine CWL.condF (congrArg Value.bool (decide_eq_false (by omega))) ?_
      simp only [flat, List.cons_append, List.nil_append, List.append_nil]
      refine CWL.reg (ops := [(.binOp .geq 53 (.tmp 0) (.const (Go.Value.int Go.IntKind.u32 256)) 53, 4)]) (b := [(8, 1), (7, 0)]) (by kernel_rfl) ?_
      refine OpK.cmp rfl rfl rfl ?_
      refine CWL.condF (congrArg Value.bool (decide_eq_false (by omega))) ?_
      simp only [flat, List.cons_append, List.nil_append, List.append_nil]
      refine CWL.reg (ops := [(.convert 53 5 (.tmp 0), 5), (.index 9 (.const (Go.Value.string {data := List.toArray (List.append (List.append [0, 1, 2, 2, 3, 3, 3, 3, 4, 4, 4, 4, 4, 4, 4, 4, 5, 5, 5, 5, 5, 5, 5, 5, 5, 5, 5, 5, 5, 5, 5, 5, 6, 6, 6, 6, 6, 6, 6, 6, 6, 6, 6, 6, 6, 6, 6, 6, 6, 6, 6, 6, 6, 6, 6, 6, 6, 6, 6, 6, 6, 6, 6, 6] [7, 7, 7, 7, 7, 7, 7, 7, 7, 7, 7, 7, 7, 7, 7, 7, 7, 7, 7, 7, 7, 7, 7, 7, 7, 7, 7, 7, 7, 7, 7, 7, 7, 7, 7, 7, 7, 7, 7, 7, 7, 7, 7, 7, 7, 7, 7, 7, 7, 7, 7, 7, 7, 7, 7, 7, 7, 7, 7, 7, 7, 7, 7, 7]) (List.append [8, 8, 8, 8, 8, 8, 8, 8, 8, 8, 8, 8, 8, 8, 8, 8, 8, 8, 8, 8, 8, 8, 8, 8, 8, 8, 8, 8, 8, 8, 8, 8, 8, 8, 8, 8, 8, 8, 8, 8, 8, 8, 8, 8, 8, 8, 8, 8, 8, 8, 8, 8, 8, 8, 8, 8, 8, 8, 8, 8, 8, 8, 8, 8] [8, 8, 8, 8, 8, 8, 8, 8, 8, 8, 8, 8, 8, 8, 8, 8, 8, 8, 8, 8, 8, 8, 8, 8, 8, 8, 8, 8, 8, 8, 8, 8, 8, 8, 8, 8, 8, 8, 8, 8, 8, 8, 8, 8, 8, 8, 8, 8, 8, 8, 8, 8, 8, 8, 8, 8, 8, 8, 8, 8, 8, 8, 8, 8]))})) (.tmp 1), 5), (.convert 5 3 (.tmp 3), 3), (.binOp .add 3 (.tmp 4) (.tmp 5) 3, 3)]) (b := [(2, 7), (18, 7), (17, 5), (16, 3), (15, 1), (14, 0), (13, 4)]) (by kernel_rfl) ?_
      refine OpK.convInt (k' := .u8) (by kernel_rfl) (by kernel_rfl) rfl ?_
      refine OpK.indexStr (by kernel_rfl) rfl (congrArg (Value.int .u8) (show _ = ((n : Nat) : Int) by rw [IntKind.wrap_u8]; omega)) (tab8 (n) (by omega)) ?_
      refine OpK.convInt (k' := .i64) (by kernel_rfl) (by kernel_rfl) rfl ?_
      refine OpK.arith rfl rfl rfl ?_
      refine CWL.ret ?_
      refine ⟨_, rfl, ?_, rfl⟩
      rw [hb]
      exact len_fin 0 (n) (by decide)

theorem tabU (j : Nat) (h : j ≤ 32) : (match (.const (Go.Value.string {data := List.toArray (List.append (List.append [1, 1, 1, 1, 1, 1, 1, 1, 2, 2, 2, 2, 2, 2, 2, 3, 3, 3, 3, 3, 3, 3, 4, 4, 4, 4, 4, 4, 4, 5, 5, 5, 5, 5, 5, 5, 6, 6, 6, 6, 6, 6, 6, 7, 7, 7, 7, 7, 7, 7, 8, 8, 8, 8, 8, 8, 8, 9, 9, 9, 9, 9, 9, 9] [10, 0, 0, 0, 0, 0, 0, 0, 0, 0, 0, 0, 0, 0, 0, 0, 0, 0, 0, 0, 0, 0, 0, 0, 0, 0, 0, 0, 0, 0, 0, 0, 0, 0, 0, 0, 0, 0, 0, 0, 0, 0, 0, 0, 0, 0, 0, 0, 0, 0, 0, 0, 0, 0, 0, 0, 0, 0, 0, 0, 0, 0, 0, 0]) (List.append [0, 0, 0, 0, 0, 0, 0, 0, 0, 0, 0, 0, 0, 0, 0, 0, 0, 0, 0, 0, 0, 0, 0, 0, 0, 0, 0, 0, 0, 0, 0, 0, 0, 0, 0, 0, 0, 0, 0, 0, 0, 0, 0, 0, 0, 0, 0, 0, 0, 0, 0, 0, 0, 0, 0, 0, 0, 0, 0, 0, 0, 0, 0, 0] [0, 0, 0, 0, 0, 0, 0, 0, 0, 0, 0, 0, 0, 0, 0, 0, 0, 0, 0, 0, 0, 0, 0, 0, 0, 0, 0, 0, 0, 0, 0, 0, 0, 0, 0, 0, 0, 0, 0, 0, 0, 0, 0, 0, 0, 0, 0, 0, 0, 0, 0, 0, 0, 0, 0, 0, 0, 0, 0, 0, 0, 0, 0, 0]))}) : Operand) with | .const (.string s) => s[j]? | _ => none) = some (UInt8.ofNat (utab j)) := by
  have k : ∀ j : Fin 33, (match (.const (Go.Value.string {data := List.toArray (List.append (List.append [1, 1, 1, 1, 1, 1, 1, 1, 2, 2, 2, 2, 2, 2, 2, 3, 3, 3, 3, 3, 3, 3, 4, 4, 4, 4, 4, 4, 4, 5, 5, 5, 5, 5, 5, 5, 6, 6, 6, 6, 6, 6, 6, 7, 7, 7, 7, 7, 7, 7, 8, 8, 8, 8, 8, 8, 8, 9, 9, 9, 9, 9, 9, 9] [10, 0, 0, 0, 0, 0, 0, 0, 0, 0, 0, 0, 0, 0, 0, 0, 0, 0, 0, 0, 0, 0, 0, 0, 0, 0, 0, 0, 0, 0, 0, 0, 0, 0, 0, 0, 0, 0, 0, 0, 0, 0, 0, 0, 0, 0, 0, 0, 0, 0, 0, 0, 0, 0, 0, 0, 0, 0, 0, 0, 0, 0, 0, 0]) (List.append [0, 0, 0, 0, 0, 0, 0, 0, 0, 0, 0, 0, 0, 0, 0, 0, 0, 0, 0, 0, 0, 0, 0, 0, 0, 0, 0, 0, 0, 0, 0, 0, 0, 0, 0, 0, 0, 0, 0, 0, 0, 0, 0, 0, 0, 0, 0, 0, 0, 0, 0, 0, 0, 0, 0, 0, 0, 0, 0, 0, 0, 0, 0, 0] [0, 0, 0, 0, 0, 0, 0, 0, 0, 0, 0, 0, 0, 0, 0, 0, 0, 0, 0, 0, 0, 0, 0, 0, 0, 0, 0, 0, 0, 0, 0, 0, 0, 0, 0, 0, 0, 0, 0, 0, 0, 0, 0, 0, 0, 0, 0, 0, 0, 0, 0, 0, 0, 0, 0, 0, 0, 0, 0, 0, 0, 0, 0, 0]))}) : Operand) with | .const (.string s) => s[j.1]? | _ => none) = some (UInt8.ofNat (utab j.1)) := by decide +kernel
  exact k ⟨j, by omega⟩

theorem call46 : Callable Tryd.prog 46 := ⟨Tryd.f46, Tryd.func46, by kernel_rfl, by kernel_rfl⟩
set_option maxHeartbeats 4000000 in
theorem c46 (w : World) (n : Nat) (hn : n < 4294967296) : Calls Tryd.prog 46 #[.int .u32 n] w fun en w' => ∃ r, en = .returned r ∧ r = .int .i64 (uvLen n : Int) ∧ w' = w := by
  refine Calls.of_CW Tryd.func46 rfl (by decide +kernel) (Nat.le_of_ble_eq_true (by kernel_rfl)) (CW.of_flat ?_)
  simp only [flat, List.cons_append, List.nil_append, List.append_nil]
  refine CWL.reg (ops := [(.assign (.const (Go.Value.int Go.IntKind.i64 0)), 3)]) (b := [(2, 1)]) (by kernel_rfl) ?_
  refine OpK.assign ?_
  refine CWL.reg (ops := [(.call ⟨.value (.func 56), #[.tmp 0], #[53]⟩, 3), (.convert 3 5 (.tmp 1), 5), (.index 9 (.const (Go.Value.string {data := List.toArray (List.append (List.append [1, 1, 1, 1, 1, 1, 1, 1, 2, 2, 2, 2, 2, 2, 2, 3, 3, 3, 3, 3, 3, 3, 4, 4, 4, 4, 4, 4, 4, 5, 5, 5, 5, 5, 5, 5, 6, 6, 6, 6, 6, 6, 6, 7, 7, 7, 7, 7, 7, 7, 8, 8, 8, 8, 8, 8, 8, 9, 9, 9, 9, 9, 9, 9] [10, 0, 0, 0, 0, 0, 0, 0, 0, 0, 0, 0, 0, 0, 0, 0, 0, 0, 0, 0, 0, 0, 0, 0, 0, 0, 0, 0, 0, 0, 0, 0, 0, 0, 0, 0, 0, 0, 0, 0, 0, 0, 0, 0, 0, 0, 0, 0, 0, 0, 0, 0, 0, 0, 0, 0, 0, 0, 0, 0, 0, 0, 0, 0]) (List.append [0, 0, 0, 0, 0, 0, 0, 0, 0, 0, 0, 0, 0, 0, 0, 0, 0, 0, 0, 0, 0, 0, 0, 0, 0, 0, 0, 0, 0, 0, 0, 0, 0, 0, 0, 0, 0, 0, 0, 0, 0, 0, 0, 0, 0, 0, 0, 0, 0, 0, 0, 0, 0, 0, 0, 0, 0, 0, 0, 0, 0, 0, 0, 0] [0, 0, 0, 0, 0, 0, 0, 0, 0, 0, 0, 0, 0, 0, 0, 0, 0, 0, 0, 0, 0, 0, 0, 0, 0, 0, 0, 0, 0, 0, 0, 0, 0, 0, 0, 0, 0, 0, 0, 0, 0, 0, 0, 0, 0, 0, 0, 0, 0, 0, 0, 0, 0, 0, 0, 0, 0, 0, 0, 0, 0, 0, 0, 0]))})) (.tmp 3), 5), (.convert 5 3 (.tmp 5), 3)]) (b := [(2, 7), (7, 7), (6, 5), (5, 3), (4, 1), (3, 0)]) (by kernel_rfl) ?_
  refine OpK.asCall rfl call56 rfl ((c56 w n hn).mono ?_)
  rintro en w1 ⟨r1, he1, hr1, hw1⟩
  subst hw1
  subst hr1
  refine ⟨_, he1, ?_⟩
  refine OpK.convInt (k' := .u8) (by kernel_rfl) (by kernel_rfl) rfl ?_
  refine OpK.indexStr (by kernel_rfl) rfl (congrArg (Value.int .u8) (u8_nat (Nat.lt_of_le_of_lt bl32_le (by decide)))) (tabU (bl32 n) bl32_le) ?_
  refine OpK.convInt (k' := .i64) (by kernel_rfl) (by kernel_rfl) rfl ?_
  refine CWL.ret ?_
  exact ⟨_, rfl, ulen_val hn, rfl⟩

theorem call18 : Callable Tryd.prog 18 := ⟨Tryd.f18, Tryd.func18, by kernel_rfl, by kernel_rfl⟩
set_option maxHeartbeats 8000000 in
theorem c18 (w : World) (n : Nat) (m : Int) (hm : m = n) (hn : n < 4294967296) (d : Value) (bs : List UInt8) (hd : Own 5 w d bs) (hl : bs.length + (uvar n).length ≤ Lim) : Calls Tryd.prog 18 #[d, .int .u32 m] w fun en w' => ∃ d', en = .returned d' ∧ Grew 5 w d w' d' (bs ++ uvar n) := by
  subst hm
  have hcase : n < 128 ∨ (128 ≤ n ∧ n < 16384) ∨ (16384 ≤ n ∧ n < 2097152) ∨ (2097152 ≤ n ∧ n < 268435456) ∨ 268435456 ≤ n := by omega
  obtain ⟨v', w', hr, hg⟩ := append_lit (ty := 22) und u8 hd (uvar n) hl
  rcases hcase with h | ⟨h, h'⟩ | ⟨h, h'⟩ | ⟨h, h'⟩ | h
  · skip
    have hk : uvLen n = 1 := by unfold uvLen; repeat' split <;> try omega
    have hc : (uvar n).map bv = [.int .u8 (IntKind.u8.wrap (n : Int))] := by
      rw [uv1 h]
      simp only [List.map_cons, List.map_nil]
      rw [← grpL0 n h]
    have hlen : (uvar n).length = 1 := by rw [uv1 h]; rfl
    rw [hc, hlen] at hr
    refine Calls.of_CW Tryd.func18 rfl (by decide +kernel) (Nat.le_of_ble_eq_true (by kernel_rfl)) (CW.of_flat ?_)
    simp only [flat, List.cons_append, List.nil_append, List.append_nil]
    refine CWL.reg (ops := [(.assign (.const (Go.Value.slice none 0 0)), 22)]) (b := [(4, 1)]) (by kernel_rfl) ?_
    refine OpK.assign ?_
    refine CWL.reg (ops := [(.call ⟨.value (.func 46), #[.tmp 2], #[53]⟩, 3)]) (b := [(6, 1), (5, 2)]) (by kernel_rfl) ?_
    refine OpK.asCall rfl call46 rfl ((c46 w n hn).mono ?_)
    rintro en w1 ⟨r1, he1, hr1, hw1⟩
    subst hw1
    rw [hk] at hr1
    subst hr1
    refine ⟨_, he1, ?_⟩
    refine CWL.block ?_
    simp only [flat, List.cons_append, List.nil_append, List.append_nil]
    refine CWL.reg (ops := [(.binOp .eql 3 (.tmp 12) (.const (Go.Value.int Go.IntKind.i64 5)) 3, 4)]) (b := [(7, 1), (8, 1)]) (by kernel_rfl) ?_
    refine OpK.cmp rfl rfl rfl ?_
    refine CWL.condF rfl ?_
    simp only [flat, List.cons_append, List.nil_append, List.append_nil]
    refine CWL.reg (ops := [(.binOp .eql 3 (.tmp 12) (.const (Go.Value.int Go.IntKind.i64 4)) 3, 4)]) (b := [(34, 1), (35, 1)]) (by kernel_rfl) ?_
    refine OpK.cmp rfl rfl rfl ?_
    refine CWL.condF rfl ?_
    simp only [flat, List.cons_append, List.nil_append, List.append_nil]
    refine CWL.reg (ops := [(.binOp .eql 3 (.tmp 12) (.const (Go.Value.int Go.IntKind.i64 3)) 3, 4)]) (b := [(56, 1), (57, 1)]) (by kernel_rfl) ?_
    refine OpK.cmp rfl rfl rfl ?_
    refine CWL.condF rfl ?_
    simp only [flat, List.cons_append, List.nil_append, List.append_nil]
    refine CWL.reg (ops := [(.binOp .eql 3 (.tmp 12) (.const (Go.Value.int Go.IntKind.i64 2)) 3, 4)]) (b := [(73, 1), (74, 1)]) (by kernel_rfl) ?_
    refine OpK.cmp rfl rfl rfl ?_
    refine CWL.condF rfl ?_
    simp only [flat, List.cons_append, List.nil_append, List.append_nil]
    refine CWL.reg (ops := [(.binOp .eql 3 (.tmp 12) (.const (Go.Value.int Go.IntKind.i64 1)) 3, 4)]) (b := [(85, 1), (86, 1)]) (by kernel_rfl) ?_
    refine OpK.cmp rfl rfl rfl ?_
    refine CWL.condT rfl ?_
    simp only [flat, List.cons_append, List.nil_append, List.append_nil]
    refine CWL.reg (ops := [(.convert 53 5 (.tmp 2), 5), (.buildSlice 22 1 #[(0, .tmp 1)], 22), (.call ⟨.builtin .append, #[.tmp 0, .tmp 3], #[22, 22]⟩, 22)]) (b := [(4, 5), (91, 5), (90, 3), (89, 1), (88, 2), (87, 0)]) (by kernel_rfl) ?_
    refine OpK.convInt (k' := .u8) (by kernel_rfl) (by kernel_rfl) rfl ?_
    refine OpK.buildS (by simp only [List.map_toArray, List.map_cons, List.map_nil]; exact run_bs1 (by kernel_rfl) u8 _) ?_
    refine OpK.run rfl hr ?_
    refine CWL.ret ?_
    exact ⟨_, rfl, hg⟩
  · skip
    have hk : uvLen n = 2 := by unfold uvLen; repeat' split <;> try omega
    have hc : (uvar n).map bv = [.int .u8 (IntKind.u8.wrap (bits .or .u32 (bits .and .u32 (n : Int) 127) 128)), .int .u8 (IntKind.u8.wrap ((n : Int) / 2 ^ min ((7 : Int).toNat) IntKind.u32.bits))] := by
      rw [uv2 h h']
      simp only [List.map_cons, List.map_nil]
      rw [← grpL n 7 (by omega), ← grp0 n hn]
      rfl
    have hlen : (uvar n).length = 2 := by rw [uv2 h h']; rfl
    rw [hc, hlen] at hr
    refine Calls.of_CW Tryd.func18 rfl (by decide +kernel) (Nat.le_of_ble_eq_true (by kernel_rfl)) (CW.of_flat ?_)
    simp only [flat, List.cons_append, List.nil_append, List.append_nil]
    refine CWL.reg (ops := [(.assign (.const (Go.Value.slice none 0 0)), 22)]) (b := [(4, 1)]) (by kernel_rfl) ?_
    refine OpK.assign ?_
    refine CWL.reg (ops := [(.call ⟨.value (.func 46), #[.tmp 2], #[53]⟩, 3)]) (b := [(6, 1), (5, 2)]) (by kernel_rfl) ?_
    refine OpK.asCall rfl call46 rfl ((c46 w n hn).mono ?_)
    rintro en w1 ⟨r1, he1, hr1, hw1⟩
    subst hw1
    rw [hk] at hr1
    subst hr1
    refine ⟨_, he1, ?_⟩
    refine CWL.block ?_
    simp only [flat, List.cons_append, List.nil_append, List.append_nil]
    refine CWL.reg (ops := [(.binOp .eql 3 (.tmp 12) (.const (Go.Value.int Go.IntKind.i64 5)) 3, 4)]) (b := [(7, 1), (8, 1)]) (by kernel_rfl) ?_
    refine OpK.cmp rfl rfl rfl ?_
    refine CWL.condF rfl ?_
    simp only [flat, List.cons_append, List.nil_append, List.append_nil]
    refine CWL.reg (ops := [(.binOp .eql 3 (.tmp 12) (.const (Go.Value.int Go.IntKind.i64 4)) 3, 4)]) (b := [(34, 1), (35, 1)]) (by kernel_rfl) ?_
    refine OpK.cmp rfl rfl rfl ?_
    refine CWL.condF rfl ?_
    simp only [flat, List.cons_append, List.nil_append, List.append_nil]
    refine CWL.reg (ops := [(.binOp .eql 3 (.tmp 12) (.const (Go.Value.int Go.IntKind.i64 3)) 3, 4)]) (b := [(56, 1), (57, 1)]) (by kernel_rfl) ?_
    refine OpK.cmp rfl rfl rfl ?_
    refine CWL.condF rfl ?_
    simp only [flat, List.cons_append, List.nil_append, List.append_nil]
    refine CWL.reg (ops := [(.binOp .eql 3 (.tmp 12) (.const (Go.Value.int Go.IntKind.i64 2)) 3, 4)]) (b := [(73, 1), (74, 1)]) (by kernel_rfl) ?_
    refine OpK.cmp rfl rfl rfl ?_
    refine CWL.condT rfl ?_
    simp only [flat, List.cons_append, List.nil_append, List.append_nil]
    refine CWL.reg (ops := [(.binOp .and 53 (.tmp 2) (.const (Go.Value.int Go.IntKind.u32 127)) 53, 53), (.binOp .or 53 (.tmp 1) (.const (Go.Value.int Go.IntKind.u32 128)) 53, 53), (.convert 53 5 (.tmp 3), 5), (.binOp .shr 53 (.tmp 2) (.const (Go.Value.int Go.IntKind.u64 7)) 80, 53), (.convert 53 5 (.tmp 7), 5), (.buildSlice 22 2 #[(0, .tmp 5), (1, .tmp 9)], 22), (.call ⟨.builtin .append, #[.tmp 0, .tmp 11], #[22, 22]⟩, 22)]) (b := [(4, 13), (84, 13), (83, 11), (82, 9), (81, 7), (80, 2), (79, 5), (78, 3), (77, 1), (76, 2), (75, 0)]) (by kernel_rfl) ?_
    refine OpK.and rfl rfl ?_
    refine OpK.or rfl rfl ?_
    refine OpK.convInt (k' := .u8) (by kernel_rfl) (by kernel_rfl) rfl ?_
    refine OpK.shr rfl rfl (by decide) ?_
    refine OpK.convInt (k' := .u8) (by kernel_rfl) (by kernel_rfl) rfl ?_
    refine OpK.buildS (by simp only [List.map_toArray, List.map_cons, List.map_nil]; exact run_bs2 (by kernel_rfl) u8 _ _) ?_
    refine OpK.run rfl hr ?_
    refine CWL.ret ?_
    exact ⟨_, rfl, hg⟩
  · skip
    have hk : uvLen n = 3 := by unfold uvLen; repeat' split <;> try omega
    have hc : (uvar n).map bv = [.int .u8 (IntKind.u8.wrap (bits .or .u32 (bits .and .u32 (n : Int) 127) 128)), .int .u8 (IntKind.u8.wrap (bits .or .u32 (bits .and .u32 ((n : Int) / 2 ^ min ((7 : Int).toNat) IntKind.u32.bits) 127) 128)), .int .u8 (IntKind.u8.wrap ((n : Int) / 2 ^ min ((14 : Int).toNat) IntKind.u32.bits))] := by
      rw [uv3 h h']
      simp only [List.map_cons, List.map_nil]
      rw [← grpL n 14 (by omega), ← grp n 7 hn, ← grp0 n hn]
      rfl
    have hlen : (uvar n).length = 3 := by rw [uv3 h h']; rfl
    rw [hc, hlen] at hr
    refine Calls.of_CW Tryd.func18 rfl (by decide +kernel) (Nat.le_of_ble_eq_true (by kernel_rfl)) (CW.of_flat ?_)
    simp only [flat, List.cons_append, List.nil_append, List.append_nil]
    refine CWL.reg (ops := [(.assign (.const (Go.Value.slice none 0 0)), 22)]) (b := [(4, 1)]) (by kernel_rfl) ?_
    refine OpK.assign ?_
    refine CWL.reg (ops := [(.call ⟨.value (.func 46), #[.tmp 2], #[53]⟩, 3)]) (b := [(6, 1), (5, 2)]) (by kernel_rfl) ?_
    refine OpK.asCall rfl call46 rfl ((c46 w n hn).mono ?_)
    rintro en w1 ⟨r1, he1, hr1, hw1⟩
    subst hw1
    rw [hk] at hr1
    subst hr1
    refine ⟨_, he1, ?_⟩
    refine CWL.block ?_
    simp only [flat, List.cons_append, List.nil_append, List.append_nil]
    refine CWL.reg (ops := [(.binOp .eql 3 (.tmp 12) (.const (Go.Value.int Go.IntKind.i64 5)) 3, 4)]) (b := [(7, 1), (8, 1)]) (by kernel_rfl) ?_
    refine OpK.cmp rfl rfl rfl ?_
    refine CWL.condF rfl ?_
    simp only [flat, List.cons_append, List.nil_append, List.append_nil]
    refine CWL.reg (ops := [(.binOp .eql 3 (.tmp 12) (.const (Go.Value.int Go.IntKind.i64 4)) 3, 4)]) (b := [(34, 1), (35, 1)]) (by kernel_rfl) ?_
    refine OpK.cmp rfl rfl rfl ?_
    refine CWL.condF rfl ?_
    simp only [flat, List.cons_append, List.nil_append, List.append_nil]
    refine CWL.reg (ops := [(.binOp .eql 3 (.tmp 12) (.const (Go.Value.int Go.IntKind.i64 3)) 3, 4)]) (b := [(56, 1), (57, 1)]) (by kernel_rfl) ?_
    refine OpK.cmp rfl rfl rfl ?_
    refine CWL.condT rfl ?_
    simp only [flat, List.cons_append, List.nil_append, List.append_nil]
    refine CWL.reg (ops := [(.binOp .and 53 (.tmp 2) (.const (Go.Value.int Go.IntKind.u32 127)) 53, 53), (.binOp .or 53 (.tmp 1) (.const (Go.Value.int Go.IntKind.u32 128)) 53, 53), (.convert 53 5 (.tmp 3), 5), (.binOp .shr 53 (.tmp 2) (.const (Go.Value.int Go.IntKind.u64 7)) 80, 53), (.binOp .and 53 (.tmp 7) (.const (Go.Value.int Go.IntKind.u32 127)) 53, 53), (.binOp .or 53 (.tmp 9) (.const (Go.Value.int Go.IntKind.u32 128)) 53, 53), (.convert 53 5 (.tmp 11), 5), (.binOp .shr 53 (.tmp 2) (.const (Go.Value.int Go.IntKind.u64 14)) 80, 53), (.convert 53 5 (.tmp 15), 5), (.buildSlice 22 3 #[(0, .tmp 5), (1, .tmp 13), (2, .tmp 17)], 22), (.call ⟨.builtin .append, #[.tmp 0, .tmp 19], #[22, 22]⟩, 22)]) (b := [(4, 21), (72, 21), (71, 19), (70, 17), (69, 15), (68, 2), (67, 13), (66, 11), (65, 9), (64, 7), (63, 2), (62, 5), (61, 3), (60, 1), (59, 2), (58, 0)]) (by kernel_rfl) ?_
    refine OpK.and rfl rfl ?_
    refine OpK.or rfl rfl ?_
    refine OpK.convInt (k' := .u8) (by kernel_rfl) (by kernel_rfl) rfl ?_
    refine OpK.shr rfl rfl (by decide) ?_
    refine OpK.and rfl rfl ?_
    refine OpK.or rfl rfl ?_
    refine OpK.convInt (k' := .u8) (by kernel_rfl) (by kernel_rfl) rfl ?_
    refine OpK.shr rfl rfl (by decide) ?_
    refine OpK.convInt (k' := .u8) (by kernel_rfl) (by kernel_rfl) rfl ?_
    refine OpK.buildS (by simp only [List.map_toArray, List.map_cons, List.map_nil]; exact run_bs3 (by kernel_rfl) u8 _ _ _) ?_
    refine OpK.run rfl hr ?_
    refine CWL.ret ?_
    exact ⟨_, rfl, hg⟩
  · skip
    have hk : uvLen n = 4 := by unfold uvLen; repeat' split <;> try omega
    have hc : (uvar n).map bv = [.int .u8 (IntKind.u8.wrap (bits .or .u32 (bits .and .u32 (n : Int) 127) 128)), .int .u8 (IntKind.u8.wrap (bits .or .u32 (bits .and .u32 ((n : Int) / 2 ^ min ((7 : Int).toNat) IntKind.u32.bits) 127) 128)), .int .u8 (IntKind.u8.wrap (bits .or .u32 (bits .and .u32 ((n : Int) / 2 ^ min ((14 : Int).toNat) IntKind.u32.bits) 127) 128)), .int .u8 (IntKind.u8.wrap ((n : Int) / 2 ^ min ((21 : Int).toNat) IntKind.u32.bits))] := by
      rw [uv4 h h']
      simp only [List.map_cons, List.map_nil]
      rw [← grpL n 21 (by omega), ← grp n 14 hn, ← grp n 7 hn, ← grp0 n hn]
      rfl
    have hlen : (uvar n).length = 4 := by rw [uv4 h h']; rfl
    rw [hc, hlen] at hr
    refine Calls.of_CW Tryd.func18 rfl (by decide +kernel) (Nat.le_of_ble_eq_true (by kernel_rfl)) (CW.of_flat ?_)
    simp only [flat, List.cons_append, List.nil_append, List.append_nil]
    refine CWL.reg (ops := [(.assign (.const (Go.Value.slice none 0 0)), 22)]) (b := [(4, 1)]) (by kernel_rfl) ?_
    refine OpK.assign ?_
    refine CWL.reg (ops := [(.call ⟨.value (.func 46), #[.tmp 2], #[53]⟩, 3)]) (b := [(6, 1), (5, 2)]) (by kernel_rfl) ?_
    refine OpK.asCall rfl call46 rfl ((c46 w n hn).mono ?_)
    rintro en w1 ⟨r1, he1, hr1, hw1⟩
    subst hw1
    rw [hk] at hr1
    subst hr1
    refine ⟨_, he1, ?_⟩
    refine CWL.block ?_
    simp only [flat, List.cons_append, List.nil_append, List.append_nil]
    refine CWL.reg (ops := [(.binOp .eql 3 (.tmp 12) (.const (Go.Value.int Go.IntKind.i64 5)) 3, 4)]) (b := [(7, 1), (8, 1)]) (by kernel_rfl) ?_
    refine OpK.cmp rfl rfl rfl ?_
    refine CWL.condF rfl ?_
    simp only [flat, List.cons_append, List.nil_append, List.append_nil]
    refine CWL.reg (ops := [(.binOp .eql 3 (.tmp 12) (.const (Go.Value.int Go.IntKind.i64 4)) 3, 4)]) (b := [(34, 1), (35, 1)]) (by kernel_rfl) ?_
    refine OpK.cmp rfl rfl rfl ?_
    refine CWL.condT rfl ?_
    simp only [flat, List.cons_append, List.nil_append, List.append_nil]
    refine CWL.reg (ops := [(.binOp .and 53 (.tmp 2) (.const (Go.Value.int Go.IntKind.u32 127)) 53, 53), (.binOp .or 53 (.tmp 1) (.const (Go.Value.int Go.IntKind.u32 128)) 53, 53), (.convert 53 5 (.tmp 3), 5), (.binOp .shr 53 (.tmp 2) (.const (Go.Value.int Go.IntKind.u64 7)) 80, 53), (.binOp .and 53 (.tmp 7) (.const (Go.Value.int Go.IntKind.u32 127)) 53, 53), (.binOp .or 53 (.tmp 9) (.const (Go.Value.int Go.IntKind.u32 128)) 53, 53), (.convert 53 5 (.tmp 11), 5), (.binOp .shr 53 (.tmp 2) (.const (Go.Value.int Go.IntKind.u64 14)) 80, 53), (.binOp .and 53 (.tmp 15) (.const (Go.Value.int Go.IntKind.u32 127)) 53, 53), (.binOp .or 53 (.tmp 17) (.const (Go.Value.int Go.IntKind.u32 128)) 53, 53), (.convert 53 5 (.tmp 19), 5), (.binOp .shr 53 (.tmp 2) (.const (Go.Value.int Go.IntKind.u64 21)) 80, 53), (.convert 53 5 (.tmp 23), 5), (.buildSlice 22 4 #[(0, .tmp 5), (1, .tmp 13), (2, .tmp 21), (3, .tmp 25)], 22), (.call ⟨.builtin .append, #[.tmp 0, .tmp 27], #[22, 22]⟩, 22)]) (b := [(4, 29), (55, 29), (54, 27), (53, 25), (52, 23), (51, 2), (50, 21), (49, 19), (48, 17), (47, 15), (46, 2), (45, 13), (44, 11), (43, 9), (42, 7), (41, 2), (40, 5), (39, 3), (38, 1), (37, 2), (36, 0)]) (by kernel_rfl) ?_
    refine OpK.and rfl rfl ?_
    refine OpK.or rfl rfl ?_
    refine OpK.convInt (k' := .u8) (by kernel_rfl) (by kernel_rfl) rfl ?_
    refine OpK.shr rfl rfl (by decide) ?_
    refine OpK.and rfl rfl ?_
    refine OpK.or rfl rfl ?_
    refine OpK.convInt (k' := .u8) (by kernel_rfl) (by kernel_rfl) rfl ?_
    refine OpK.shr rfl rfl (by decide) ?_
    refine OpK.and rfl rfl ?_
    refine OpK.or rfl rfl ?_
    refine OpK.convInt (k' := .u8) (by kernel_rfl) (by kernel_rfl) rfl ?_
    refine OpK.shr rfl rfl (by decide) ?_
    refine OpK.convInt (k' := .u8) (by kernel_rfl) (by kernel_rfl) rfl ?_
    refine OpK.buildS (by simp only [List.map_toArray, List.map_cons, List.map_nil]; exact run_bs4 (by kernel_rfl) u8 _ _ _ _) ?_
    refine OpK.run rfl hr ?_
    refine CWL.ret ?_
    exact ⟨_, rfl, hg⟩
  · skip
    have hk : uvLen n = 5 := by unfold uvLen; repeat' split <;> try omega
    have hc : (uvar n).map bv = [.int .u8 (IntKind.u8.wrap (bits .or .u32 (bits .and .u32 (n : Int) 127) 128)), .int .u8 (IntKind.u8.wrap (bits .or .u32 (bits .and .u32 ((n : Int) / 2 ^ min ((7 : Int).toNat) IntKind.u32.bits) 127) 128)), .int .u8 (IntKind.u8.wrap (bits .or .u32 (bits .and .u32 ((n : Int) / 2 ^ min ((14 : Int).toNat) IntKind.u32.bits) 127) 128)), .int .u8 (IntKind.u8.wrap (bits .or .u32 (bits .and .u32 ((n : Int) / 2 ^ min ((21 : Int).toNat) IntKind.u32.bits) 127) 128)), .int .u8 (IntKind.u8.wrap ((n : Int) / 2 ^ min ((28 : Int).toNat) IntKind.u32.bits))] := by
      rw [uv5 h hn]
      simp only [List.map_cons, List.map_nil]
      rw [← grpL n 28 (by omega), ← grp n 21 hn, ← grp n 14 hn, ← grp n 7 hn, ← grp0 n hn]
      rfl
    have hlen : (uvar n).length = 5 := by rw [uv5 h hn]; rfl
    rw [hc, hlen] at hr
    refine Calls.of_CW Tryd.func18 rfl (by decide +kernel) (Nat.le_of_ble_eq_true (by kernel_rfl)) (CW.of_flat ?_)
    simp only [flat, List.cons_append, List.nil_append, List.append_nil]
    refine CWL.reg (ops := [(.assign (.const (Go.Value.slice none 0 0)), 22)]) (b := [(4, 1)]) (by kernel_rfl) ?_
    refine OpK.assign ?_
    refine CWL.reg (ops := [(.call ⟨.value (.func 46), #[.tmp 2], #[53]⟩, 3)]) (b := [(6, 1), (5, 2)]) (by kernel_rfl) ?_
    refine OpK.asCall rfl call46 rfl ((c46 w n hn).mono ?_)
    rintro en w1 ⟨r1, he1, hr1, hw1⟩
    subst hw1
    rw [hk] at hr1
    subst hr1
    refine ⟨_, he1, ?_⟩
    refine CWL.block ?_
    simp only [flat, List.cons_append, List.nil_append, List.append_nil]
    refine CWL.reg (ops := [(.binOp .eql 3 (.tmp 12) (.const (Go.Value.int Go.IntKind.i64 5)) 3, 4)]) (b := [(7, 1), (8, 1)]) (by kernel_rfl) ?_
    refine OpK.cmp rfl rfl rfl ?_
    refine CWL.condT rfl ?_
    simp only [flat, List.cons_append, List.nil_append, List.append_nil]
    refine CWL.reg (ops := [(.binOp .and 53 (.tmp 2) (.const (Go.Value.int Go.IntKind.u32 127)) 53, 53), (.binOp .or 53 (.tmp 1) (.const (Go.Value.int Go.IntKind.u32 128)) 53, 53), (.convert 53 5 (.tmp 3), 5), (.binOp .shr 53 (.tmp 2) (.const (Go.Value.int Go.IntKind.u64 7)) 80, 53), (.binOp .and 53 (.tmp 7) (.const (Go.Value.int Go.IntKind.u32 127)) 53, 53), (.binOp .or 53 (.tmp 9) (.const (Go.Value.int Go.IntKind.u32 128)) 53, 53), (.convert 53 5 (.tmp 11), 5), (.binOp .shr 53 (.tmp 2) (.const (Go.Value.int Go.IntKind.u64 14)) 80, 53), (.binOp .and 53 (.tmp 15) (.const (Go.Value.int Go.IntKind.u32 127)) 53, 53), (.binOp .or 53 (.tmp 17) (.const (Go.Value.int Go.IntKind.u32 128)) 53, 53), (.convert 53 5 (.tmp 19), 5), (.binOp .shr 53 (.tmp 2) (.const (Go.Value.int Go.IntKind.u64 21)) 80, 53), (.binOp .and 53 (.tmp 23) (.const (Go.Value.int Go.IntKind.u32 127)) 53, 53), (.binOp .or 53 (.tmp 25) (.const (Go.Value.int Go.IntKind.u32 128)) 53, 53), (.convert 53 5 (.tmp 27), 5), (.binOp .shr 53 (.tmp 2) (.const (Go.Value.int Go.IntKind.u64 28)) 80, 53), (.convert 53 5 (.tmp 31), 5), (.buildSlice 22 5 #[(0, .tmp 5), (1, .tmp 13), (2, .tmp 21), (3, .tmp 29), (4, .tmp 33)], 22), (.call ⟨.builtin .append, #[.tmp 0, .tmp 35], #[22, 22]⟩, 22)]) (b := [(4, 37), (33, 37), (32, 35), (31, 33), (30, 31), (29, 2), (28, 29), (27, 27), (26, 25), (25, 23), (24, 2), (23, 21), (22, 19), (21, 17), (20, 15), (19, 2), (18, 13), (17, 11), (16, 9), (15, 7), (14, 2), (13, 5), (12, 3), (11, 1), (10, 2), (9, 0)]) (by kernel_rfl) ?_
    refine OpK.and rfl rfl ?_
    refine OpK.or rfl rfl ?_
    refine OpK.convInt (k' := .u8) (by kernel_rfl) (by kernel_rfl) rfl ?_
    refine OpK.shr rfl rfl (by decide) ?_
    refine OpK.and rfl rfl ?_
    refine OpK.or rfl rfl ?_
    refine OpK.convInt (k' := .u8) (by kernel_rfl) (by kernel_rfl) rfl ?_
    refine OpK.shr rfl rfl (by decide) ?_
    refine OpK.and rfl rfl ?_
    refine OpK.or rfl rfl ?_
    refine OpK.convInt (k' := .u8) (by kernel_rfl) (by kernel_rfl) rfl ?_
    refine OpK.shr rfl rfl (by decide) ?_
    refine OpK.and rfl rfl ?_
    refine OpK.or rfl rfl ?_
    refine OpK.convInt (k' := .u8) (by kernel_rfl) (by kernel_rfl) rfl ?_
    refine OpK.shr rfl rfl (by decide) ?_
    refine OpK.convInt (k' := .u8) (by kernel_rfl) (by kernel_rfl) rfl ?_
    refine OpK.buildS (by simp only [List.map_toArray, List.map_cons, List.map_nil]; exact run_bs5 (by kernel_rfl) u8 _ _ _ _ _) ?_
    refine OpK.run rfl hr ?_
    refine CWL.ret ?_
    exact ⟨_, rfl, hg⟩

theorem ok18 (full : Bool) : ApOk Tryd.prog 5 full 18 .uv := by
  intro w n d bs hn hd hl
  exact c18 w n _ rfl hn d bs hd hl

theorem call23 : Callable Tryd.prog 23 := ⟨Tryd.f23, Tryd.func23, by kernel_rfl, by kernel_rfl⟩
set_option maxHeartbeats 4000000 in
theorem c23 (w : World) (l : List UInt8) (d : Value) (bs : List UInt8) (hd : Own 5 w d bs) (hl : bs.length + (encStr false l).length ≤ Lim) : Calls Tryd.prog 23 #[d, strV l] w fun en w' => ∃ d', en = .returned d' ∧ Grew 5 w d w' d' (bs ++ encStr false l) := by
  unfold encStr at hl ⊢
  simp only [if_true, if_false, Bool.false_eq_true, List.length_append, be_length] at hl ⊢
  refine Calls.of_CW Tryd.func23 rfl (by decide +kernel) (Nat.le_of_ble_eq_true (by kernel_rfl)) (CW.of_flat ?_)
  simp only [flat, List.cons_append, List.nil_append, List.append_nil]
  refine CWL.reg (ops := [(.assign (.const (Go.Value.slice none 0 0)), 22)]) (b := [(4, 1)]) (by kernel_rfl) ?_
  refine OpK.assign ?_
  refine CWL.reg (ops := [(.call ⟨.builtin .len, #[.tmp 2], #[9]⟩, 3), (.convert 3 29 (.tmp 1), 29), (.call ⟨.value (.func 15), #[.tmp 0, .tmp 3], #[22, 29]⟩, 22)]) (b := [(0, 5), (9, 5), (8, 3), (7, 1), (6, 2), (5, 0)]) (by kernel_rfl) ?_
  refine OpK.lenStr (by kernel_rfl) rfl ?_
  refine OpK.convInt (k' := .i16) (by kernel_rfl) (by kernel_rfl) rfl ?_
  refine OpK.asCall rfl call15 rfl ((c15 w (IntKind.i16.wrap ((⟨l.toArray⟩ : ByteArray).size : Int)) d bs hd (by omega)).mono ?_)
  rintro en w1 ⟨d1, he1, hg1⟩
  refine ⟨d1, he1, ?_⟩
  rw [be2_i16, size_mk] at hg1
  obtain ⟨v2, w2, hr2, hg2⟩ := run_append_str (ty := 22) (t := 22) (u := 9) u8 und unds hg1.own (l := l) (by simp only [List.length_append, be_length]; omega)
  refine CWL.reg (ops := [(.call ⟨.builtin .append, #[.tmp 0, .tmp 2], #[22, 9]⟩, 22)]) (b := [(4, 1), (12, 1), (11, 2), (10, 0)]) (by kernel_rfl) ?_
  refine OpK.run rfl hr2 ?_
  refine CWL.ret ?_
  exact ⟨_, rfl, by rw [← List.append_assoc]; exact hg1.trans hg2⟩

set_option maxHeartbeats 4000000 in
theorem ok23 (full : Bool) : ApOk Tryd.prog 5 full 23 (.val false .str) := by
  intro w S v cs d bs hr hd hcl hl
  cases v <;> simp only [Rep, Wt.ty] at hr
  rename_i l
  subst hr
  exact c23 w l d bs hd hl

theorem call22 : Callable Tryd.prog 22 := ⟨Tryd.f22, Tryd.func22, by kernel_rfl, by kernel_rfl⟩
set_option maxHeartbeats 4000000 in
theorem c22 (w : World) (l : List UInt8) (d : Value) (bs : List UInt8) (hd : Own 5 w d bs) (hl : bs.length + (encStr true l).length ≤ Lim) : Calls Tryd.prog 22 #[d, strV l] w fun en w' => ∃ d', en = .returned d' ∧ Grew 5 w d w' d' (bs ++ encStr true l) := by
  unfold encStr at hl ⊢
  simp only [if_true, if_false, Bool.false_eq_true, List.length_append, be_length] at hl ⊢
  refine Calls.of_CW Tryd.func22 rfl (by decide +kernel) (Nat.le_of_ble_eq_true (by kernel_rfl)) (CW.of_flat ?_)
  simp only [flat, List.cons_append, List.nil_append, List.append_nil]
  refine CWL.reg (ops := [(.assign (.const (Go.Value.slice none 0 0)), 22)]) (b := [(4, 1)]) (by kernel_rfl) ?_
  refine OpK.assign ?_
  refine CWL.reg (ops := [(.call ⟨.builtin .len, #[.tmp 2], #[9]⟩, 3), (.convert 3 53 (.tmp 1), 53), (.binOp .add 53 (.const (Go.Value.int Go.IntKind.u32 1)) (.tmp 3) 53, 53), (.call ⟨.value (.func 18), #[.tmp 0, .tmp 5], #[22, 53]⟩, 22)]) (b := [(0, 7), (10, 7), (9, 5), (8, 3), (7, 1), (6, 2), (5, 0)]) (by kernel_rfl) ?_
  refine OpK.lenStr (by kernel_rfl) rfl ?_
  refine OpK.convInt (k' := .u32) (by kernel_rfl) (by kernel_rfl) rfl ?_
  refine OpK.arith rfl rfl rfl ?_
  refine OpK.asCall rfl call18 rfl ((c18 w (word (l.length + 1)) _ (by rw [size_mk]; exact word_succ _) (word_lt _) d bs hd (by omega)).mono ?_)
  rintro en w1 ⟨d1, he1, hg1⟩
  refine ⟨d1, he1, ?_⟩
  obtain ⟨v2, w2, hr2, hg2⟩ := run_append_str (ty := 22) (t := 22) (u := 9) u8 und unds hg1.own (l := l) (by simp only [List.length_append, be_length]; omega)
  refine CWL.reg (ops := [(.call ⟨.builtin .append, #[.tmp 0, .tmp 2], #[22, 9]⟩, 22)]) (b := [(4, 1), (13, 1), (12, 2), (11, 0)]) (by kernel_rfl) ?_
  refine OpK.run rfl hr2 ?_
  refine CWL.ret ?_
  exact ⟨_, rfl, by rw [← List.append_assoc]; exact hg1.trans hg2⟩

set_option maxHeartbeats 4000000 in
theorem ok22 (full : Bool) : ApOk Tryd.prog 5 full 22 (.val true .str) := by
  intro w S v cs d bs hr hd hcl hl
  cases v <;> simp only [Rep, Wt.ty] at hr
  rename_i l
  subst hr
  exact c22 w l d bs hd hl

theorem call17 : Callable Tryd.prog 17 := ⟨Tryd.f17, Tryd.func17, by kernel_rfl, by kernel_rfl⟩
set_option maxHeartbeats 4000000 in
theorem ok17 (full : Bool) : ApOk Tryd.prog 5 full 17 (.len false) := by
  intro w n d bs hd hl
  refine Calls.of_CW Tryd.func17 rfl (by decide +kernel) (Nat.le_of_ble_eq_true (by kernel_rfl)) (CW.of_flat ?_)
  simp only [flat, List.cons_append, List.nil_append, List.append_nil]
  refine CWL.reg (ops := [(.assign (.const (Go.Value.slice none 0 0)), 22)]) (b := [(4, 1)]) (by kernel_rfl) ?_
  refine OpK.assign ?_
  refine CWL.reg (ops := [(.convert 3 21 (.tmp 2), 21), (.call ⟨.value (.func 21), #[.tmp 0, .tmp 1], #[22, 21]⟩, 22)]) (b := [(4, 3), (8, 3), (7, 1), (6, 2), (5, 0)]) (by kernel_rfl) ?_
  refine OpK.convInt (k' := .i32) (by kernel_rfl) (by kernel_rfl) rfl ?_
  refine OpK.asCall rfl call21 rfl ((c21 w (IntKind.i32.wrap (n : Int)) d bs hd hl).mono ?_)
  rintro en w1 ⟨d1, he1, hg1⟩
  refine ⟨d1, he1, ?_⟩
  rw [be4_i32] at hg1
  refine CWL.ret ?_
  exact ⟨_, rfl, hg1⟩

theorem call16 : Callable Tryd.prog 16 := ⟨Tryd.f16, Tryd.func16, by kernel_rfl, by kernel_rfl⟩
set_option maxHeartbeats 4000000 in
theorem ok16 (full : Bool) : ApOk Tryd.prog 5 full 16 (.len true) := by
  intro w n d bs hd hl
  refine Calls.of_CW Tryd.func16 rfl (by decide +kernel) (Nat.le_of_ble_eq_true (by kernel_rfl)) (CW.of_flat ?_)
  simp only [flat, List.cons_append, List.nil_append, List.append_nil]
  refine CWL.reg (ops := [(.assign (.const (Go.Value.slice none 0 0)), 22)]) (b := [(4, 1)]) (by kernel_rfl) ?_
  refine OpK.assign ?_
  refine CWL.reg (ops := [(.convert 3 53 (.tmp 2), 53), (.binOp .add 53 (.const (Go.Value.int Go.IntKind.u32 1)) (.tmp 1) 53, 53), (.call ⟨.value (.func 18), #[.tmp 0, .tmp 3], #[22, 53]⟩, 22)]) (b := [(4, 5), (9, 5), (8, 3), (7, 1), (6, 2), (5, 0)]) (by kernel_rfl) ?_
  refine OpK.convInt (k' := .u32) (by kernel_rfl) (by kernel_rfl) rfl ?_
  refine OpK.arith rfl rfl rfl ?_
  refine OpK.asCall rfl call18 rfl ((c18 w (word (n + 1)) _ (word_succ _) (word_lt _) d bs hd hl).mono ?_)
  rintro en w1 ⟨d1, he1, hg1⟩
  refine ⟨d1, he1, ?_⟩
  refine CWL.ret ?_
  exact ⟨_, rfl, hg1⟩

theorem call19 : Callable Tryd.prog 19 := ⟨Tryd.f19, Tryd.func19, by kernel_rfl, by kernel_rfl⟩
theorem undm : Tryd.prog.underlying 41 = some (.map 53 22) := by kernel_rfl
set_option maxHeartbeats 4000000 in
theorem ok19 (full : Bool) : ApOk Tryd.prog 5 full 19 .tlen := by
  intro w S g o v hf0 hi
  obtain ⟨cs, hr, ha⟩ := hi
  cases v <;> simp only [Rep] at hr
  rename_i l
  have key : Calls Tryd.prog 19 #[.pointer (some ⟨g, o, none⟩)] w fun en w' => ∃ r, en = .returned r ∧ r = .int .i64 ((V.tags l).tagsOf.length : Int) ∧ w' = w := by
    rcases hr with ⟨rfl, rfl⟩ | ⟨r, es, clk, rfl, hS, hm, hnd, h2⟩
    · skip
      refine Calls.of_CW Tryd.func19 rfl (by decide +kernel) (Nat.le_of_ble_eq_true (by kernel_rfl)) (CW.of_flat ?_)
      simp only [flat, List.cons_append, List.nil_append, List.append_nil]
      refine CWL.reg (ops := [(.assign (.const (Go.Value.int Go.IntKind.i64 0)), 3)]) (b := [(2, 1)]) (by kernel_rfl) ?_
      refine OpK.assign ?_
      refine CWL.reg (ops := [(.nilCheck (.tmp 0), 0), (.fieldAddr 43 (.tmp 1) 0, 0), (.load 41 (.tmp 3), 41), (.call ⟨.builtin .len, #[.tmp 5], #[41]⟩, 3)]) (b := [(2, 7), (7, 7), (6, 5), (5, 3), (4, 1), (3, 0)]) (by kernel_rfl) ?_
      refine OpK.nilCheck rfl ?_
      refine OpK.fieldAddr (off := 0) (by kernel_rfl) rfl ?_
      refine OpK.load (by kernel_rfl) rfl (ha 0 _ rfl) ?_
      refine OpK.lenMap0 undm rfl ?_
      refine CWL.ret ?_
      exact ⟨_, rfl, rfl, rfl⟩
    · skip
      refine Calls.of_CW Tryd.func19 rfl (by decide +kernel) (Nat.le_of_ble_eq_true (by kernel_rfl)) (CW.of_flat ?_)
      simp only [flat, List.cons_append, List.nil_append, List.append_nil]
      refine CWL.reg (ops := [(.assign (.const (Go.Value.int Go.IntKind.i64 0)), 3)]) (b := [(2, 1)]) (by kernel_rfl) ?_
      refine OpK.assign ?_
      refine CWL.reg (ops := [(.nilCheck (.tmp 0), 0), (.fieldAddr 43 (.tmp 1) 0, 0), (.load 41 (.tmp 3), 41), (.call ⟨.builtin .len, #[.tmp 5], #[41]⟩, 3)]) (b := [(2, 7), (7, 7), (6, 5), (5, 3), (4, 1), (3, 0)]) (by kernel_rfl) ?_
      refine OpK.nilCheck rfl ?_
      refine OpK.fieldAddr (off := 0) (by kernel_rfl) rfl ?_
      refine OpK.load (by kernel_rfl) rfl (ha 0 _ rfl) ?_
      refine OpK.lenMap undm rfl hm ?_
      refine CWL.ret ?_
      exact ⟨_, rfl, congrArg (fun n : Nat => Value.int .i64 (n : Int)) (show es.size = l.length by rw [← h2.len]; simp), rfl⟩
  exact key.mono fun en w' ⟨r, h1, h2, h3⟩ => ⟨by rw [h1, h2], h3⟩

theorem call47 : Callable Tryd.prog 47 := ⟨Tryd.f47, Tryd.func47, by kernel_rfl, by kernel_rfl⟩
set_option maxHeartbeats 4000000 in
theorem each0 (w : World) (g o : Nat) (m fv : Value) (hc : w.cell? ⟨g, o + 0, none⟩ = some m) (hm : m = .map none ∨ ∃ r clk, m = .map (some r) ∧ w.heap[r]? = some (.map #[] clk)) : Calls Tryd.prog 47 #[.pointer (some ⟨g, o, none⟩), fv] w fun en w' => ∃ r, en = .returned r ∧ w' = w := by
  rcases hm with rfl | ⟨r, clk, rfl, hm⟩
  · skip
    refine Calls.of_CW Tryd.func47 rfl (by decide +kernel) (Nat.le_of_ble_eq_true (by kernel_rfl)) (CW.of_flat ?_)
    simp only [flat, List.cons_append, List.nil_append, List.append_nil]
    refine CWL.reg (ops := [(.nilCheck (.tmp 0), 0), (.fieldAddr 43 (.tmp 1) 0, 0), (.load 41 (.tmp 3), 41), (.call ⟨.builtin .len, #[.tmp 5], #[41]⟩, 3), (.binOp .eql 3 (.tmp 7) (.const (Go.Value.int Go.IntKind.i64 0)) 3, 4)]) (b := [(13, 9), (12, 7), (11, 5), (10, 3), (9, 1), (8, 0)]) (by kernel_rfl) ?_
    refine OpK.nilCheck rfl ?_
    refine OpK.fieldAddr (off := 0) (by kernel_rfl) rfl ?_
    refine OpK.load (by kernel_rfl) rfl hc ?_
    refine OpK.lenMap0 undm rfl ?_
    refine OpK.cmp rfl rfl rfl ?_
    refine CWL.condT rfl ?_
    simp only [flat, List.cons_append, List.nil_append, List.append_nil]
    refine CWL.ret ?_
    exact ⟨_, rfl, rfl⟩
  · skip
    refine Calls.of_CW Tryd.func47 rfl (by decide +kernel) (Nat.le_of_ble_eq_true (by kernel_rfl)) (CW.of_flat ?_)
    simp only [flat, List.cons_append, List.nil_append, List.append_nil]
    refine CWL.reg (ops := [(.nilCheck (.tmp 0), 0), (.fieldAddr 43 (.tmp 1) 0, 0), (.load 41 (.tmp 3), 41), (.call ⟨.builtin .len, #[.tmp 5], #[41]⟩, 3), (.binOp .eql 3 (.tmp 7) (.const (Go.Value.int Go.IntKind.i64 0)) 3, 4)]) (b := [(13, 9), (12, 7), (11, 5), (10, 3), (9, 1), (8, 0)]) (by kernel_rfl) ?_
    refine OpK.nilCheck rfl ?_
    refine OpK.fieldAddr (off := 0) (by kernel_rfl) rfl ?_
    refine OpK.load (by kernel_rfl) rfl hc ?_
    refine OpK.lenMap undm rfl hm ?_
    refine OpK.cmp rfl rfl rfl ?_
    refine CWL.condT rfl ?_
    simp only [flat, List.cons_append, List.nil_append, List.append_nil]
    refine CWL.ret ?_
    exact ⟨_, rfl, rfl⟩
theorem call20 : Callable Tryd.prog 20 := ⟨Tryd.f20, Tryd.func20, by kernel_rfl, by kernel_rfl⟩

set_option maxHeartbeats 4000000 in
theorem ok200 : ApOk Tryd.prog 5 false 20 .teach := by
  intro w S g o v d bs hf hi hS hd hcl hl
  obtain ⟨cs, hr, ha⟩ := hi
  cases v <;> simp only [Rep] at hr
  rename_i l
  have hl0 : l = [] := by rcases hf with h | h; cases h; exact h
  subst hl0
  have hm : ∃ m, cs = [m] ∧ (m = .map none ∨ ∃ r clk, m = .map (some r) ∧ w.heap[r]? = some (.map #[] clk) ∧ r < w.heap.size) := by
    rcases hr with ⟨rfl, _⟩ | ⟨r, es, clk, rfl, hSr, hm, _, h2⟩
    · exact ⟨_, rfl, .inl rfl⟩
    · refine ⟨_, rfl, .inr ⟨r, clk, rfl, ?_, (hcl r hSr).1⟩⟩
      have : es = #[] := by apply Array.ext'; have := h2.len; simpa using this
      rw [hm, this]
  obtain ⟨m, rfl, hm⟩ := hm
  have hc0 := ha 0 m rfl
  obtain ⟨ad, cp, rfl⟩ : ∃ ad cp, d = .slice ad bs.length cp := by obtain ⟨a, c, h, _⟩ := hd.len; exact ⟨a, c, h⟩
  refine Calls.of_CW Tryd.func20 rfl (by decide +kernel) (Nat.le_of_ble_eq_true (by kernel_rfl)) (CW.of_flat ?_)
  simp only [flat, List.cons_append, List.nil_append, List.append_nil]
  refine CWL.reg (ops := [(.box 22 (.tmp 2), 0), (.assign (.const (Go.Value.slice none 0 0)), 22)]) (b := [(4, 3), (3, 1)]) (by kernel_rfl) ?_
  refine OpK.box ?_
  refine OpK.assign ?_
  refine CWL.reg (ops := [(.makeFunc (.func 48) #[] #[.tmp 6], 73), (.call ⟨.value (.func 47), #[.tmp 0, .tmp 1], #[81, 73]⟩, 0)]) (b := [(7, 3), (6, 1), (5, 0)]) (by kernel_rfl) ?_
  refine OpK.makeFunc ?_
  refine OpK.asCall rfl call47 rfl ((each0 _ g o m _ ((cell_old w _ (hcl g hS).1).trans hc0) (by rcases hm with rfl | ⟨r, clk, rfl, h1, h2⟩; exact .inl rfl; exact .inr ⟨r, clk, rfl, (alloc_old w _ r h2).trans h1⟩)).mono ?_)
  rintro en w1 ⟨r1, he1, rfl⟩
  refine ⟨_, he1, ?_⟩
  refine CWL.reg (ops := [(.load 22 (.tmp 6), 22)]) (b := [(4, 1), (8, 1)]) (by kernel_rfl) ?_
  refine OpK.load (by kernel_rfl) rfl (cell_new w _ _) ?_
  refine CWL.ret ?_
  exact ⟨_, rfl, by rw [show encEach (V.tags []).tagsOf = [] from rfl, List.append_nil]; exact (Grew.refl hd).alloc _⟩

def tab : List (Nat × Ap) := [(25, .val false .bool), (15, .val false .i16), (45, .val false .u16), (21, .val false .i32), (24, .val false .i64), (23, .val false .str), (22, .val true .str), (17, .len false), (16, .len true), (18, .uv), (19, .tlen), (20, .teach)]
theorem sound0 : Sound Tryd.prog 5 false tab := Sound.of_all u8 (all_cons ⟨call25, ok25 false⟩ (all_cons ⟨call15, ok15 false⟩ (all_cons ⟨call45, ok45 false⟩ (all_cons ⟨call21, ok21 false⟩ (all_cons ⟨call24, ok24 false⟩ (all_cons ⟨call23, ok23 false⟩ (all_cons ⟨call22, ok22 false⟩ (all_cons ⟨call17, ok17 false⟩ (all_cons ⟨call16, ok16 false⟩ (all_cons ⟨call18, ok18 false⟩ (all_cons ⟨call19, ok19 false⟩ (all_cons ⟨call20, ok200⟩ all_nil))))))))))))
end Go.Proofs.YtkgelojkhmjhkaaDoor.Snd
