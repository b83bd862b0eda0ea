/- What the functions of the package that write a value, or a count, do: each writes the octets that the plain functions say, behind the slice that it is given. -/
import Derived.Test.YthcpchmmpnakaaaGreatDoorKxDraw
import Derived.Test.YthcpchmmpnakaaaGreatDoorKxAgain2
import Derived.Test.YthcpchmmpnakaaaGreatDoorProg
namespace Go.Proofs.YthcpchmmpnakaaaGreatDoor.Snd
open Go.Kx Go.RowKit Go.Proofs
set_option maxRecDepth 100000
set_option linter.unusedSimpArgs false
set_option linter.unusedVariables false

theorem u8 : U8 Tryz.prog 5 := by unfold U8; kernel_rfl
theorem und : Tryz.prog.underlying 22 = some (.slice 5) := by kernel_rfl
theorem unds : Tryz.prog.underlying 9 = some .string := by kernel_rfl

theorem call37 : Callable Tryz.prog 37 := ⟨Tryz.f37, Tryz.func37, by kernel_rfl, by kernel_rfl⟩
set_option maxHeartbeats 4000000 in
theorem c37 (w : World) (n : Int) (d : Value) (bs : List UInt8) (hd : Own 5 w d bs) (hl : bs.length + 1 ≤ Lim) : Calls Tryz.prog 37 #[d, .int .i8 n] w fun en w' => ∃ d', en = .returned d' ∧ Grew 5 w d w' d' (bs ++ be 1 n) := by
  obtain ⟨v', w', hr, hg⟩ := append_lit (ty := 22) und u8 hd (be 1 n) (by rw [be_length]; exact hl)
  have hc : ((be 1 n).map bv) = [.int .u8 (IntKind.u8.wrap n)] := by
    simp only [be, List.map_cons, List.map_nil]
    rw [← oct_low n]
  rw [hc, be_length] at hr
  refine Calls.of_CW Tryz.func37 rfl (by decide +kernel) (Nat.le_of_ble_eq_true (by kernel_rfl)) (CW.of_flat ?_)
  simp only [flat, List.cons_append, List.nil_append, List.append_nil]
  refine CWL.reg (ops := [(.assign (.const (Go.Value.slice none 0 0)), 22)]) (b := [(4, 1)]) (by kernel_rfl) ?_
  refine OpK.assign ?_
  refine CWL.reg (ops := [(.convert 76 5 (.tmp 2), 5), (.buildSlice 22 1 #[(0, .tmp 1)], 22), (.call ⟨.builtin .append, #[.tmp 0, .tmp 3], #[22, 22]⟩, 22)]) (b := [(4, 5), (9, 5), (8, 3), (7, 1), (6, 2), (5, 0)]) (by kernel_rfl) ?_
  refine OpK.convInt (k' := .u8) (by kernel_rfl) (by kernel_rfl) rfl ?_
  refine OpK.buildS (by simp only [List.map_toArray, List.map_cons, List.map_nil]; exact run_bs1 (by kernel_rfl) u8 _) ?_
  refine OpK.run rfl hr ?_
  refine CWL.cons (CW.ret ?_)
  exact ⟨_, rfl, hg⟩

theorem call72 : Callable Tryz.prog 72 := ⟨Tryz.f72, Tryz.func72, by kernel_rfl, by kernel_rfl⟩
set_option maxHeartbeats 4000000 in
theorem c72 (w : World) (n : Int) (d : Value) (bs : List UInt8) (hd : Own 5 w d bs) (hl : bs.length + 2 ≤ Lim) : Calls Tryz.prog 72 #[d, .int .u16 n] w fun en w' => ∃ d', en = .returned d' ∧ Grew 5 w d w' d' (bs ++ be 2 n) := by
  obtain ⟨v', w', hr, hg⟩ := append_lit (ty := 22) und u8 hd (be 2 n) (by rw [be_length]; exact hl)
  have hc : ((be 2 n).map bv) = [.int .u8 (IntKind.u8.wrap (n / 2 ^ min ((8 : Int).toNat) IntKind.u16.bits)), .int .u8 (IntKind.u8.wrap n)] := by
    simp only [be, List.map_cons, List.map_nil]
    rw [← oct_shr n 1 8 rfl, ← oct_low n]
    rfl
  rw [hc, be_length] at hr
  refine Calls.of_CW Tryz.func72 rfl (by decide +kernel) (Nat.le_of_ble_eq_true (by kernel_rfl)) (CW.of_flat ?_)
  simp only [flat, List.cons_append, List.nil_append, List.append_nil]
  refine CWL.reg (ops := [(.assign (.const (Go.Value.slice none 0 0)), 22)]) (b := [(4, 1)]) (by kernel_rfl) ?_
  refine OpK.assign ?_
  refine CWL.reg (ops := [(.binOp .shr 114 (.tmp 2) (.const (Go.Value.int Go.IntKind.u64 8)) 102, 114), (.convert 114 5 (.tmp 1), 5), (.convert 114 5 (.tmp 2), 5), (.buildSlice 22 2 #[(0, .tmp 3), (1, .tmp 5)], 22), (.call ⟨.builtin .append, #[.tmp 0, .tmp 7], #[22, 22]⟩, 22)]) (b := [(4, 9), (12, 9), (11, 7), (10, 5), (9, 2), (8, 3), (7, 1), (6, 2), (5, 0)]) (by kernel_rfl) ?_
  refine OpK.shr rfl rfl (by decide) ?_
  refine OpK.convInt (k' := .u8) (by kernel_rfl) (by kernel_rfl) rfl ?_
  refine OpK.convInt (k' := .u8) (by kernel_rfl) (by kernel_rfl) rfl ?_
  refine OpK.buildS (by simp only [List.map_toArray, List.map_cons, List.map_nil]; exact run_bs2 (by kernel_rfl) u8 _ _) ?_
  refine OpK.run rfl hr ?_
  refine CWL.cons (CW.ret ?_)
  exact ⟨_, rfl, hg⟩

theorem call71 : Callable Tryz.prog 71 := ⟨Tryz.f71, Tryz.func71, by kernel_rfl, by kernel_rfl⟩
set_option maxHeartbeats 4000000 in
theorem c71 (w : World) (n : Int) (d : Value) (bs : List UInt8) (hd : Own 5 w d bs) (hl : bs.length + 4 ≤ Lim) : Calls Tryz.prog 71 #[d, .int .u32 n] w fun en w' => ∃ d', en = .returned d' ∧ Grew 5 w d w' d' (bs ++ be 4 n) := by
  obtain ⟨v', w', hr, hg⟩ := append_lit (ty := 22) und u8 hd (be 4 n) (by rw [be_length]; exact hl)
  have hc : ((be 4 n).map bv) = [.int .u8 (IntKind.u8.wrap (n / 2 ^ min ((24 : Int).toNat) IntKind.u32.bits)), .int .u8 (IntKind.u8.wrap (n / 2 ^ min ((16 : Int).toNat) IntKind.u32.bits)), .int .u8 (IntKind.u8.wrap (n / 2 ^ min ((8 : Int).toNat) IntKind.u32.bits)), .int .u8 (IntKind.u8.wrap n)] := by
    simp only [be, List.map_cons, List.map_nil]
    rw [← oct_shr n 3 24 rfl, ← oct_shr n 2 16 rfl, ← oct_shr n 1 8 rfl, ← oct_low n]
    rfl
  rw [hc, be_length] at hr
  refine Calls.of_CW Tryz.func71 rfl (by decide +kernel) (Nat.le_of_ble_eq_true (by kernel_rfl)) (CW.of_flat ?_)
  simp only [flat, List.cons_append, List.nil_append, List.append_nil]
  refine CWL.reg (ops := [(.assign (.const (Go.Value.slice none 0 0)), 22)]) (b := [(4, 1)]) (by kernel_rfl) ?_
  refine OpK.assign ?_
  refine CWL.reg (ops := [(.binOp .shr 53 (.tmp 2) (.const (Go.Value.int Go.IntKind.u64 24)) 102, 53), (.convert 53 5 (.tmp 1), 5), (.binOp .shr 53 (.tmp 2) (.const (Go.Value.int Go.IntKind.u64 16)) 102, 53), (.convert 53 5 (.tmp 5), 5), (.binOp .shr 53 (.tmp 2) (.const (Go.Value.int Go.IntKind.u64 8)) 102, 53), (.convert 53 5 (.tmp 9), 5), (.convert 53 5 (.tmp 2), 5), (.buildSlice 22 4 #[(0, .tmp 3), (1, .tmp 7), (2, .tmp 11), (3, .tmp 13)], 22), (.call ⟨.builtin .append, #[.tmp 0, .tmp 15], #[22, 22]⟩, 22)]) (b := [(4, 17), (18, 17), (17, 15), (16, 13), (15, 2), (14, 11), (13, 9), (12, 2), (11, 7), (10, 5), (9, 2), (8, 3), (7, 1), (6, 2), (5, 0)]) (by kernel_rfl) ?_
  refine OpK.shr rfl rfl (by decide) ?_
  refine OpK.convInt (k' := .u8) (by kernel_rfl) (by kernel_rfl) rfl ?_
  refine OpK.shr rfl rfl (by decide) ?_
  refine OpK.convInt (k' := .u8) (by kernel_rfl) (by kernel_rfl) rfl ?_
  refine OpK.shr rfl rfl (by decide) ?_
  refine OpK.convInt (k' := .u8) (by kernel_rfl) (by kernel_rfl) rfl ?_
  refine OpK.convInt (k' := .u8) (by kernel_rfl) (by kernel_rfl) rfl ?_
  refine OpK.buildS (by simp only [List.map_toArray, List.map_cons, List.map_nil]; exact run_bs4 (by kernel_rfl) u8 _ _ _ _) ?_
  refine OpK.run rfl hr ?_
  refine CWL.cons (CW.ret ?_)
  exact ⟨_, rfl, hg⟩

theorem call40 : Callable Tryz.prog 40 := ⟨Tryz.f40, Tryz.func40, by kernel_rfl, by kernel_rfl⟩
set_option maxHeartbeats 4000000 in
theorem ok40 (full : Bool) : ApOk Tryz.prog 5 full 40 (.val false .bool) := by
  intro w S v cs d bs hr hd hcl hl
  cases v <;> simp only [Rep, Wt.ty] at hr
  rename_i b
  subst hr
  obtain ⟨v', w', hr, hg⟩ := append_lit (ty := 22) und u8 hd [if b then 1 else 0] hl
  cases b
  · skip
    refine Calls.of_CW Tryz.func40 rfl (by decide +kernel) (Nat.le_of_ble_eq_true (by kernel_rfl)) (CW.of_flat ?_)
    simp only [flat, List.cons_append, List.nil_append, List.append_nil]
    refine CWL.reg (ops := [(.assign (.const (Go.Value.slice none 0 0)), 22)]) (b := [(4, 1)]) (by kernel_rfl) ?_
    refine OpK.assign ?_
    refine CWL.reg (ops := []) (b := [(5, 2)]) (by kernel_rfl) ?_
    refine CWL.condF rfl ?_
    simp only [flat, List.cons_append, List.nil_append, List.append_nil]
    refine CWL.reg (ops := [(.buildSlice 22 1 #[(0, .const (Go.Value.int Go.IntKind.u8 0))], 22), (.call ⟨.builtin .append, #[.tmp 0, .tmp 1], #[22, 22]⟩, 22)]) (b := [(4, 3), (11, 3), (10, 1), (9, 0)]) (by kernel_rfl) ?_
    refine OpK.buildS (by simp only [List.map_toArray, List.map_cons, List.map_nil]; exact run_bs1 (by kernel_rfl) u8 _) ?_
    refine OpK.run rfl hr ?_
    refine CWL.ret ?_
    exact ⟨_, rfl, hg⟩
  · skip
    refine Calls.of_CW Tryz.func40 rfl (by decide +kernel) (Nat.le_of_ble_eq_true (by kernel_rfl)) (CW.of_flat ?_)
    simp only [flat, List.cons_append, List.nil_append, List.append_nil]
    refine CWL.reg (ops := [(.assign (.const (Go.Value.slice none 0 0)), 22)]) (b := [(4, 1)]) (by kernel_rfl) ?_
    refine OpK.assign ?_
    refine CWL.reg (ops := []) (b := [(5, 2)]) (by kernel_rfl) ?_
    refine CWL.condT rfl ?_
    simp only [flat, List.cons_append, List.nil_append, List.append_nil]
    refine CWL.reg (ops := [(.buildSlice 22 1 #[(0, .const (Go.Value.int Go.IntKind.u8 1))], 22), (.call ⟨.builtin .append, #[.tmp 0, .tmp 1], #[22, 22]⟩, 22)]) (b := [(4, 3), (8, 3), (7, 1), (6, 0)]) (by kernel_rfl) ?_
    refine OpK.buildS (by simp only [List.map_toArray, List.map_cons, List.map_nil]; exact run_bs1 (by kernel_rfl) u8 _) ?_
    refine OpK.run rfl hr ?_
    refine CWL.ret ?_
    exact ⟨_, rfl, hg⟩

theorem call34 : Callable Tryz.prog 34 := ⟨Tryz.f34, Tryz.func34, by kernel_rfl, by kernel_rfl⟩
set_option maxHeartbeats 4000000 in
theorem c34 (w : World) (n : Int) (d : Value) (bs : List UInt8) (hd : Own 5 w d bs) (hl : bs.length + 2 ≤ Lim) : Calls Tryz.prog 34 #[d, .int .i16 n] w fun en w' => ∃ d', en = .returned d' ∧ Grew 5 w d w' d' (bs ++ be 2 n) := by
  refine Calls.of_CW Tryz.func34 rfl (by decide +kernel) (Nat.le_of_ble_eq_true (by kernel_rfl)) (CW.of_flat ?_)
  simp only [flat, List.cons_append, List.nil_append, List.append_nil]
  refine CWL.reg (ops := [(.assign (.const (Go.Value.slice none 0 0)), 22)]) (b := [(4, 1)]) (by kernel_rfl) ?_
  refine OpK.assign ?_
  refine CWL.reg (ops := [(.convert 40 114 (.tmp 2), 114), (.call ⟨.value (.func 72), #[.tmp 0, .tmp 1], #[22, 114]⟩, 22)]) (b := [(4, 3), (8, 3), (7, 1), (6, 2), (5, 0)]) (by kernel_rfl) ?_
  refine OpK.convInt (k' := .u16) (by kernel_rfl) (by kernel_rfl) rfl ?_
  refine OpK.asCall rfl call72 rfl ((c72 w (IntKind.u16.wrap n) d bs hd hl).mono ?_)
  rintro en w1 ⟨d1, he1, hg1⟩
  refine ⟨d1, he1, ?_⟩
  refine CWL.ret ?_
  rw [be2_u16] at hg1
  exact ⟨_, rfl, hg1⟩

theorem call31 : Callable Tryz.prog 31 := ⟨Tryz.f31, Tryz.func31, by kernel_rfl, by kernel_rfl⟩
set_option maxHeartbeats 4000000 in
theorem c31 (w : World) (n : Int) (d : Value) (bs : List UInt8) (hd : Own 5 w d bs) (hl : bs.length + 4 ≤ Lim) : Calls Tryz.prog 31 #[d, .int .i32 n] w fun en w' => ∃ d', en = .returned d' ∧ Grew 5 w d w' d' (bs ++ be 4 n) := by
  refine Calls.of_CW Tryz.func31 rfl (by decide +kernel) (Nat.le_of_ble_eq_true (by kernel_rfl)) (CW.of_flat ?_)
  simp only [flat, List.cons_append, List.nil_append, List.append_nil]
  refine CWL.reg (ops := [(.assign (.const (Go.Value.slice none 0 0)), 22)]) (b := [(4, 1)]) (by kernel_rfl) ?_
  refine OpK.assign ?_
  refine CWL.reg (ops := [(.convert 21 53 (.tmp 2), 53), (.call ⟨.value (.func 71), #[.tmp 0, .tmp 1], #[22, 53]⟩, 22)]) (b := [(4, 3), (8, 3), (7, 1), (6, 2), (5, 0)]) (by kernel_rfl) ?_
  refine OpK.convInt (k' := .u32) (by kernel_rfl) (by kernel_rfl) rfl ?_
  refine OpK.asCall rfl call71 rfl ((c71 w (IntKind.u32.wrap n) d bs hd hl).mono ?_)
  rintro en w1 ⟨d1, he1, hg1⟩
  refine ⟨d1, he1, ?_⟩
  refine CWL.ret ?_
  rw [be4_u32] at hg1
  exact ⟨_, rfl, hg1⟩

set_option maxHeartbeats 4000000 in
theorem ok37 (full : Bool) : ApOk Tryz.prog 5 full 37 (.val false .i8) := by
  intro w S v cs d bs hr hd hcl hl
  cases v <;> simp only [Rep, Wt.ty] at hr
  rename_i n
  obtain ⟨rfl, hn⟩ := hr
  exact c37 w n d bs hd hl

set_option maxHeartbeats 4000000 in
theorem ok34 (full : Bool) : ApOk Tryz.prog 5 full 34 (.val false .i16) := by
  intro w S v cs d bs hr hd hcl hl
  cases v <;> simp only [Rep, Wt.ty] at hr
  rename_i n
  obtain ⟨rfl, hn⟩ := hr
  exact c34 w n d bs hd hl

set_option maxHeartbeats 4000000 in
theorem ok72 (full : Bool) : ApOk Tryz.prog 5 full 72 (.val false .u16) := by
  intro w S v cs d bs hr hd hcl hl
  cases v <;> simp only [Rep, Wt.ty] at hr
  rename_i n
  obtain ⟨rfl, hn⟩ := hr
  exact c72 w n d bs hd hl

set_option maxHeartbeats 4000000 in
theorem ok31 (full : Bool) : ApOk Tryz.prog 5 full 31 (.val false .i32) := by
  intro w S v cs d bs hr hd hcl hl
  cases v <;> simp only [Rep, Wt.ty] at hr
  rename_i n
  obtain ⟨rfl, hn⟩ := hr
  exact c31 w n d bs hd hl

theorem tab8 (j : Nat) (h : j < 256) : (match (.const (Go.Value.string {data := List.toArray (List.append (List.append [0, 1, 2, 2, 3, 3, 3, 3, 4, 4, 4, 4, 4, 4, 4, 4, 5, 5, 5, 5, 5, 5, 5, 5, 5, 5, 5, 5, 5, 5, 5, 5, 6, 6, 6, 6, 6, 6, 6, 6, 6, 6, 6, 6, 6, 6, 6, 6, 6, 6, 6, 6, 6, 6, 6, 6, 6, 6, 6, 6, 6, 6, 6, 6] [7, 7, 7, 7, 7, 7, 7, 7, 7, 7, 7, 7, 7, 7, 7, 7, 7, 7, 7, 7, 7, 7, 7, 7, 7, 7, 7, 7, 7, 7, 7, 7, 7, 7, 7, 7, 7, 7, 7, 7, 7, 7, 7, 7, 7, 7, 7, 7, 7, 7, 7, 7, 7, 7, 7, 7, 7, 7, 7, 7, 7, 7, 7, 7]) (List.append [8, 8, 8, 8, 8, 8, 8, 8, 8, 8, 8, 8, 8, 8, 8, 8, 8, 8, 8, 8, 8, 8, 8, 8, 8, 8, 8, 8, 8, 8, 8, 8, 8, 8, 8, 8, 8, 8, 8, 8, 8, 8, 8, 8, 8, 8, 8, 8, 8, 8, 8, 8, 8, 8, 8, 8, 8, 8, 8, 8, 8, 8, 8, 8] [8, 8, 8, 8, 8, 8, 8, 8, 8, 8, 8, 8, 8, 8, 8, 8, 8, 8, 8, 8, 8, 8, 8, 8, 8, 8, 8, 8, 8, 8, 8, 8, 8, 8, 8, 8, 8, 8, 8, 8, 8, 8, 8, 8, 8, 8, 8, 8, 8, 8, 8, 8, 8, 8, 8, 8, 8, 8, 8, 8, 8, 8, 8, 8]))}) : Operand) with | .const (.string s) => s[j]? | _ => none) = some (UInt8.ofNat (bl8 j)) := by
  have k : ∀ j : Fin 256, (match (.const (Go.Value.string {data := List.toArray (List.append (List.append [0, 1, 2, 2, 3, 3, 3, 3, 4, 4, 4, 4, 4, 4, 4, 4, 5, 5, 5, 5, 5, 5, 5, 5, 5, 5, 5, 5, 5, 5, 5, 5, 6, 6, 6, 6, 6, 6, 6, 6, 6, 6, 6, 6, 6, 6, 6, 6, 6, 6, 6, 6, 6, 6, 6, 6, 6, 6, 6, 6, 6, 6, 6, 6] [7, 7, 7, 7, 7, 7, 7, 7, 7, 7, 7, 7, 7, 7, 7, 7, 7, 7, 7, 7, 7, 7, 7, 7, 7, 7, 7, 7, 7, 7, 7, 7, 7, 7, 7, 7, 7, 7, 7, 7, 7, 7, 7, 7, 7, 7, 7, 7, 7, 7, 7, 7, 7, 7, 7, 7, 7, 7, 7, 7, 7, 7, 7, 7]) (List.append [8, 8, 8, 8, 8, 8, 8, 8, 8, 8, 8, 8, 8, 8, 8, 8, 8, 8, 8, 8, 8, 8, 8, 8, 8, 8, 8, 8, 8, 8, 8, 8, 8, 8, 8, 8, 8, 8, 8, 8, 8, 8, 8, 8, 8, 8, 8, 8, 8, 8, 8, 8, 8, 8, 8, 8, 8, 8, 8, 8, 8, 8, 8, 8] [8, 8, 8, 8, 8, 8, 8, 8, 8, 8, 8, 8, 8, 8, 8, 8, 8, 8, 8, 8, 8, 8, 8, 8, 8, 8, 8, 8, 8, 8, 8, 8, 8, 8, 8, 8, 8, 8, 8, 8, 8, 8, 8, 8, 8, 8, 8, 8, 8, 8, 8, 8, 8, 8, 8, 8, 8, 8, 8, 8, 8, 8, 8, 8]))}) : Operand) with | .const (.string s) => s[j.1]? | _ => none) = some (UInt8.ofNat (bl8 j.1)) := by decide +kernel
  exact k ⟨j, h⟩

theorem call82 : Callable Tryz.prog 82 := ⟨Tryz.f82, Tryz.func82, by kernel_rfl, by kernel_rfl⟩
set_option maxHeartbeats 4000000 in
theorem c82 (w : World) (n : Nat) (hn : n < 4294967296) : Calls Tryz.prog 82 #[.int .u32 n] w fun en w' => ∃ r, en = .returned r ∧ r = .int .i64 (bl32 n : Int) ∧ w' = w := by
  by_cases h1 : 65536 ≤ n
  · by_cases h2 : 256 ≤ n / 65536
    · skip
      have hb : bl32 n = 24 + bl8 (n / 65536 / 256) := by unfold bl32; rw [if_pos h1, if_pos h2]
      refine Calls.of_CW Tryz.func82 rfl (by decide +kernel) (Nat.le_of_ble_eq_true (by kernel_rfl)) (CW.of_flat ?_)
      simp only [flat, List.cons_append, List.nil_append, List.append_nil]
      refine CWL.reg (ops := [(.assign (.const (Go.Value.int Go.IntKind.i64 0)), 3)]) (b := [(2, 1)]) (by kernel_rfl) ?_
      refine OpK.assign ?_
      refine CWL.reg (ops := [(.binOp .geq 53 (.tmp 0) (.const (Go.Value.int Go.IntKind.u32 65536)) 53, 4)]) (b := [(4, 1), (3, 0)]) (by kernel_rfl) ?_
      refine OpK.cmp rfl rfl rfl ?_
      refine CWL.condT (congrArg Value.bool (decide_eq_true (by omega))) ?_
      simp only [flat, List.cons_append, List.nil_append, List.append_nil]
      refine CWL.reg (ops := [(.binOp .shr 53 (.tmp 0) (.const (Go.Value.int Go.IntKind.u64 16)) 102, 53)]) (b := [(0, 1), (6, 1), (5, 0)]) (by kernel_rfl) ?_
      refine OpK.shr rfl rfl (by decide) ?_
      refine CWL.reg (ops := [(.assign (.const (Go.Value.int Go.IntKind.i64 16)), 3)]) (b := [(2, 1)]) (by kernel_rfl) ?_
      refine OpK.assign ?_
      refine CWL.reg (ops := [(.binOp .geq 53 (.tmp 0) (.const (Go.Value.int Go.IntKind.u32 256)) 53, 4)]) (b := [(8, 1), (7, 0)]) (by kernel_rfl) ?_
      refine OpK.cmp rfl rfl rfl ?_
      refine CWL.condT (congrArg Value.bool (decide_eq_true (by rw [show (2 : Int) ^ min ((16 : Int).toNat) IntKind.u32.bits = 65536 from rfl]; omega))) ?_
      simp only [flat, List.cons_append, List.nil_append, List.append_nil]
      refine CWL.reg (ops := [(.binOp .shr 53 (.tmp 0) (.const (Go.Value.int Go.IntKind.u64 8)) 102, 53)]) (b := [(0, 1), (10, 1), (9, 0)]) (by kernel_rfl) ?_
      refine OpK.shr rfl rfl (by decide) ?_
      refine CWL.reg (ops := [(.binOp .add 3 (.tmp 4) (.const (Go.Value.int Go.IntKind.i64 8)) 3, 3)]) (b := [(2, 1), (12, 1), (11, 4)]) (by kernel_rfl) ?_
      refine OpK.arith rfl rfl rfl ?_
      refine CWL.reg (ops := [(.convert 53 5 (.tmp 0), 5), (.index 9 (.const (Go.Value.string {data := List.toArray (List.append (List.append [0, 1, 2, 2, 3, 3, 3, 3, 4, 4, 4, 4, 4, 4, 4, 4, 5, 5, 5, 5, 5, 5, 5, 5, 5, 5, 5, 5, 5, 5, 5, 5, 6, 6, 6, 6, 6, 6, 6, 6, 6, 6, 6, 6, 6, 6, 6, 6, 6, 6, 6, 6, 6, 6, 6, 6, 6, 6, 6, 6, 6, 6, 6, 6] [7, 7, 7, 7, 7, 7, 7, 7, 7, 7, 7, 7, 7, 7, 7, 7, 7, 7, 7, 7, 7, 7, 7, 7, 7, 7, 7, 7, 7, 7, 7, 7, 7, 7, 7, 7, 7, 7, 7, 7, 7, 7, 7, 7, 7, 7, 7, 7, 7, 7, 7, 7, 7, 7, 7, 7, 7, 7, 7, 7, 7, 7, 7, 7]) (List.append [8, 8, 8, 8, 8, 8, 8, 8, 8, 8, 8, 8, 8, 8, 8, 8, 8, 8, 8, 8, 8, 8, 8, 8, 8, 8, 8, 8, 8, 8, 8, 8, 8, 8, 8, 8, 8, 8, 8, 8, 8, 8, 8, 8, 8, 8, 8, 8, 8, 8, 8, 8, 8, 8, 8, 8, 8, 8, 8, 8, 8, 8, 8, 8] [8, 8, 8, 8, 8, 8, 8, 8, 8, 8, 8, 8, 8, 8, 8, 8, 8, 8, 8, 8, 8, 8, 8, 8, 8, 8, 8, 8, 8, 8, 8, 8, 8, 8, 8, 8, 8, 8, 8, 8, 8, 8, 8, 8, 8, 8, 8, 8, 8, 8, 8, 8, 8, 8, 8, 8, 8, 8, 8, 8, 8, 8, 8, 8]))})) (.tmp 1), 5), (.convert 5 3 (.tmp 3), 3), (.binOp .add 3 (.tmp 4) (.tmp 5) 3, 3)]) (b := [(2, 7), (18, 7), (17, 5), (16, 3), (15, 1), (14, 0), (13, 4)]) (by kernel_rfl) ?_
      refine OpK.convInt (k' := .u8) (by kernel_rfl) (by kernel_rfl) rfl ?_
      refine OpK.indexStr (by kernel_rfl) rfl (congrArg (Value.int .u8) (show _ = ((n / 65536 / 256 : Nat) : Int) by rw [show (2 : Int) ^ min ((16 : Int).toNat) IntKind.u32.bits = 65536 from rfl, show (2 : Int) ^ min ((8 : Int).toNat) IntKind.u32.bits = 256 from rfl]; rw [IntKind.wrap_u8]; omega)) (tab8 (n / 65536 / 256) (by omega)) ?_
      refine OpK.convInt (k' := .i64) (by kernel_rfl) (by kernel_rfl) rfl ?_
      refine OpK.arith rfl rfl rfl ?_
      refine CWL.ret ?_
      refine ⟨_, rfl, ?_, rfl⟩
      rw [hb]
      exact len_fin 24 (n / 65536 / 256) (by decide)
    · skip
      have hb : bl32 n = 16 + bl8 (n / 65536) := by unfold bl32; rw [if_pos h1, if_neg h2]
      refine Calls.of_CW Tryz.func82 rfl (by decide +kernel) (Nat.le_of_ble_eq_true (by kernel_rfl)) (CW.of_flat ?_)
      simp only [flat, List.cons_append, List.nil_append, List.append_nil]
      refine CWL.reg (ops := [(.assign (.const (Go.Value.int Go.IntKind.i64 0)), 3)]) (b := [(2, 1)]) (by kernel_rfl) ?_
      refine OpK.assign ?_
      refine CWL.reg (ops := [(.binOp .geq 53 (.tmp 0) (.const (Go.Value.int Go.IntKind.u32 65536)) 53, 4)]) (b := [(4, 1), (3, 0)]) (by kernel_rfl) ?_
      refine OpK.cmp rfl rfl rfl ?_
      refine CWL.condT (congrArg Value.bool (decide_eq_true (by omega))) ?_
      simp only [flat, List.cons_append, List.nil_append, List.append_nil]
      refine CWL.reg (ops := [(.binOp .shr 53 (.tmp 0) (.const (Go.Value.int Go.IntKind.u64 16)) 102, 53)]) (b := [(0, 1), (6, 1), (5, 0)]) (by kernel_rfl) ?_
      refine OpK.shr rfl rfl (by decide) ?_
      refine CWL.reg (ops := [(.assign (.const (Go.Value.int Go.IntKind.i64 16)), 3)]) (b := [(2, 1)]) (by kernel_rfl) ?_
      refine OpK.assign ?_
      refine CWL.reg (ops := [(.binOp .geq 53 (.tmp 0) (.const (Go.Value.int Go.IntKind.u32 256)) 53, 4)]) (b := [(8, 1), (7, 0)]) (by kernel_rfl) ?_
      refine OpK.cmp rfl rfl rfl ?_
      refine CWL.condF (congrArg Value.bool (decide_eq_false (by rw [show (2 : Int) ^ min ((16 : Int).toNat) IntKind.u32.bits = 65536 from rfl]; omega))) ?_
      simp only [flat, List.cons_append, List.nil_append, List.append_nil]
      refine CWL.reg (ops := [(.convert 53 5 (.tmp 0), 5), (.index 9 (.const (Go.Value.string {data := List.toArray (List.append (List.append [0, 1, 2, 2, 3, 3, 3, 3, 4, 4, 4, 4, 4, 4, 4, 4, 5, 5, 5, 5, 5, 5, 5, 5, 5, 5, 5, 5, 5, 5, 5, 5, 6, 6, 6, 6, 6, 6, 6, 6, 6, 6, 6, 6, 6, 6, 6, 6, 6, 6, 6, 6, 6, 6, 6, 6, 6, 6, 6, 6, 6, 6, 6, 6] [7, 7, 7, 7, 7, 7, 7, 7, 7, 7, 7, 7, 7, 7, 7, 7, 7, 7, 7, 7, 7, 7, 7, 7, 7, 7, 7, 7, 7, 7, 7, 7, 7, 7, 7, 7, 7, 7, 7, 7, 7, 7, 7, 7, 7, 7, 7, 7, 7, 7, 7, 7, 7, 7, 7, 7, 7, 7, 7, 7, 7, 7, 7, 7]) (List.append [8, 8, 8, 8, 8, 8, 8, 8, 8, 8, 8, 8, 8, 8, 8, 8, 8, 8, 8, 8, 8, 8, 8, 8, 8, 8, 8, 8, 8, 8, 8, 8, 8, 8, 8, 8, 8, 8, 8, 8, 8, 8, 8, 8, 8, 8, 8, 8, 8, 8, 8, 8, 8, 8, 8, 8, 8, 8, 8, 8, 8, 8, 8, 8] [8, 8, 8, 8, 8, 8, 8, 8, 8, 8, 8, 8, 8, 8, 8, 8, 8, 8, 8, 8, 8, 8, 8, 8, 8, 8, 8, 8, 8, 8, 8, 8, 8, 8, 8, 8, 8, 8, 8, 8, 8, 8, 8, 8, 8, 8, 8, 8, 8, 8, 8, 8, 8, 8, 8, 8, 8, 8, 8, 8, 8, 8, 8, 8]))})) (.tmp 1), 5), (.convert 5 3 (.tmp 3), 3), (.binOp .add 3 (.tmp 4) (.tmp 5) 3, 3)]) (b := [(2, 7), (18, 7), (17, 5), (16, 3), (15, 1), (14, 0), (13, 4)]) (by kernel_rfl) ?_
      refine OpK.convInt (k' := .u8) (by kernel_rfl) (by kernel_rfl) rfl ?_
      refine OpK.indexStr (by kernel_rfl) rfl (congrArg (Value.int .u8) (show _ = ((n / 65536 : Nat) : Int) by rw [show (2 : Int) ^ min ((16 : Int).toNat) IntKind.u32.bits = 65536 from rfl]; rw [IntKind.wrap_u8]; omega)) (tab8 (n / 65536) (by omega)) ?_
      refine OpK.convInt (k' := .i64) (by kernel_rfl) (by kernel_rfl) rfl ?_
      refine OpK.arith rfl rfl rfl ?_
      refine CWL.ret ?_
      refine ⟨_, rfl, ?_, rfl⟩
      rw [hb]
      exact len_fin 16 (n / 65536) (by decide)
  · by_cases h2 : 256 ≤ n
    · skip
      have hb : bl32 n = 8 + bl8 (n / 256) := by unfold bl32; rw [if_neg h1, if_pos h2]
      refine Calls.of_CW Tryz.func82 rfl (by decide +kernel) (Nat.le_of_ble_eq_true (by kernel_rfl)) (CW.of_flat ?_)
      simp only [flat, List.cons_append, List.nil_append, List.append_nil]
      refine CWL.reg (ops := [(.assign (.const (Go.Value.int Go.IntKind.i64 0)), 3)]) (b := [(2, 1)]) (by kernel_rfl) ?_
      refine OpK.assign ?_
      refine CWL.reg (ops := [(.binOp .geq 53 (.tmp 0) (.const (Go.Value.int Go.IntKind.u32 65536)) 53, 4)]) (b := [(4, 1), (3, 0)]) (by kernel_rfl) ?_
      refine OpK.cmp rfl rfl rfl ?_
      refine CWL.condF (congrArg Value.bool (decide_eq_false (by omega))) ?_
      simp only [flat, List.cons_append, List.nil_append, List.append_nil]
      refine CWL.reg (ops := [(.binOp .geq 53 (.tmp 0) (.const (Go.Value.int Go.IntKind.u32 256)) 53, 4)]) (b := [(8, 1), (7, 0)]) (by kernel_rfl) ?_
      refine OpK.cmp rfl rfl rfl ?_
      refine CWL.condT (congrArg Value.bool (decide_eq_true (by omega))) ?_
      simp only [flat, List.cons_append, List.nil_append, List.append_nil]
      refine CWL.reg (ops := [(.binOp .shr 53 (.tmp 0) (.const (Go.Value.int Go.IntKind.u64 8)) 102, 53)]) (b := [(0, 1), (10, 1), (9, 0)]) (by kernel_rfl) ?_
      refine OpK.shr rfl rfl (by decide) ?_
      refine CWL.reg (ops := [(.binOp .add 3 (.tmp 4) (.const (Go.Value.int Go.IntKind.i64 8)) 3, 3)]) (b := [(2, 1), (12, 1), (11, 4)]) (by kernel_rfl) ?_
      refine OpK.arith rfl rfl rfl ?_
      refine CWL.reg (ops := [(.convert 53 5 (.tmp 0), 5), (.index 9 (.const (Go.Value.string {data := List.toArray (List.append (List.append [0, 1, 2, 2, 3, 3, 3, 3, 4, 4, 4, 4, 4, 4, 4, 4, 5, 5, 5, 5, 5, 5, 5, 5, 5, 5, 5, 5, 5, 5, 5, 5, 6, 6, 6, 6, 6, 6, 6, 6, 6, 6, 6, 6, 6, 6, 6, 6, 6, 6, 6, 6, 6, 6, 6, 6, 6, 6, 6, 6, 6, 6, 6, 6] [7, 7, 7, 7, 7, 7, 7, 7, 7, 7, 7, 7, 7, 7, 7, 7, 7, 7, 7, 7, 7, 7, 7, 7, 7, 7, 7, 7, 7, 7, 7, 7, 7, 7, 7, 7, 7, 7, 7, 7, 7, 7, 7, 7, 7, 7, 7, 7, 7, 7, 7, 7, 7, 7, 7, 7, 7, 7, 7, 7, 7, 7, 7, 7]) (List.append [8, 8, 8, 8, 8, 8, 8, 8, 8, 8, 8, 8, 8, 8, 8, 8, 8, 8, 8, 8, 8, 8, 8, 8, 8, 8, 8, 8, 8, 8, 8, 8, 8, 8, 8, 8, 8, 8, 8, 8, 8, 8, 8, 8, 8, 8, 8, 8, 8, 8, 8, 8, 8, 8, 8, 8, 8, 8, 8, 8, 8, 8, 8, 8] [8, 8, 8, 8, 8, 8, 8, 8, 8, 8, 8, 8, 8, 8, 8, 8, 8, 8, 8, 8, 8, 8, 8, 8, 8, 8, 8, 8, 8, 8, 8, 8, 8, 8, 8, 8, 8, 8, 8, 8, 8, 8, 8, 8, 8, 8, 8, 8, 8, 8, 8, 8, 8, 8, 8, 8, 8, 8, 8, 8, 8, 8, 8, 8]))})) (.tmp 1), 5), (.convert 5 3 (.tmp 3), 3), (.binOp .add 3 (.tmp 4) (.tmp 5) 3, 3)]) (b := [(2, 7), (18, 7), (17, 5), (16, 3), (15, 1), (14, 0), (13, 4)]) (by kernel_rfl) ?_
      refine OpK.convInt (k' := .u8) (by kernel_rfl) (by kernel_rfl) rfl ?_
      refine OpK.indexStr (by kernel_rfl) rfl (congrArg (Value.int .u8) (show _ = ((n / 256 : Nat) : Int) by rw [show (2 : Int) ^ min ((8 : Int).toNat) IntKind.u32.bits = 256 from rfl]; rw [IntKind.wrap_u8]; omega)) (tab8 (n / 256) (by omega)) ?_
      refine OpK.convInt (k' := .i64) (by kernel_rfl) (by kernel_rfl) rfl ?_
      refine OpK.arith rfl rfl rfl ?_
      refine CWL.ret ?_
      refine ⟨_, rfl, ?_, rfl⟩
      rw [hb]
      exact len_fin 8 (n / 256) (by decide)
    · skip
      have hb : bl32 n = 0 + bl8 (n) := by unfold bl32; rw [if_neg h1, if_neg h2]; simp
      refine Calls.of_CW Tryz.func82 rfl (by decide +kernel) (Nat.le_of_ble_eq_true (by kernel_rfl)) (CW.of_flat ?_)
      simp only [flat, List.cons_append, List.nil_append, List.append_nil]
      refine CWL.reg (ops := [(.assign (.const (Go.Value.int Go.IntKind.i64 0)), 3)]) (b := [(2, 1)]) (by kernel_rfl) ?_
      refine OpK.assign ?_
      refine CWL.reg (ops := [(.binOp .geq 53 (.tmp 0) (.const (Go.Value.int Go.IntKind.u32 65536)) 53, 4)]) (b := [(4, 1), (3, 0)]) (by kernel_rfl) ?_
      refine OpK.cmp rfl rfl rfl ?_
      refine CWL.condF (congrArg Value.bool (decide_eq_false (by omega))) ?_
      simp only [flat, List.cons_append, List.nil_append, List.append_nil]
      refine CWL.reg (ops := [(.binOp .geq 53 (.tmp 0) (.const (Go.Value.int Go.IntKind.u32 256)) 53, 4)]) (b := [(8, 1), (7, 0)]) (by kernel_rfl) ?_
      refine OpK.cmp rfl rfl rfl ?_
      refine CWL.condF (congrArg Value.bool (decide_eq_false (by omega))) ?_
      simp only [flat, List.cons_append, List.nil_append, List.append_nil]
      refine CWL.reg (ops := [(.convert 53 5 (.tmp 0), 5), (.index 9 (.const (Go.Value.string {data := List.toArray (List.append (List.append [0, 1, 2, 2, 3, 3, 3, 3, 4, 4, 4, 4, 4, 4, 4, 4, 5, 5, 5, 5, 5, 5, 5, 5, 5, 5, 5, 5, 5, 5, 5, 5, 6, 6, 6, 6, 6, 6, 6, 6, 6, 6, 6, 6, 6, 6, 6, 6, 6, 6, 6, 6, 6, 6, 6, 6, 6, 6, 6, 6, 6, 6, 6, 6] [7, 7, 7, 7, 7, 7, 7, 7, 7, 7, 7, 7, 7, 7, 7, 7, 7, 7, 7, 7, 7, 7, 7, 7, 7, 7, 7, 7, 7, 7, 7, 7, 7, 7, 7, 7, 7, 7, 7, 7, 7, 7, 7, 7, 7, 7, 7, 7, 7, 7, 7, 7, 7, 7, 7, 7, 7, 7, 7, 7, 7, 7, 7, 7]) (List.append [8, 8, 8, 8, 8, 8, 8, 8, 8, 8, 8, 8, 8, 8, 8, 8, 8, 8, 8, 8, 8, 8, 8, 8, 8, 8, 8, 8, 8, 8, 8, 8, 8, 8, 8, 8, 8, 8, 8, 8, 8, 8, 8, 8, 8, 8, 8, 8, 8, 8, 8, 8, 8, 8, 8, 8, 8, 8, 8, 8, 8, 8, 8, 8] [8, 8, 8, 8, 8, 8, 8, 8, 8, 8, 8, 8, 8, 8, 8, 8, 8, 8, 8, 8, 8, 8, 8, 8, 8, 8, 8, 8, 8, 8, 8, 8, 8, 8, 8, 8, 8, 8, 8, 8, 8, 8, 8, 8, 8, 8, 8, 8, 8, 8, 8, 8, 8, 8, 8, 8, 8, 8, 8, 8, 8, 8, 8, 8]))})) (.tmp 1), 5), (.convert 5 3 (.tmp 3), 3), (.binOp .add 3 (.tmp 4) (.tmp 5) 3, 3)]) (b := [(2, 7), (18, 7), (17, 5), (16, 3), (15, 1), (14, 0), (13, 4)]) (by kernel_rfl) ?_
      refine OpK.convInt (k' := .u8) (by kernel_rfl) (by kernel_rfl) rfl ?_
      refine OpK.indexStr (by kernel_rfl) rfl (congrArg (Value.int .u8) (show _ = ((n : Nat) : Int) by rw [IntKind.wrap_u8]; omega)) (tab8 (n) (by omega)) ?_
      refine OpK.convInt (k' := .i64) (by kernel_rfl) (by kernel_rfl) rfl ?_
      refine OpK.arith rfl rfl rfl ?_
      refine CWL.ret ?_
      refine ⟨_, rfl, ?_, rfl⟩
      rw [hb]
      exact len_fin 0 (n) (by decide)

theorem tabU (j : Nat) (h : j ≤ 32) : (match (.const (Go.Value.string {data := List.toArray (List.append (List.append [1, 1, 1, 1, 1, 1, 1, 1, 2, 2, 2, 2, 2, 2, 2, 3, 3, 3, 3, 3, 3, 3, 4, 4, 4, 4, 4, 4, 4, 5, 5, 5, 5, 5, 5, 5, 6, 6, 6, 6, 6, 6, 6, 7, 7, 7, 7, 7, 7, 7, 8, 8, 8, 8, 8, 8, 8, 9, 9, 9, 9, 9, 9, 9] [10, 0, 0, 0, 0, 0, 0, 0, 0, 0, 0, 0, 0, 0, 0, 0, 0, 0, 0, 0, 0, 0, 0, 0, 0, 0, 0, 0, 0, 0, 0, 0, 0, 0, 0, 0, 0, 0, 0, 0, 0, 0, 0, 0, 0, 0, 0, 0, 0, 0, 0, 0, 0, 0, 0, 0, 0, 0, 0, 0, 0, 0, 0, 0]) (List.append [0, 0, 0, 0, 0, 0, 0, 0, 0, 0, 0, 0, 0, 0, 0, 0, 0, 0, 0, 0, 0, 0, 0, 0, 0, 0, 0, 0, 0, 0, 0, 0, 0, 0, 0, 0, 0, 0, 0, 0, 0, 0, 0, 0, 0, 0, 0, 0, 0, 0, 0, 0, 0, 0, 0, 0, 0, 0, 0, 0, 0, 0, 0, 0] [0, 0, 0, 0, 0, 0, 0, 0, 0, 0, 0, 0, 0, 0, 0, 0, 0, 0, 0, 0, 0, 0, 0, 0, 0, 0, 0, 0, 0, 0, 0, 0, 0, 0, 0, 0, 0, 0, 0, 0, 0, 0, 0, 0, 0, 0, 0, 0, 0, 0, 0, 0, 0, 0, 0, 0, 0, 0, 0, 0, 0, 0, 0, 0]))}) : Operand) with | .const (.string s) => s[j]? | _ => none) = some (UInt8.ofNat (utab j)) := by
  have k : ∀ j : Fin 33, (match (.const (Go.Value.string {data := List.toArray (List.append (List.append [1, 1, 1, 1, 1, 1, 1, 1, 2, 2, 2, 2, 2, 2, 2, 3, 3, 3, 3, 3, 3, 3, 4, 4, 4, 4, 4, 4, 4, 5, 5, 5, 5, 5, 5, 5, 6, 6, 6, 6, 6, 6, 6, 7, 7, 7, 7, 7, 7, 7, 8, 8, 8, 8, 8, 8, 8, 9, 9, 9, 9, 9, 9, 9] [10, 0, 0, 0, 0, 0, 0, 0, 0, 0, 0, 0, 0, 0, 0, 0, 0, 0, 0, 0, 0, 0, 0, 0, 0, 0, 0, 0, 0, 0, 0, 0, 0, 0, 0, 0, 0, 0, 0, 0, 0, 0, 0, 0, 0, 0, 0, 0, 0, 0, 0, 0, 0, 0, 0, 0, 0, 0, 0, 0, 0, 0, 0, 0]) (List.append [0, 0, 0, 0, 0, 0, 0, 0, 0, 0, 0, 0, 0, 0, 0, 0, 0, 0, 0, 0, 0, 0, 0, 0, 0, 0, 0, 0, 0, 0, 0, 0, 0, 0, 0, 0, 0, 0, 0, 0, 0, 0, 0, 0, 0, 0, 0, 0, 0, 0, 0, 0, 0, 0, 0, 0, 0, 0, 0, 0, 0, 0, 0, 0] [0, 0, 0, 0, 0, 0, 0, 0, 0, 0, 0, 0, 0, 0, 0, 0, 0, 0, 0, 0, 0, 0, 0, 0, 0, 0, 0, 0, 0, 0, 0, 0, 0, 0, 0, 0, 0, 0, 0, 0, 0, 0, 0, 0, 0, 0, 0, 0, 0, 0, 0, 0, 0, 0, 0, 0, 0, 0, 0, 0, 0, 0, 0, 0]))}) : Operand) with | .const (.string s) => s[j.1]? | _ => none) = some (UInt8.ofNat (utab j.1)) := by decide +kernel
  exact k ⟨j, by omega⟩

theorem call73 : Callable Tryz.prog 73 := ⟨Tryz.f73, Tryz.func73, by kernel_rfl, by kernel_rfl⟩
set_option maxHeartbeats 4000000 in
theorem c73 (w : World) (n : Nat) (hn : n < 4294967296) : Calls Tryz.prog 73 #[.int .u32 n] w fun en w' => ∃ r, en = .returned r ∧ r = .int .i64 (uvLen n : Int) ∧ w' = w := by
  refine Calls.of_CW Tryz.func73 rfl (by decide +kernel) (Nat.le_of_ble_eq_true (by kernel_rfl)) (CW.of_flat ?_)
  simp only [flat, List.cons_append, List.nil_append, List.append_nil]
  refine CWL.reg (ops := [(.assign (.const (Go.Value.int Go.IntKind.i64 0)), 3)]) (b := [(2, 1)]) (by kernel_rfl) ?_
  refine OpK.assign ?_
  refine CWL.reg (ops := [(.call ⟨.value (.func 82), #[.tmp 0], #[53]⟩, 3), (.convert 3 5 (.tmp 1), 5), (.index 9 (.const (Go.Value.string {data := List.toArray (List.append (List.append [1, 1, 1, 1, 1, 1, 1, 1, 2, 2, 2, 2, 2, 2, 2, 3, 3, 3, 3, 3, 3, 3, 4, 4, 4, 4, 4, 4, 4, 5, 5, 5, 5, 5, 5, 5, 6, 6, 6, 6, 6, 6, 6, 7, 7, 7, 7, 7, 7, 7, 8, 8, 8, 8, 8, 8, 8, 9, 9, 9, 9, 9, 9, 9] [10, 0, 0, 0, 0, 0, 0, 0, 0, 0, 0, 0, 0, 0, 0, 0, 0, 0, 0, 0, 0, 0, 0, 0, 0, 0, 0, 0, 0, 0, 0, 0, 0, 0, 0, 0, 0, 0, 0, 0, 0, 0, 0, 0, 0, 0, 0, 0, 0, 0, 0, 0, 0, 0, 0, 0, 0, 0, 0, 0, 0, 0, 0, 0]) (List.append [0, 0, 0, 0, 0, 0, 0, 0, 0, 0, 0, 0, 0, 0, 0, 0, 0, 0, 0, 0, 0, 0, 0, 0, 0, 0, 0, 0, 0, 0, 0, 0, 0, 0, 0, 0, 0, 0, 0, 0, 0, 0, 0, 0, 0, 0, 0, 0, 0, 0, 0, 0, 0, 0, 0, 0, 0, 0, 0, 0, 0, 0, 0, 0] [0, 0, 0, 0, 0, 0, 0, 0, 0, 0, 0, 0, 0, 0, 0, 0, 0, 0, 0, 0, 0, 0, 0, 0, 0, 0, 0, 0, 0, 0, 0, 0, 0, 0, 0, 0, 0, 0, 0, 0, 0, 0, 0, 0, 0, 0, 0, 0, 0, 0, 0, 0, 0, 0, 0, 0, 0, 0, 0, 0, 0, 0, 0, 0]))})) (.tmp 3), 5), (.convert 5 3 (.tmp 5), 3)]) (b := [(2, 7), (7, 7), (6, 5), (5, 3), (4, 1), (3, 0)]) (by kernel_rfl) ?_
  refine OpK.asCall rfl call82 rfl ((c82 w n hn).mono ?_)
  rintro en w1 ⟨r1, he1, hr1, hw1⟩
  subst hw1
  subst hr1
  refine ⟨_, he1, ?_⟩
  refine OpK.convInt (k' := .u8) (by kernel_rfl) (by kernel_rfl) rfl ?_
  refine OpK.indexStr (by kernel_rfl) rfl (congrArg (Value.int .u8) (u8_nat (Nat.lt_of_le_of_lt bl32_le (by decide)))) (tabU (bl32 n) bl32_le) ?_
  refine OpK.convInt (k' := .i64) (by kernel_rfl) (by kernel_rfl) rfl ?_
  refine CWL.ret ?_
  exact ⟨_, rfl, ulen_val hn, rfl⟩

theorem call41 : Callable Tryz.prog 41 := ⟨Tryz.f41, Tryz.func41, by kernel_rfl, by kernel_rfl⟩
set_option maxHeartbeats 8000000 in
theorem c41 (w : World) (n : Nat) (m : Int) (hm : m = n) (hn : n < 4294967296) (d : Value) (bs : List UInt8) (hd : Own 5 w d bs) (hl : bs.length + (uvar n).length ≤ Lim) : Calls Tryz.prog 41 #[d, .int .u32 m] w fun en w' => ∃ d', en = .returned d' ∧ Grew 5 w d w' d' (bs ++ uvar n) := by
  subst hm
  have hcase : n < 128 ∨ (128 ≤ n ∧ n < 16384) ∨ (16384 ≤ n ∧ n < 2097152) ∨ (2097152 ≤ n ∧ n < 268435456) ∨ 268435456 ≤ n := by omega
  obtain ⟨v', w', hr, hg⟩ := append_lit (ty := 22) und u8 hd (uvar n) hl
  rcases hcase with h | ⟨h, h'⟩ | ⟨h, h'⟩ | ⟨h, h'⟩ | h
  · skip
    have hk : uvLen n = 1 := by unfold uvLen; repeat' split <;> try omega
    have hc : (uvar n).map bv = [.int .u8 (IntKind.u8.wrap (n : Int))] := by
      rw [uv1 h]
      simp only [List.map_cons, List.map_nil]
      rw [← grpL0 n h]
    have hlen : (uvar n).length = 1 := by rw [uv1 h]; rfl
    rw [hc, hlen] at hr
    refine Calls.of_CW Tryz.func41 rfl (by decide +kernel) (Nat.le_of_ble_eq_true (by kernel_rfl)) (CW.of_flat ?_)
    simp only [flat, List.cons_append, List.nil_append, List.append_nil]
    refine CWL.reg (ops := [(.assign (.const (Go.Value.slice none 0 0)), 22)]) (b := [(4, 1)]) (by kernel_rfl) ?_
    refine OpK.assign ?_
    refine CWL.reg (ops := [(.call ⟨.value (.func 73), #[.tmp 2], #[53]⟩, 3)]) (b := [(6, 1), (5, 2)]) (by kernel_rfl) ?_
    refine OpK.asCall rfl call73 rfl ((c73 w n hn).mono ?_)
    rintro en w1 ⟨r1, he1, hr1, hw1⟩
    subst hw1
    rw [hk] at hr1
    subst hr1
    refine ⟨_, he1, ?_⟩
    refine CWL.block ?_
    simp only [flat, List.cons_append, List.nil_append, List.append_nil]
    refine CWL.reg (ops := [(.binOp .eql 3 (.tmp 12) (.const (Go.Value.int Go.IntKind.i64 5)) 3, 4)]) (b := [(7, 1), (8, 1)]) (by kernel_rfl) ?_
    refine OpK.cmp rfl rfl rfl ?_
    refine CWL.condF rfl ?_
    simp only [flat, List.cons_append, List.nil_append, List.append_nil]
    refine CWL.reg (ops := [(.binOp .eql 3 (.tmp 12) (.const (Go.Value.int Go.IntKind.i64 4)) 3, 4)]) (b := [(34, 1), (35, 1)]) (by kernel_rfl) ?_
    refine OpK.cmp rfl rfl rfl ?_
    refine CWL.condF rfl ?_
    simp only [flat, List.cons_append, List.nil_append, List.append_nil]
    refine CWL.reg (ops := [(.binOp .eql 3 (.tmp 12) (.const (Go.Value.int Go.IntKind.i64 3)) 3, 4)]) (b := [(56, 1), (57, 1)]) (by kernel_rfl) ?_
    refine OpK.cmp rfl rfl rfl ?_
    refine CWL.condF rfl ?_
    simp only [flat, List.cons_append, List.nil_append, List.append_nil]
    refine CWL.reg (ops := [(.binOp .eql 3 (.tmp 12) (.const (Go.Value.int Go.IntKind.i64 2)) 3, 4)]) (b := [(73, 1), (74, 1)]) (by kernel_rfl) ?_
    refine OpK.cmp rfl rfl rfl ?_
    refine CWL.condF rfl ?_
    simp only [flat, List.cons_append, List.nil_append, List.append_nil]
    refine CWL.reg (ops := [(.binOp .eql 3 (.tmp 12) (.const (Go.Value.int Go.IntKind.i64 1)) 3, 4)]) (b := [(85, 1), (86, 1)]) (by kernel_rfl) ?_
    refine OpK.cmp rfl rfl rfl ?_
    refine CWL.condT rfl ?_
    simp only [flat, List.cons_append, List.nil_append, List.append_nil]
    refine CWL.reg (ops := [(.convert 53 5 (.tmp 2), 5), (.buildSlice 22 1 #[(0, .tmp 1)], 22), (.call ⟨.builtin .append, #[.tmp 0, .tmp 3], #[22, 22]⟩, 22)]) (b := [(4, 5), (91, 5), (90, 3), (89, 1), (88, 2), (87, 0)]) (by kernel_rfl) ?_
    refine OpK.convInt (k' := .u8) (by kernel_rfl) (by kernel_rfl) rfl ?_
    refine OpK.buildS (by simp only [List.map_toArray, List.map_cons, List.map_nil]; exact run_bs1 (by kernel_rfl) u8 _) ?_
    refine OpK.run rfl hr ?_
    refine CWL.ret ?_
    exact ⟨_, rfl, hg⟩
  · skip
    have hk : uvLen n = 2 := by unfold uvLen; repeat' split <;> try omega
    have hc : (uvar n).map bv = [.int .u8 (IntKind.u8.wrap (bits .or .u32 (bits .and .u32 (n : Int) 127) 128)), .int .u8 (IntKind.u8.wrap ((n : Int) / 2 ^ min ((7 : Int).toNat) IntKind.u32.bits))] := by
      rw [uv2 h h']
      simp only [List.map_cons, List.map_nil]
      rw [← grpL n 7 (by omega), ← grp0 n hn]
      rfl
    have hlen : (uvar n).length = 2 := by rw [uv2 h h']; rfl
    rw [hc, hlen] at hr
    refine Calls.of_CW Tryz.func41 rfl (by decide +kernel) (Nat.le_of_ble_eq_true (by kernel_rfl)) (CW.of_flat ?_)
    simp only [flat, List.cons_append, List.nil_append, List.append_nil]
    refine CWL.reg (ops := [(.assign (.const (Go.Value.slice none 0 0)), 22)]) (b := [(4, 1)]) (by kernel_rfl) ?_
    refine OpK.assign ?_
    refine CWL.reg (ops := [(.call ⟨.value (.func 73), #[.tmp 2], #[53]⟩, 3)]) (b := [(6, 1), (5, 2)]) (by kernel_rfl) ?_
    refine OpK.asCall rfl call73 rfl ((c73 w n hn).mono ?_)
    rintro en w1 ⟨r1, he1, hr1, hw1⟩
    subst hw1
    rw [hk] at hr1
    subst hr1
    refine ⟨_, he1, ?_⟩
    refine CWL.block ?_
    simp only [flat, List.cons_append, List.nil_append, List.append_nil]
    refine CWL.reg (ops := [(.binOp .eql 3 (.tmp 12) (.const (Go.Value.int Go.IntKind.i64 5)) 3, 4)]) (b := [(7, 1), (8, 1)]) (by kernel_rfl) ?_
    refine OpK.cmp rfl rfl rfl ?_
    refine CWL.condF rfl ?_
    simp only [flat, List.cons_append, List.nil_append, List.append_nil]
    refine CWL.reg (ops := [(.binOp .eql 3 (.tmp 12) (.const (Go.Value.int Go.IntKind.i64 4)) 3, 4)]) (b := [(34, 1), (35, 1)]) (by kernel_rfl) ?_
    refine OpK.cmp rfl rfl rfl ?_
    refine CWL.condF rfl ?_
    simp only [flat, List.cons_append, List.nil_append, List.append_nil]
    refine CWL.reg (ops := [(.binOp .eql 3 (.tmp 12) (.const (Go.Value.int Go.IntKind.i64 3)) 3, 4)]) (b := [(56, 1), (57, 1)]) (by kernel_rfl) ?_
    refine OpK.cmp rfl rfl rfl ?_
    refine CWL.condF rfl ?_
    simp only [flat, List.cons_append, List.nil_append, List.append_nil]
    refine CWL.reg (ops := [(.binOp .eql 3 (.tmp 12) (.const (Go.Value.int Go.IntKind.i64 2)) 3, 4)]) (b := [(73, 1), (74, 1)]) (by kernel_rfl) ?_
    refine OpK.cmp rfl rfl rfl ?_
    refine CWL.condT rfl ?_
    simp only [flat, List.cons_append, List.nil_append, List.append_nil]
    refine CWL.reg (ops := [(.binOp .and 53 (.tmp 2) (.const (Go.Value.int Go.IntKind.u32 127)) 53, 53), (.binOp .or 53 (.tmp 1) (.const (Go.Value.int Go.IntKind.u32 128)) 53, 53), (.convert 53 5 (.tmp 3), 5), (.binOp .shr 53 (.tmp 2) (.const (Go.Value.int Go.IntKind.u64 7)) 102, 53), (.convert 53 5 (.tmp 7), 5), (.buildSlice 22 2 #[(0, .tmp 5), (1, .tmp 9)], 22), (.call ⟨.builtin .append, #[.tmp 0, .tmp 11], #[22, 22]⟩, 22)]) (b := [(4, 13), (84, 13), (83, 11), (82, 9), (81, 7), (80, 2), (79, 5), (78, 3), (77, 1), (76, 2), (75, 0)]) (by kernel_rfl) ?_
    refine OpK.and rfl rfl ?_
    refine OpK.or rfl rfl ?_
    refine OpK.convInt (k' := .u8) (by kernel_rfl) (by kernel_rfl) rfl ?_
    refine OpK.shr rfl rfl (by decide) ?_
    refine OpK.convInt (k' := .u8) (by kernel_rfl) (by kernel_rfl) rfl ?_
    refine OpK.buildS (by simp only [List.map_toArray, List.map_cons, List.map_nil]; exact run_bs2 (by kernel_rfl) u8 _ _) ?_
    refine OpK.run rfl hr ?_
    refine CWL.ret ?_
    exact ⟨_, rfl, hg⟩
  · skip
    have hk : uvLen n = 3 := by unfold uvLen; repeat' split <;> try omega
    have hc : (uvar n).map bv = [.int .u8 (IntKind.u8.wrap (bits .or .u32 (bits .and .u32 (n : Int) 127) 128)), .int .u8 (IntKind.u8.wrap (bits .or .u32 (bits .and .u32 ((n : Int) / 2 ^ min ((7 : Int).toNat) IntKind.u32.bits) 127) 128)), .int .u8 (IntKind.u8.wrap ((n : Int) / 2 ^ min ((14 : Int).toNat) IntKind.u32.bits))] := by
      rw [uv3 h h']
      simp only [List.map_cons, List.map_nil]
      rw [← grpL n 14 (by omega), ← grp n 7 hn, ← grp0 n hn]
      rfl
    have hlen : (uvar n).length = 3 := by rw [uv3 h h']; rfl
    rw [hc, hlen] at hr
    refine Calls.of_CW Tryz.func41 rfl (by decide +kernel) (Nat.le_of_ble_eq_true (by kernel_rfl)) (CW.of_flat ?_)
    simp only [flat, List.cons_append, List.nil_append, List.append_nil]
    refine CWL.reg (ops := [(.assign (.const (Go.Value.slice none 0 0)), 22)]) (b := [(4, 1)]) (by kernel_rfl) ?_
    refine OpK.assign ?_
    refine CWL.reg (ops := [(.call ⟨.value (.func 73), #[.tmp 2], #[53]⟩, 3)]) (b := [(6, 1), (5, 2)]) (by kernel_rfl) ?_
    refine OpK.asCall rfl call73 rfl ((c73 w n hn).mono ?_)
    rintro en w1 ⟨r1, he1, hr1, hw1⟩
    subst hw1
    rw [hk] at hr1
    subst hr1
    refine ⟨_, he1, ?_⟩
    refine CWL.block ?_
    simp only [flat, List.cons_append, List.nil_append, List.append_nil]
    refine CWL.reg (ops := [(.binOp .eql 3 (.tmp 12) (.const (Go.Value.int Go.IntKind.i64 5)) 3, 4)]) (b := [(7, 1), (8, 1)]) (by kernel_rfl) ?_
    refine OpK.cmp rfl rfl rfl ?_
    refine CWL.condF rfl ?_
    simp only [flat, List.cons_append, List.nil_append, List.append_nil]
    refine CWL.reg (ops := [(.binOp .eql 3 (.tmp 12) (.const (Go.Value.int Go.IntKind.i64 4)) 3, 4)]) (b := [(34, 1), (35, 1)]) (by kernel_rfl) ?_
    refine OpK.cmp rfl rfl rfl ?_
    refine CWL.condF rfl ?_
    simp only [flat, List.cons_append, List.nil_append, List.append_nil]
    refine CWL.reg (ops := [(.binOp .eql 3 (.tmp 12) (.const (Go.Value.int Go.IntKind.i64 3)) 3, 4)]) (b := [(56, 1), (57, 1)]) (by kernel_rfl) ?_
    refine OpK.cmp rfl rfl rfl ?_
    refine CWL.condT rfl ?_
    simp only [flat, List.cons_append, List.nil_append, List.append_nil]
    refine CWL.reg (ops := [(.binOp .and 53 (.tmp 2) (.const (Go.Value.int Go.IntKind.u32 127)) 53, 53), (.binOp .or 53 (.tmp 1) (.const (Go.Value.int Go.IntKind.u32 128)) 53, 53), (.convert 53 5 (.tmp 3), 5), (.binOp .shr 53 (.tmp 2) (.const (Go.Value.int Go.IntKind.u64 7)) 102, 53), (.binOp .and 53 (.tmp 7) (.const (Go.Value.int Go.IntKind.u32 127)) 53, 53), (.binOp .or 53 (.tmp 9) (.const (Go.Value.int Go.IntKind.u32 128)) 53, 53), (.convert 53 5 (.tmp 11), 5), (.binOp .shr 53 (.tmp 2) (.const (Go.Value.int Go.IntKind.u64 14)) 102, 53), (.convert 53 5 (.tmp 15), 5), (.buildSlice 22 3 #[(0, .tmp 5), (1, .tmp 13), (2, .tmp 17)], 22), (.call ⟨.builtin .append, #[.tmp 0, .tmp 19], #[22, 22]⟩, 22)]) (b := [(4, 21), (72, 21), (71, 19), (70, 17), (69, 15), (68, 2), (67, 13), (66, 11), (65, 9), (64, 7), (63, 2), (62, 5), (61, 3), (60, 1), (59, 2), (58, 0)]) (by kernel_rfl) ?_
    refine OpK.and rfl rfl ?_
    refine OpK.or rfl rfl ?_
    refine OpK.convInt (k' := .u8) (by kernel_rfl) (by kernel_rfl) rfl ?_
    refine OpK.shr rfl rfl (by decide) ?_
    refine OpK.and rfl rfl ?_
    refine OpK.or rfl rfl ?_
    refine OpK.convInt (k' := .u8) (by kernel_rfl) (by kernel_rfl) rfl ?_
    refine OpK.shr rfl rfl (by decide) ?_
    refine OpK.convInt (k' := .u8) (by kernel_rfl) (by kernel_rfl) rfl ?_
    refine OpK.buildS (by simp only [List.map_toArray, List.map_cons, List.map_nil]; exact run_bs3 (by kernel_rfl) u8 _ _ _) ?_
    refine OpK.run rfl hr ?_
    refine CWL.ret ?_
    exact ⟨_, rfl, hg⟩
  · skip
    have hk : uvLen n = 4 := by unfold uvLen; repeat' split <;> try omega
    have hc : (uvar n).map bv = [.int .u8 (IntKind.u8.wrap (bits .or .u32 (bits .and .u32 (n : Int) 127) 128)), .int .u8 (IntKind.u8.wrap (bits .or .u32 (bits .and .u32 ((n : Int) / 2 ^ min ((7 : Int).toNat) IntKind.u32.bits) 127) 128)), .int .u8 (IntKind.u8.wrap (bits .or .u32 (bits .and .u32 ((n : Int) / 2 ^ min ((14 : Int).toNat) IntKind.u32.bits) 127) 128)), .int .u8 (IntKind.u8.wrap ((n : Int) / 2 ^ min ((21 : Int).toNat) IntKind.u32.bits))] := by
      rw [uv4 h h']
      simp only [List.map_cons, List.map_nil]
      rw [← grpL n 21 (by omega), ← grp n 14 hn, ← grp n 7 hn, ← grp0 n hn]
      rfl
    have hlen : (uvar n).length = 4 := by rw [uv4 h h']; rfl
    rw [hc, hlen] at hr
    refine Calls.of_CW Tryz.func41 rfl (by decide +kernel) (Nat.le_of_ble_eq_true (by kernel_rfl)) (CW.of_flat ?_)
    simp only [flat, List.cons_append, List.nil_append, List.append_nil]
    refine CWL.reg (ops := [(.assign (.const (Go.Value.slice none 0 0)), 22)]) (b := [(4, 1)]) (by kernel_rfl) ?_
    refine OpK.assign ?_
    refine CWL.reg (ops := [(.call ⟨.value (.func 73), #[.tmp 2], #[53]⟩, 3)]) (b := [(6, 1), (5, 2)]) (by kernel_rfl) ?_
    refine OpK.asCall rfl call73 rfl ((c73 w n hn).mono ?_)
    rintro en w1 ⟨r1, he1, hr1, hw1⟩
    subst hw1
    rw [hk] at hr1
    subst hr1
    refine ⟨_, he1, ?_⟩
    refine CWL.block ?_
    simp only [flat, List.cons_append, List.nil_append, List.append_nil]
    refine CWL.reg (ops := [(.binOp .eql 3 (.tmp 12) (.const (Go.Value.int Go.IntKind.i64 5)) 3, 4)]) (b := [(7, 1), (8, 1)]) (by kernel_rfl) ?_
    refine OpK.cmp rfl rfl rfl ?_
    refine CWL.condF rfl ?_
    simp only [flat, List.cons_append, List.nil_append, List.append_nil]
    refine CWL.reg (ops := [(.binOp .eql 3 (.tmp 12) (.const (Go.Value.int Go.IntKind.i64 4)) 3, 4)]) (b := [(34, 1), (35, 1)]) (by kernel_rfl) ?_
    refine OpK.cmp rfl rfl rfl ?_
    refine CWL.condT rfl ?_
    simp only [flat, List.cons_append, List.nil_append, List.append_nil]
    refine CWL.reg (ops := [(.binOp .and 53 (.tmp 2) (.const (Go.Value.int Go.IntKind.u32 127)) 53, 53), (.binOp .or 53 (.tmp 1) (.const (Go.Value.int Go.IntKind.u32 128)) 53, 53), (.convert 53 5 (.tmp 3), 5), (.binOp .shr 53 (.tmp 2) (.const (Go.Value.int Go.IntKind.u64 7)) 102, 53), (.binOp .and 53 (.tmp 7) (.const (Go.Value.int Go.IntKind.u32 127)) 53, 53), (.binOp .or 53 (.tmp 9) (.const (Go.Value.int Go.IntKind.u32 128)) 53, 53), (.convert 53 5 (.tmp 11), 5), (.binOp .shr 53 (.tmp 2) (.const (Go.Value.int Go.IntKind.u64 14)) 102, 53), (.binOp .and 53 (.tmp 15) (.const (Go.Value.int Go.IntKind.u32 127)) 53, 53), (.binOp .or 53 (.tmp 17) (.const (Go.Value.int Go.IntKind.u32 128)) 53, 53), (.convert 53 5 (.tmp 19), 5), (.binOp .shr 53 (.tmp 2) (.const (Go.Value.int Go.IntKind.u64 21)) 102, 53), (.convert 53 5 (.tmp 23), 5), (.buildSlice 22 4 #[(0, .tmp 5), (1, .tmp 13), (2, .tmp 21), (3, .tmp 25)], 22), (.call ⟨.builtin .append, #[.tmp 0, .tmp 27], #[22, 22]⟩, 22)]) (b := [(4, 29), (55, 29), (54, 27), (53, 25), (52, 23), (51, 2), (50, 21), (49, 19), (48, 17), (47, 15), (46, 2), (45, 13), (44, 11), (43, 9), (42, 7), (41, 2), (40, 5), (39, 3), (38, 1), (37, 2), (36, 0)]) (by kernel_rfl) ?_
    refine OpK.and rfl rfl ?_
    refine OpK.or rfl rfl ?_
    refine OpK.convInt (k' := .u8) (by kernel_rfl) (by kernel_rfl) rfl ?_
    refine OpK.shr rfl rfl (by decide) ?_
    refine OpK.and rfl rfl ?_
    refine OpK.or rfl rfl ?_
    refine OpK.convInt (k' := .u8) (by kernel_rfl) (by kernel_rfl) rfl ?_
    refine OpK.shr rfl rfl (by decide) ?_
    refine OpK.and rfl rfl ?_
    refine OpK.or rfl rfl ?_
    refine OpK.convInt (k' := .u8) (by kernel_rfl) (by kernel_rfl) rfl ?_
    refine OpK.shr rfl rfl (by decide) ?_
    refine OpK.convInt (k' := .u8) (by kernel_rfl) (by kernel_rfl) rfl ?_
    refine OpK.buildS (by simp only [List.map_toArray, List.map_cons, List.map_nil]; exact run_bs4 (by kernel_rfl) u8 _ _ _ _) ?_
    refine OpK.run rfl hr ?_
    refine CWL.ret ?_
    exact ⟨_, rfl, hg⟩
  · skip
    have hk : uvLen n = 5 := by unfold uvLen; repeat' split <;> try omega
    have hc : (uvar n).map bv = [.int .u8 (IntKind.u8.wrap (bits .or .u32 (bits .and .u32 (n : Int) 127) 128)), .int .u8 (IntKind.u8.wrap (bits .or .u32 (bits .and .u32 ((n : Int) / 2 ^ min ((7 : Int).toNat) IntKind.u32.bits) 127) 128)), .int .u8 (IntKind.u8.wrap (bits .or .u32 (bits .and .u32 ((n : Int) / 2 ^ min ((14 : Int).toNat) IntKind.u32.bits) 127) 128)), .int .u8 (IntKind.u8.wrap (bits .or .u32 (bits .and .u32 ((n : Int) / 2 ^ min ((21 : Int).toNat) IntKind.u32.bits) 127) 128)), .int .u8 (IntKind.u8.wrap ((n : Int) / 2 ^ min ((28 : Int).toNat) IntKind.u32.bits))] := by
      rw [uv5 h hn]
      simp only [List.map_cons, List.map_nil]
      rw [← grpL n 28 (by omega), ← grp n 21 hn, ← grp n 14 hn, ← grp n 7 hn, ← grp0 n hn]
      rfl
    have hlen : (uvar n).length = 5 := by rw [uv5 h hn]; rfl
    rw [hc, hlen] at hr
    refine Calls.of_CW Tryz.func41 rfl (by decide +kernel) (Nat.le_of_ble_eq_true (by kernel_rfl)) (CW.of_flat ?_)
    simp only [flat, List.cons_append, List.nil_append, List.append_nil]
    refine CWL.reg (ops := [(.assign (.const (Go.Value.slice none 0 0)), 22)]) (b := [(4, 1)]) (by kernel_rfl) ?_
    refine OpK.assign ?_
    refine CWL.reg (ops := [(.call ⟨.value (.func 73), #[.tmp 2], #[53]⟩, 3)]) (b := [(6, 1), (5, 2)]) (by kernel_rfl) ?_
    refine OpK.asCall rfl call73 rfl ((c73 w n hn).mono ?_)
    rintro en w1 ⟨r1, he1, hr1, hw1⟩
    subst hw1
    rw [hk] at hr1
    subst hr1
    refine ⟨_, he1, ?_⟩
    refine CWL.block ?_
    simp only [flat, List.cons_append, List.nil_append, List.append_nil]
    refine CWL.reg (ops := [(.binOp .eql 3 (.tmp 12) (.const (Go.Value.int Go.IntKind.i64 5)) 3, 4)]) (b := [(7, 1), (8, 1)]) (by kernel_rfl) ?_
    refine OpK.cmp rfl rfl rfl ?_
    refine CWL.condT rfl ?_
    simp only [flat, List.cons_append, List.nil_append, List.append_nil]
    refine CWL.reg (ops := [(.binOp .and 53 (.tmp 2) (.const (Go.Value.int Go.IntKind.u32 127)) 53, 53), (.binOp .or 53 (.tmp 1) (.const (Go.Value.int Go.IntKind.u32 128)) 53, 53), (.convert 53 5 (.tmp 3), 5), (.binOp .shr 53 (.tmp 2) (.const (Go.Value.int Go.IntKind.u64 7)) 102, 53), (.binOp .and 53 (.tmp 7) (.const (Go.Value.int Go.IntKind.u32 127)) 53, 53), (.binOp .or 53 (.tmp 9) (.const (Go.Value.int Go.IntKind.u32 128)) 53, 53), (.convert 53 5 (.tmp 11), 5), (.binOp .shr 53 (.tmp 2) (.const (Go.Value.int Go.IntKind.u64 14)) 102, 53), (.binOp .and 53 (.tmp 15) (.const (Go.Value.int Go.IntKind.u32 127)) 53, 53), (.binOp .or 53 (.tmp 17) (.const (Go.Value.int Go.IntKind.u32 128)) 53, 53), (.convert 53 5 (.tmp 19), 5), (.binOp .shr 53 (.tmp 2) (.const (Go.Value.int Go.IntKind.u64 21)) 102, 53), (.binOp .and 53 (.tmp 23) (.const (Go.Value.int Go.IntKind.u32 127)) 53, 53), (.binOp .or 53 (.tmp 25) (.const (Go.Value.int Go.IntKind.u32 128)) 53, 53), (.convert 53 5 (.tmp 27), 5), (.binOp .shr 53 (.tmp 2) (.const (Go.Value.int Go.IntKind.u64 28)) 102, 53), (.convert 53 5 (.tmp 31), 5), (.buildSlice 22 5 #[(0, .tmp 5), (1, .tmp 13), (2, .tmp 21), (3, .tmp 29), (4, .tmp 33)], 22), (.call ⟨.builtin .append, #[.tmp 0, .tmp 35], #[22, 22]⟩, 22)]) (b := [(4, 37), (33, 37), (32, 35), (31, 33), (30, 31), (29, 2), (28, 29), (27, 27), (26, 25), (25, 23), (24, 2), (23, 21), (22, 19), (21, 17), (20, 15), (19, 2), (18, 13), (17, 11), (16, 9), (15, 7), (14, 2), (13, 5), (12, 3), (11, 1), (10, 2), (9, 0)]) (by kernel_rfl) ?_
    refine OpK.and rfl rfl ?_
    refine OpK.or rfl rfl ?_
    refine OpK.convInt (k' := .u8) (by kernel_rfl) (by kernel_rfl) rfl ?_
    refine OpK.shr rfl rfl (by decide) ?_
    refine OpK.and rfl rfl ?_
    refine OpK.or rfl rfl ?_
    refine OpK.convInt (k' := .u8) (by kernel_rfl) (by kernel_rfl) rfl ?_
    refine OpK.shr rfl rfl (by decide) ?_
    refine OpK.and rfl rfl ?_
    refine OpK.or rfl rfl ?_
    refine OpK.convInt (k' := .u8) (by kernel_rfl) (by kernel_rfl) rfl ?_
    refine OpK.shr rfl rfl (by decide) ?_
    refine OpK.and rfl rfl ?_
    refine OpK.or rfl rfl ?_
    refine OpK.convInt (k' := .u8) (by kernel_rfl) (by kernel_rfl) rfl ?_
    refine OpK.shr rfl rfl (by decide) ?_
    refine OpK.convInt (k' := .u8) (by kernel_rfl) (by kernel_rfl) rfl ?_
    refine OpK.buildS (by simp only [List.map_toArray, List.map_cons, List.map_nil]; exact run_bs5 (by kernel_rfl) u8 _ _ _ _ _) ?_
    refine OpK.run rfl hr ?_
    refine CWL.ret ?_
    exact ⟨_, rfl, hg⟩

theorem ok41 (full : Bool) : ApOk Tryz.prog 5 full 41 .uv := by
  intro w n d bs hn hd hl
  exact c41 w n _ rfl hn d bs hd hl

theorem call39 : Callable Tryz.prog 39 := ⟨Tryz.f39, Tryz.func39, by kernel_rfl, by kernel_rfl⟩
set_option maxHeartbeats 4000000 in
theorem c39 (w : World) (l : List UInt8) (d : Value) (bs : List UInt8) (hd : Own 5 w d bs) (hl : bs.length + (encStr false l).length ≤ Lim) : Calls Tryz.prog 39 #[d, strV l] w fun en w' => ∃ d', en = .returned d' ∧ Grew 5 w d w' d' (bs ++ encStr false l) := by
  unfold encStr at hl ⊢
  simp only [if_true, if_false, Bool.false_eq_true, List.length_append, be_length] at hl ⊢
  refine Calls.of_CW Tryz.func39 rfl (by decide +kernel) (Nat.le_of_ble_eq_true (by kernel_rfl)) (CW.of_flat ?_)
  simp only [flat, List.cons_append, List.nil_append, List.append_nil]
  refine CWL.reg (ops := [(.assign (.const (Go.Value.slice none 0 0)), 22)]) (b := [(4, 1)]) (by kernel_rfl) ?_
  refine OpK.assign ?_
  refine CWL.reg (ops := [(.call ⟨.builtin .len, #[.tmp 2], #[9]⟩, 3), (.convert 3 40 (.tmp 1), 40), (.call ⟨.value (.func 34), #[.tmp 0, .tmp 3], #[22, 40]⟩, 22)]) (b := [(0, 5), (9, 5), (8, 3), (7, 1), (6, 2), (5, 0)]) (by kernel_rfl) ?_
  refine OpK.lenStr (by kernel_rfl) rfl ?_
  refine OpK.convInt (k' := .i16) (by kernel_rfl) (by kernel_rfl) rfl ?_
  refine OpK.asCall rfl call34 rfl ((c34 w (IntKind.i16.wrap ((⟨l.toArray⟩ : ByteArray).size : Int)) d bs hd (by omega)).mono ?_)
  rintro en w1 ⟨d1, he1, hg1⟩
  refine ⟨d1, he1, ?_⟩
  rw [be2_i16, size_mk] at hg1
  obtain ⟨v2, w2, hr2, hg2⟩ := run_append_str (ty := 22) (t := 22) (u := 9) u8 und unds hg1.own (l := l) (by simp only [List.length_append, be_length]; omega)
  refine CWL.reg (ops := [(.call ⟨.builtin .append, #[.tmp 0, .tmp 2], #[22, 9]⟩, 22)]) (b := [(4, 1), (12, 1), (11, 2), (10, 0)]) (by kernel_rfl) ?_
  refine OpK.run rfl hr2 ?_
  refine CWL.ret ?_
  exact ⟨_, rfl, by rw [← List.append_assoc]; exact hg1.trans hg2⟩

set_option maxHeartbeats 4000000 in
theorem ok39 (full : Bool) : ApOk Tryz.prog 5 full 39 (.val false .str) := by
  intro w S v cs d bs hr hd hcl hl
  cases v <;> simp only [Rep, Wt.ty] at hr
  rename_i l
  subst hr
  exact c39 w l d bs hd hl

theorem call38 : Callable Tryz.prog 38 := ⟨Tryz.f38, Tryz.func38, by kernel_rfl, by kernel_rfl⟩
set_option maxHeartbeats 4000000 in
theorem c38 (w : World) (l : List UInt8) (d : Value) (bs : List UInt8) (hd : Own 5 w d bs) (hl : bs.length + (encStr true l).length ≤ Lim) : Calls Tryz.prog 38 #[d, strV l] w fun en w' => ∃ d', en = .returned d' ∧ Grew 5 w d w' d' (bs ++ encStr true l) := by
  unfold encStr at hl ⊢
  simp only [if_true, if_false, Bool.false_eq_true, List.length_append, be_length] at hl ⊢
  refine Calls.of_CW Tryz.func38 rfl (by decide +kernel) (Nat.le_of_ble_eq_true (by kernel_rfl)) (CW.of_flat ?_)
  simp only [flat, List.cons_append, List.nil_append, List.append_nil]
  refine CWL.reg (ops := [(.assign (.const (Go.Value.slice none 0 0)), 22)]) (b := [(4, 1)]) (by kernel_rfl) ?_
  refine OpK.assign ?_
  refine CWL.reg (ops := [(.call ⟨.builtin .len, #[.tmp 2], #[9]⟩, 3), (.convert 3 53 (.tmp 1), 53), (.binOp .add 53 (.const (Go.Value.int Go.IntKind.u32 1)) (.tmp 3) 53, 53), (.call ⟨.value (.func 41), #[.tmp 0, .tmp 5], #[22, 53]⟩, 22)]) (b := [(0, 7), (10, 7), (9, 5), (8, 3), (7, 1), (6, 2), (5, 0)]) (by kernel_rfl) ?_
  refine OpK.lenStr (by kernel_rfl) rfl ?_
  refine OpK.convInt (k' := .u32) (by kernel_rfl) (by kernel_rfl) rfl ?_
  refine OpK.arith rfl rfl rfl ?_
  refine OpK.asCall rfl call41 rfl ((c41 w (word (l.length + 1)) _ (by rw [size_mk]; exact word_succ _) (word_lt _) d bs hd (by omega)).mono ?_)
  rintro en w1 ⟨d1, he1, hg1⟩
  refine ⟨d1, he1, ?_⟩
  obtain ⟨v2, w2, hr2, hg2⟩ := run_append_str (ty := 22) (t := 22) (u := 9) u8 und unds hg1.own (l := l) (by simp only [List.length_append, be_length]; omega)
  refine CWL.reg (ops := [(.call ⟨.builtin .append, #[.tmp 0, .tmp 2], #[22, 9]⟩, 22)]) (b := [(4, 1), (13, 1), (12, 2), (11, 0)]) (by kernel_rfl) ?_
  refine OpK.run rfl hr2 ?_
  refine CWL.ret ?_
  exact ⟨_, rfl, by rw [← List.append_assoc]; exact hg1.trans hg2⟩

set_option maxHeartbeats 4000000 in
theorem ok38 (full : Bool) : ApOk Tryz.prog 5 full 38 (.val true .str) := by
  intro w S v cs d bs hr hd hcl hl
  cases v <;> simp only [Rep, Wt.ty] at hr
  rename_i l
  subst hr
  exact c38 w l d bs hd hl

theorem call36 : Callable Tryz.prog 36 := ⟨Tryz.f36, Tryz.func36, by kernel_rfl, by kernel_rfl⟩
set_option maxHeartbeats 4000000 in
theorem ok36 (full : Bool) : ApOk Tryz.prog 5 full 36 (.val false .nstr) := by
  intro w S v cs d bs hr hd hcl hl
  cases v <;> simp only [Rep, Wt.ty] at hr
  · skip
    subst hr
    refine Calls.of_CW Tryz.func36 rfl (by decide +kernel) (Nat.le_of_ble_eq_true (by kernel_rfl)) (CW.of_flat ?_)
    simp only [flat, List.cons_append, List.nil_append, List.append_nil]
    refine CWL.reg (ops := [(.assign (.const (Go.Value.slice none 0 0)), 22)]) (b := [(4, 1)]) (by kernel_rfl) ?_
    refine OpK.assign ?_
    refine CWL.reg (ops := [(.binOp .eql 75 (.tmp 2) (.const (Go.Value.pointer none)) 75, 4)]) (b := [(6, 1), (5, 2)]) (by kernel_rfl) ?_
    refine OpK.eqNilPtr (e := 9) (by kernel_rfl) rfl rfl ?_
    refine CWL.condT rfl ?_
    simp only [flat, List.cons_append, List.nil_append, List.append_nil]
    refine CWL.reg (ops := [(.call ⟨.value (.func 34), #[.tmp 0, .const (Go.Value.int Go.IntKind.i16 (-1))], #[22, 40]⟩, 22)]) (b := [(4, 1), (8, 1), (7, 0)]) (by kernel_rfl) ?_
    refine OpK.asCall rfl call34 rfl ((c34 w (-1) d bs hd hl).mono ?_)
    rintro en w1 ⟨d1, he1, hg1⟩
    refine ⟨d1, he1, ?_⟩
    refine CWL.ret ?_
    exact ⟨_, rfl, hg1⟩
  · skip
    rename_i l
    obtain ⟨g0, rfl, hS, hc0⟩ := hr
    refine Calls.of_CW Tryz.func36 rfl (by decide +kernel) (Nat.le_of_ble_eq_true (by kernel_rfl)) (CW.of_flat ?_)
    simp only [flat, List.cons_append, List.nil_append, List.append_nil]
    refine CWL.reg (ops := [(.assign (.const (Go.Value.slice none 0 0)), 22)]) (b := [(4, 1)]) (by kernel_rfl) ?_
    refine OpK.assign ?_
    refine CWL.reg (ops := [(.binOp .eql 75 (.tmp 2) (.const (Go.Value.pointer none)) 75, 4)]) (b := [(6, 1), (5, 2)]) (by kernel_rfl) ?_
    refine OpK.eqNilPtr (e := 9) (by kernel_rfl) rfl rfl ?_
    refine CWL.condF rfl ?_
    simp only [flat, List.cons_append, List.nil_append, List.append_nil]
    refine CWL.reg (ops := [(.nilCheck (.tmp 2), 0), (.load 9 (.tmp 1), 9), (.call ⟨.value (.func 39), #[.tmp 0, .tmp 3], #[22, 9]⟩, 22)]) (b := [(4, 5), (13, 5), (12, 3), (11, 1), (10, 2), (9, 0)]) (by kernel_rfl) ?_
    refine OpK.nilCheck rfl ?_
    refine OpK.load (by kernel_rfl) rfl hc0 ?_
    refine OpK.asCall rfl call39 rfl ((c39 w l d bs hd hl).mono ?_)
    rintro en w1 ⟨d1, he1, hg1⟩
    refine ⟨d1, he1, ?_⟩
    refine CWL.ret ?_
    exact ⟨_, rfl, hg1⟩

theorem call35 : Callable Tryz.prog 35 := ⟨Tryz.f35, Tryz.func35, by kernel_rfl, by kernel_rfl⟩
set_option maxHeartbeats 4000000 in
theorem ok35 (full : Bool) : ApOk Tryz.prog 5 full 35 (.val true .nstr) := by
  intro w S v cs d bs hr hd hcl hl
  cases v <;> simp only [Rep, Wt.ty] at hr
  · skip
    subst hr
    refine Calls.of_CW Tryz.func35 rfl (by decide +kernel) (Nat.le_of_ble_eq_true (by kernel_rfl)) (CW.of_flat ?_)
    simp only [flat, List.cons_append, List.nil_append, List.append_nil]
    refine CWL.reg (ops := [(.assign (.const (Go.Value.slice none 0 0)), 22)]) (b := [(4, 1)]) (by kernel_rfl) ?_
    refine OpK.assign ?_
    refine CWL.reg (ops := [(.binOp .eql 75 (.tmp 2) (.const (Go.Value.pointer none)) 75, 4)]) (b := [(6, 1), (5, 2)]) (by kernel_rfl) ?_
    refine OpK.eqNilPtr (e := 9) (by kernel_rfl) rfl rfl ?_
    refine CWL.condT rfl ?_
    simp only [flat, List.cons_append, List.nil_append, List.append_nil]
    refine CWL.reg (ops := [(.call ⟨.value (.func 41), #[.tmp 0, .const (Go.Value.int Go.IntKind.u32 0)], #[22, 53]⟩, 22)]) (b := [(4, 1), (8, 1), (7, 0)]) (by kernel_rfl) ?_
    refine OpK.asCall rfl call41 rfl ((c41 w 0 _ rfl (by decide) d bs hd hl).mono ?_)
    rintro en w1 ⟨d1, he1, hg1⟩
    refine ⟨d1, he1, ?_⟩
    refine CWL.ret ?_
    exact ⟨_, rfl, hg1⟩
  · skip
    rename_i l
    obtain ⟨g0, rfl, hS, hc0⟩ := hr
    refine Calls.of_CW Tryz.func35 rfl (by decide +kernel) (Nat.le_of_ble_eq_true (by kernel_rfl)) (CW.of_flat ?_)
    simp only [flat, List.cons_append, List.nil_append, List.append_nil]
    refine CWL.reg (ops := [(.assign (.const (Go.Value.slice none 0 0)), 22)]) (b := [(4, 1)]) (by kernel_rfl) ?_
    refine OpK.assign ?_
    refine CWL.reg (ops := [(.binOp .eql 75 (.tmp 2) (.const (Go.Value.pointer none)) 75, 4)]) (b := [(6, 1), (5, 2)]) (by kernel_rfl) ?_
    refine OpK.eqNilPtr (e := 9) (by kernel_rfl) rfl rfl ?_
    refine CWL.condF rfl ?_
    simp only [flat, List.cons_append, List.nil_append, List.append_nil]
    refine CWL.reg (ops := [(.nilCheck (.tmp 2), 0), (.load 9 (.tmp 1), 9), (.call ⟨.value (.func 38), #[.tmp 0, .tmp 3], #[22, 9]⟩, 22)]) (b := [(4, 5), (13, 5), (12, 3), (11, 1), (10, 2), (9, 0)]) (by kernel_rfl) ?_
    refine OpK.nilCheck rfl ?_
    refine OpK.load (by kernel_rfl) rfl hc0 ?_
    refine OpK.asCall rfl call38 rfl ((c38 w l d bs hd hl).mono ?_)
    rintro en w1 ⟨d1, he1, hg1⟩
    refine ⟨d1, he1, ?_⟩
    refine CWL.ret ?_
    exact ⟨_, rfl, hg1⟩

theorem call33 : Callable Tryz.prog 33 := ⟨Tryz.f33, Tryz.func33, by kernel_rfl, by kernel_rfl⟩
set_option maxHeartbeats 4000000 in
theorem ok33 (full : Bool) : ApOk Tryz.prog 5 full 33 (.len false) := by
  intro w n d bs hd hl
  refine Calls.of_CW Tryz.func33 rfl (by decide +kernel) (Nat.le_of_ble_eq_true (by kernel_rfl)) (CW.of_flat ?_)
  simp only [flat, List.cons_append, List.nil_append, List.append_nil]
  refine CWL.reg (ops := [(.assign (.const (Go.Value.slice none 0 0)), 22)]) (b := [(4, 1)]) (by kernel_rfl) ?_
  refine OpK.assign ?_
  refine CWL.reg (ops := [(.convert 3 21 (.tmp 2), 21), (.call ⟨.value (.func 31), #[.tmp 0, .tmp 1], #[22, 21]⟩, 22)]) (b := [(4, 3), (8, 3), (7, 1), (6, 2), (5, 0)]) (by kernel_rfl) ?_
  refine OpK.convInt (k' := .i32) (by kernel_rfl) (by kernel_rfl) rfl ?_
  refine OpK.asCall rfl call31 rfl ((c31 w (IntKind.i32.wrap (n : Int)) d bs hd hl).mono ?_)
  rintro en w1 ⟨d1, he1, hg1⟩
  refine ⟨d1, he1, ?_⟩
  rw [be4_i32] at hg1
  refine CWL.ret ?_
  exact ⟨_, rfl, hg1⟩

theorem call32 : Callable Tryz.prog 32 := ⟨Tryz.f32, Tryz.func32, by kernel_rfl, by kernel_rfl⟩
set_option maxHeartbeats 4000000 in
theorem ok32 (full : Bool) : ApOk Tryz.prog 5 full 32 (.len true) := by
  intro w n d bs hd hl
  refine Calls.of_CW Tryz.func32 rfl (by decide +kernel) (Nat.le_of_ble_eq_true (by kernel_rfl)) (CW.of_flat ?_)
  simp only [flat, List.cons_append, List.nil_append, List.append_nil]
  refine CWL.reg (ops := [(.assign (.const (Go.Value.slice none 0 0)), 22)]) (b := [(4, 1)]) (by kernel_rfl) ?_
  refine OpK.assign ?_
  refine CWL.reg (ops := [(.convert 3 53 (.tmp 2), 53), (.binOp .add 53 (.const (Go.Value.int Go.IntKind.u32 1)) (.tmp 1) 53, 53), (.call ⟨.value (.func 41), #[.tmp 0, .tmp 3], #[22, 53]⟩, 22)]) (b := [(4, 5), (9, 5), (8, 3), (7, 1), (6, 2), (5, 0)]) (by kernel_rfl) ?_
  refine OpK.convInt (k' := .u32) (by kernel_rfl) (by kernel_rfl) rfl ?_
  refine OpK.arith rfl rfl rfl ?_
  refine OpK.asCall rfl call41 rfl ((c41 w (word (n + 1)) _ (word_succ _) (word_lt _) d bs hd hl).mono ?_)
  rintro en w1 ⟨d1, he1, hg1⟩
  refine ⟨d1, he1, ?_⟩
  refine CWL.ret ?_
  exact ⟨_, rfl, hg1⟩

theorem call42 : Callable Tryz.prog 42 := ⟨Tryz.f42, Tryz.func42, by kernel_rfl, by kernel_rfl⟩
theorem undm : Tryz.prog.underlying 58 = some (.map 53 22) := by kernel_rfl
set_option maxHeartbeats 4000000 in
theorem ok42 (full : Bool) : ApOk Tryz.prog 5 full 42 .tlen := by
  intro w S g o v hf0 hi
  obtain ⟨cs, hr, ha⟩ := hi
  cases v <;> simp only [Rep] at hr
  rename_i l
  have key : Calls Tryz.prog 42 #[.pointer (some ⟨g, o, none⟩)] w fun en w' => ∃ r, en = .returned r ∧ r = .int .i64 ((V.tags l).tagsOf.length : Int) ∧ w' = w := by
    rcases hr with ⟨rfl, rfl⟩ | ⟨r, es, clk, rfl, hS, hm, hnd, h2⟩
    · skip
      refine Calls.of_CW Tryz.func42 rfl (by decide +kernel) (Nat.le_of_ble_eq_true (by kernel_rfl)) (CW.of_flat ?_)
      simp only [flat, List.cons_append, List.nil_append, List.append_nil]
      refine CWL.reg (ops := [(.assign (.const (Go.Value.int Go.IntKind.i64 0)), 3)]) (b := [(2, 1)]) (by kernel_rfl) ?_
      refine OpK.assign ?_
      refine CWL.reg (ops := [(.nilCheck (.tmp 0), 0), (.fieldAddr 60 (.tmp 1) 0, 0), (.load 58 (.tmp 3), 58), (.call ⟨.builtin .len, #[.tmp 5], #[58]⟩, 3)]) (b := [(2, 7), (7, 7), (6, 5), (5, 3), (4, 1), (3, 0)]) (by kernel_rfl) ?_
      refine OpK.nilCheck rfl ?_
      refine OpK.fieldAddr (off := 0) (by kernel_rfl) rfl ?_
      refine OpK.load (by kernel_rfl) rfl (ha 0 _ rfl) ?_
      refine OpK.lenMap0 undm rfl ?_
      refine CWL.ret ?_
      exact ⟨_, rfl, rfl, rfl⟩
    · skip
      refine Calls.of_CW Tryz.func42 rfl (by decide +kernel) (Nat.le_of_ble_eq_true (by kernel_rfl)) (CW.of_flat ?_)
      simp only [flat, List.cons_append, List.nil_append, List.append_nil]
      refine CWL.reg (ops := [(.assign (.const (Go.Value.int Go.IntKind.i64 0)), 3)]) (b := [(2, 1)]) (by kernel_rfl) ?_
      refine OpK.assign ?_
      refine CWL.reg (ops := [(.nilCheck (.tmp 0), 0), (.fieldAddr 60 (.tmp 1) 0, 0), (.load 58 (.tmp 3), 58), (.call ⟨.builtin .len, #[.tmp 5], #[58]⟩, 3)]) (b := [(2, 7), (7, 7), (6, 5), (5, 3), (4, 1), (3, 0)]) (by kernel_rfl) ?_
      refine OpK.nilCheck rfl ?_
      refine OpK.fieldAddr (off := 0) (by kernel_rfl) rfl ?_
      refine OpK.load (by kernel_rfl) rfl (ha 0 _ rfl) ?_
      refine OpK.lenMap undm rfl hm ?_
      refine CWL.ret ?_
      exact ⟨_, rfl, congrArg (fun n : Nat => Value.int .i64 (n : Int)) (show es.size = l.length by rw [← h2.len]; simp), rfl⟩
  exact key.mono fun en w' ⟨r, h1, h2, h3⟩ => ⟨by rw [h1, h2], h3⟩

theorem call74 : Callable Tryz.prog 74 := ⟨Tryz.f74, Tryz.func74, by kernel_rfl, by kernel_rfl⟩
set_option maxHeartbeats 4000000 in
theorem each0 (w : World) (g o : Nat) (m fv : Value) (hc : w.cell? ⟨g, o + 0, none⟩ = some m) (hm : m = .map none ∨ ∃ r clk, m = .map (some r) ∧ w.heap[r]? = some (.map #[] clk)) : Calls Tryz.prog 74 #[.pointer (some ⟨g, o, none⟩), fv] w fun en w' => ∃ r, en = .returned r ∧ w' = w := by
  rcases hm with rfl | ⟨r, clk, rfl, hm⟩
  · skip
    refine Calls.of_CW Tryz.func74 rfl (by decide +kernel) (Nat.le_of_ble_eq_true (by kernel_rfl)) (CW.of_flat ?_)
    simp only [flat, List.cons_append, List.nil_append, List.append_nil]
    refine CWL.reg (ops := [(.nilCheck (.tmp 0), 0), (.fieldAddr 60 (.tmp 1) 0, 0), (.load 58 (.tmp 3), 58), (.call ⟨.builtin .len, #[.tmp 5], #[58]⟩, 3), (.binOp .eql 3 (.tmp 7) (.const (Go.Value.int Go.IntKind.i64 0)) 3, 4)]) (b := [(13, 9), (12, 7), (11, 5), (10, 3), (9, 1), (8, 0)]) (by kernel_rfl) ?_
    refine OpK.nilCheck rfl ?_
    refine OpK.fieldAddr (off := 0) (by kernel_rfl) rfl ?_
    refine OpK.load (by kernel_rfl) rfl hc ?_
    refine OpK.lenMap0 undm rfl ?_
    refine OpK.cmp rfl rfl rfl ?_
    refine CWL.condT rfl ?_
    simp only [flat, List.cons_append, List.nil_append, List.append_nil]
    refine CWL.ret ?_
    exact ⟨_, rfl, rfl⟩
  · skip
    refine Calls.of_CW Tryz.func74 rfl (by decide +kernel) (Nat.le_of_ble_eq_true (by kernel_rfl)) (CW.of_flat ?_)
    simp only [flat, List.cons_append, List.nil_append, List.append_nil]
    refine CWL.reg (ops := [(.nilCheck (.tmp 0), 0), (.fieldAddr 60 (.tmp 1) 0, 0), (.load 58 (.tmp 3), 58), (.call ⟨.builtin .len, #[.tmp 5], #[58]⟩, 3), (.binOp .eql 3 (.tmp 7) (.const (Go.Value.int Go.IntKind.i64 0)) 3, 4)]) (b := [(13, 9), (12, 7), (11, 5), (10, 3), (9, 1), (8, 0)]) (by kernel_rfl) ?_
    refine OpK.nilCheck rfl ?_
    refine OpK.fieldAddr (off := 0) (by kernel_rfl) rfl ?_
    refine OpK.load (by kernel_rfl) rfl hc ?_
    refine OpK.lenMap undm rfl hm ?_
    refine OpK.cmp rfl rfl rfl ?_
    refine CWL.condT rfl ?_
    simp only [flat, List.cons_append, List.nil_append, List.append_nil]
    refine CWL.ret ?_
    exact ⟨_, rfl, rfl⟩
theorem call43 : Callable Tryz.prog 43 := ⟨Tryz.f43, Tryz.func43, by kernel_rfl, by kernel_rfl⟩

set_option maxHeartbeats 4000000 in
theorem ok430 : ApOk Tryz.prog 5 false 43 .teach := by
  intro w S g o v d bs hf hi hS hd hcl hl
  obtain ⟨cs, hr, ha⟩ := hi
  cases v <;> simp only [Rep] at hr
  rename_i l
  have hl0 : l = [] := by rcases hf with h | h; cases h; exact h
  subst hl0
  have hm : ∃ m, cs = [m] ∧ (m = .map none ∨ ∃ r clk, m = .map (some r) ∧ w.heap[r]? = some (.map #[] clk) ∧ r < w.heap.size) := by
    rcases hr with ⟨rfl, _⟩ | ⟨r, es, clk, rfl, hSr, hm, _, h2⟩
    · exact ⟨_, rfl, .inl rfl⟩
    · refine ⟨_, rfl, .inr ⟨r, clk, rfl, ?_, (hcl r hSr).1⟩⟩
      have : es = #[] := by apply Array.ext'; have := h2.len; simpa using this
      rw [hm, this]
  obtain ⟨m, rfl, hm⟩ := hm
  have hc0 := ha 0 m rfl
  obtain ⟨ad, cp, rfl⟩ : ∃ ad cp, d = .slice ad bs.length cp := by obtain ⟨a, c, h, _⟩ := hd.len; exact ⟨a, c, h⟩
  refine Calls.of_CW Tryz.func43 rfl (by decide +kernel) (Nat.le_of_ble_eq_true (by kernel_rfl)) (CW.of_flat ?_)
  simp only [flat, List.cons_append, List.nil_append, List.append_nil]
  refine CWL.reg (ops := [(.box 22 (.tmp 2), 0), (.assign (.const (Go.Value.slice none 0 0)), 22)]) (b := [(4, 3), (3, 1)]) (by kernel_rfl) ?_
  refine OpK.box ?_
  refine OpK.assign ?_
  refine CWL.reg (ops := [(.makeFunc (.func 75) #[] #[.tmp 6], 118), (.call ⟨.value (.func 74), #[.tmp 0, .tmp 1], #[116, 118]⟩, 0)]) (b := [(7, 3), (6, 1), (5, 0)]) (by kernel_rfl) ?_
  refine OpK.makeFunc ?_
  refine OpK.asCall rfl call74 rfl ((each0 _ g o m _ ((cell_old w _ (hcl g hS).1).trans hc0) (by rcases hm with rfl | ⟨r, clk, rfl, h1, h2⟩; exact .inl rfl; exact .inr ⟨r, clk, rfl, (alloc_old w _ r h2).trans h1⟩)).mono ?_)
  rintro en w1 ⟨r1, he1, rfl⟩
  refine ⟨_, he1, ?_⟩
  refine CWL.reg (ops := [(.load 22 (.tmp 6), 22)]) (b := [(4, 1), (8, 1)]) (by kernel_rfl) ?_
  refine OpK.load (by kernel_rfl) rfl (cell_new w _ _) ?_
  refine CWL.ret ?_
  exact ⟨_, rfl, by rw [show encEach (V.tags []).tagsOf = [] from rfl, List.append_nil]; exact (Grew.refl hd).alloc _⟩

def tab : List (Nat × Ap) := [(40, .val false .bool), (37, .val false .i8), (34, .val false .i16), (72, .val false .u16), (31, .val false .i32), (39, .val false .str), (38, .val true .str), (36, .val false .nstr), (35, .val true .nstr), (33, .len false), (32, .len true), (41, .uv), (42, .tlen), (43, .teach)]
theorem sound0 : Sound Tryz.prog 5 false tab := Sound.of_all u8 (all_cons ⟨call40, ok40 false⟩ (all_cons ⟨call37, ok37 false⟩ (all_cons ⟨call34, ok34 false⟩ (all_cons ⟨call72, ok72 false⟩ (all_cons ⟨call31, ok31 false⟩ (all_cons ⟨call39, ok39 false⟩ (all_cons ⟨call38, ok38 false⟩ (all_cons ⟨call36, ok36 false⟩ (all_cons ⟨call35, ok35 false⟩ (all_cons ⟨call33, ok33 false⟩ (all_cons ⟨call32, ok32 false⟩ (all_cons ⟨call41, ok41 false⟩ (all_cons ⟨call42, ok42 false⟩ (all_cons ⟨call43, ok430⟩ all_nil))))))))))))))
end Go.Proofs.YthcpchmmpnakaaaGreatDoor.Snd
