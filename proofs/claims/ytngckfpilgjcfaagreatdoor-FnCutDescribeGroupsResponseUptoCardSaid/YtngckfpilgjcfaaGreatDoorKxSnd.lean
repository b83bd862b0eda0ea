/- What the functions of the package that write a value, or a count, do: each writes the octets that the plain functions say, behind the slice that it is given. -/
import Derived.Test.YtngckfpilgjcfaaGreatDoorKxDraw
import Derived.Test.YtngckfpilgjcfaaGreatDoorKxAgain2
import Derived.Test.YtngckfpilgjcfaaGreatDoorProg
namespace Go.Proofs.YtngckfpilgjcfaaGreatDoor.Snd
open Go.Kx Go.RowKit Go.Proofs
set_option maxRecDepth 100000
set_option linter.unusedSimpArgs false
set_option linter.unusedVariables false

theorem u8 : U8 Tryz.prog 5 := by unfold U8; kernel_rfl
theorem und : Tryz.prog.underlying 22 = some (.slice 5) := by kernel_rfl
theorem unds : Tryz.prog.underlying 9 = some .string := by kernel_rfl

theorem call151 : Callable Tryz.prog 151 := ⟨Tryz.f151, Tryz.func151, by kernel_rfl, by kernel_rfl⟩
set_option maxHeartbeats 4000000 in
theorem c151 (w : World) (n : Int) (d : Value) (bs : List UInt8) (hd : Own 5 w d bs) (hl : bs.length + 1 ≤ Lim) : Calls Tryz.prog 151 #[d, .int .i8 n] w fun en w' => ∃ d', en = .returned d' ∧ Grew 5 w d w' d' (bs ++ be 1 n) := by
  obtain ⟨v', w', hr, hg⟩ := append_lit (ty := 22) und u8 hd (be 1 n) (by rw [be_length]; exact hl)
  have hc : ((be 1 n).map bv) = [.int .u8 (IntKind.u8.wrap n)] := by
    simp only [be, List.map_cons, List.map_nil]
    rw [← oct_low n]
  rw [hc, be_length] at hr
  refine Calls.of_CW Tryz.func151 rfl (by decide +kernel) (Nat.le_of_ble_eq_true (by kernel_rfl)) (CW.of_flat ?_)
  simp only [flat, List.cons_append, List.nil_append, List.append_nil]
  refine CWL.reg (ops := [(.assign (.const (Go.Value.slice none 0 0)), 22)]) (b := [(4, 1)]) (by kernel_rfl) ?_
  refine OpK.assign ?_
  refine CWL.reg (ops := [(.convert 153 5 (.tmp 2), 5), (.buildSlice 22 1 #[(0, .tmp 1)], 22), (.call ⟨.builtin .append, #[.tmp 0, .tmp 3], #[22, 22]⟩, 22)]) (b := [(4, 5), (9, 5), (8, 3), (7, 1), (6, 2), (5, 0)]) (by kernel_rfl) ?_
  refine OpK.convInt (k' := .u8) (by kernel_rfl) (by kernel_rfl) rfl ?_
  refine OpK.buildS (by simp only [List.map_toArray, List.map_cons, List.map_nil]; exact run_bs1 (by kernel_rfl) u8 _) ?_
  refine OpK.run rfl hr ?_
  refine CWL.cons (CW.ret ?_)
  exact ⟨_, rfl, hg⟩

theorem call193 : Callable Tryz.prog 193 := ⟨Tryz.f193, Tryz.func193, by kernel_rfl, by kernel_rfl⟩
set_option maxHeartbeats 4000000 in
theorem c193 (w : World) (n : Int) (d : Value) (bs : List UInt8) (hd : Own 5 w d bs) (hl : bs.length + 2 ≤ Lim) : Calls Tryz.prog 193 #[d, .int .u16 n] w fun en w' => ∃ d', en = .returned d' ∧ Grew 5 w d w' d' (bs ++ be 2 n) := by
  obtain ⟨v', w', hr, hg⟩ := append_lit (ty := 22) und u8 hd (be 2 n) (by rw [be_length]; exact hl)
  have hc : ((be 2 n).map bv) = [.int .u8 (IntKind.u8.wrap (n / 2 ^ min ((8 : Int).toNat) IntKind.u16.bits)), .int .u8 (IntKind.u8.wrap n)] := by
    simp only [be, List.map_cons, List.map_nil]
    rw [← oct_shr n 1 8 rfl, ← oct_low n]
    rfl
  rw [hc, be_length] at hr
  refine Calls.of_CW Tryz.func193 rfl (by decide +kernel) (Nat.le_of_ble_eq_true (by kernel_rfl)) (CW.of_flat ?_)
  simp only [flat, List.cons_append, List.nil_append, List.append_nil]
  refine CWL.reg (ops := [(.assign (.const (Go.Value.slice none 0 0)), 22)]) (b := [(4, 1)]) (by kernel_rfl) ?_
  refine OpK.assign ?_
  refine CWL.reg (ops := [(.binOp .shr 27 (.tmp 2) (.const (Go.Value.int Go.IntKind.u64 8)) 200, 27), (.convert 27 5 (.tmp 1), 5), (.convert 27 5 (.tmp 2), 5), (.buildSlice 22 2 #[(0, .tmp 3), (1, .tmp 5)], 22), (.call ⟨.builtin .append, #[.tmp 0, .tmp 7], #[22, 22]⟩, 22)]) (b := [(4, 9), (12, 9), (11, 7), (10, 5), (9, 2), (8, 3), (7, 1), (6, 2), (5, 0)]) (by kernel_rfl) ?_
  refine OpK.shr rfl rfl (by decide) ?_
  refine OpK.convInt (k' := .u8) (by kernel_rfl) (by kernel_rfl) rfl ?_
  refine OpK.convInt (k' := .u8) (by kernel_rfl) (by kernel_rfl) rfl ?_
  refine OpK.buildS (by simp only [List.map_toArray, List.map_cons, List.map_nil]; exact run_bs2 (by kernel_rfl) u8 _ _) ?_
  refine OpK.run rfl hr ?_
  refine CWL.cons (CW.ret ?_)
  exact ⟨_, rfl, hg⟩

theorem call186 : Callable Tryz.prog 186 := ⟨Tryz.f186, Tryz.func186, by kernel_rfl, by kernel_rfl⟩
set_option maxHeartbeats 4000000 in
theorem c186 (w : World) (n : Int) (d : Value) (bs : List UInt8) (hd : Own 5 w d bs) (hl : bs.length + 4 ≤ Lim) : Calls Tryz.prog 186 #[d, .int .u32 n] w fun en w' => ∃ d', en = .returned d' ∧ Grew 5 w d w' d' (bs ++ be 4 n) := by
  obtain ⟨v', w', hr, hg⟩ := append_lit (ty := 22) und u8 hd (be 4 n) (by rw [be_length]; exact hl)
  have hc : ((be 4 n).map bv) = [.int .u8 (IntKind.u8.wrap (n / 2 ^ min ((24 : Int).toNat) IntKind.u32.bits)), .int .u8 (IntKind.u8.wrap (n / 2 ^ min ((16 : Int).toNat) IntKind.u32.bits)), .int .u8 (IntKind.u8.wrap (n / 2 ^ min ((8 : Int).toNat) IntKind.u32.bits)), .int .u8 (IntKind.u8.wrap n)] := by
    simp only [be, List.map_cons, List.map_nil]
    rw [← oct_shr n 3 24 rfl, ← oct_shr n 2 16 rfl, ← oct_shr n 1 8 rfl, ← oct_low n]
    rfl
  rw [hc, be_length] at hr
  refine Calls.of_CW Tryz.func186 rfl (by decide +kernel) (Nat.le_of_ble_eq_true (by kernel_rfl)) (CW.of_flat ?_)
  simp only [flat, List.cons_append, List.nil_append, List.append_nil]
  refine CWL.reg (ops := [(.assign (.const (Go.Value.slice none 0 0)), 22)]) (b := [(4, 1)]) (by kernel_rfl) ?_
  refine OpK.assign ?_
  refine CWL.reg (ops := [(.binOp .shr 71 (.tmp 2) (.const (Go.Value.int Go.IntKind.u64 24)) 200, 71), (.convert 71 5 (.tmp 1), 5), (.binOp .shr 71 (.tmp 2) (.const (Go.Value.int Go.IntKind.u64 16)) 200, 71), (.convert 71 5 (.tmp 5), 5), (.binOp .shr 71 (.tmp 2) (.const (Go.Value.int Go.IntKind.u64 8)) 200, 71), (.convert 71 5 (.tmp 9), 5), (.convert 71 5 (.tmp 2), 5), (.buildSlice 22 4 #[(0, .tmp 3), (1, .tmp 7), (2, .tmp 11), (3, .tmp 13)], 22), (.call ⟨.builtin .append, #[.tmp 0, .tmp 15], #[22, 22]⟩, 22)]) (b := [(4, 17), (18, 17), (17, 15), (16, 13), (15, 2), (14, 11), (13, 9), (12, 2), (11, 7), (10, 5), (9, 2), (8, 3), (7, 1), (6, 2), (5, 0)]) (by kernel_rfl) ?_
  refine OpK.shr rfl rfl (by decide) ?_
  refine OpK.convInt (k' := .u8) (by kernel_rfl) (by kernel_rfl) rfl ?_
  refine OpK.shr rfl rfl (by decide) ?_
  refine OpK.convInt (k' := .u8) (by kernel_rfl) (by kernel_rfl) rfl ?_
  refine OpK.shr rfl rfl (by decide) ?_
  refine OpK.convInt (k' := .u8) (by kernel_rfl) (by kernel_rfl) rfl ?_
  refine OpK.convInt (k' := .u8) (by kernel_rfl) (by kernel_rfl) rfl ?_
  refine OpK.buildS (by simp only [List.map_toArray, List.map_cons, List.map_nil]; exact run_bs4 (by kernel_rfl) u8 _ _ _ _) ?_
  refine OpK.run rfl hr ?_
  refine CWL.cons (CW.ret ?_)
  exact ⟨_, rfl, hg⟩

theorem call198 : Callable Tryz.prog 198 := ⟨Tryz.f198, Tryz.func198, by kernel_rfl, by kernel_rfl⟩
set_option maxHeartbeats 4000000 in
theorem c198 (w : World) (n : Int) (d : Value) (bs : List UInt8) (hd : Own 5 w d bs) (hl : bs.length + 8 ≤ Lim) : Calls Tryz.prog 198 #[d, .int .u64 n] w fun en w' => ∃ d', en = .returned d' ∧ Grew 5 w d w' d' (bs ++ be 8 n) := by
  obtain ⟨v', w', hr, hg⟩ := append_lit (ty := 22) und u8 hd (be 8 n) (by rw [be_length]; exact hl)
  have hc : ((be 8 n).map bv) = [.int .u8 (IntKind.u8.wrap (n / 2 ^ min ((56 : Int).toNat) IntKind.u64.bits)), .int .u8 (IntKind.u8.wrap (n / 2 ^ min ((48 : Int).toNat) IntKind.u64.bits)), .int .u8 (IntKind.u8.wrap (n / 2 ^ min ((40 : Int).toNat) IntKind.u64.bits)), .int .u8 (IntKind.u8.wrap (n / 2 ^ min ((32 : Int).toNat) IntKind.u64.bits)), .int .u8 (IntKind.u8.wrap (n / 2 ^ min ((24 : Int).toNat) IntKind.u64.bits)), .int .u8 (IntKind.u8.wrap (n / 2 ^ min ((16 : Int).toNat) IntKind.u64.bits)), .int .u8 (IntKind.u8.wrap (n / 2 ^ min ((8 : Int).toNat) IntKind.u64.bits)), .int .u8 (IntKind.u8.wrap n)] := by
    simp only [be, List.map_cons, List.map_nil]
    rw [← oct_shr n 7 56 rfl, ← oct_shr n 6 48 rfl, ← oct_shr n 5 40 rfl, ← oct_shr n 4 32 rfl, ← oct_shr n 3 24 rfl, ← oct_shr n 2 16 rfl, ← oct_shr n 1 8 rfl, ← oct_low n]
    rfl
  rw [hc, be_length] at hr
  refine Calls.of_CW Tryz.func198 rfl (by decide +kernel) (Nat.le_of_ble_eq_true (by kernel_rfl)) (CW.of_flat ?_)
  simp only [flat, List.cons_append, List.nil_append, List.append_nil]
  refine CWL.reg (ops := [(.assign (.const (Go.Value.slice none 0 0)), 22)]) (b := [(4, 1)]) (by kernel_rfl) ?_
  refine OpK.assign ?_
  refine CWL.reg (ops := [(.binOp .shr 87 (.tmp 2) (.const (Go.Value.int Go.IntKind.u64 56)) 200, 87), (.convert 87 5 (.tmp 1), 5), (.binOp .shr 87 (.tmp 2) (.const (Go.Value.int Go.IntKind.u64 48)) 200, 87), (.convert 87 5 (.tmp 5), 5), (.binOp .shr 87 (.tmp 2) (.const (Go.Value.int Go.IntKind.u64 40)) 200, 87), (.convert 87 5 (.tmp 9), 5), (.binOp .shr 87 (.tmp 2) (.const (Go.Value.int Go.IntKind.u64 32)) 200, 87), (.convert 87 5 (.tmp 13), 5), (.binOp .shr 87 (.tmp 2) (.const (Go.Value.int Go.IntKind.u64 24)) 200, 87), (.convert 87 5 (.tmp 17), 5), (.binOp .shr 87 (.tmp 2) (.const (Go.Value.int Go.IntKind.u64 16)) 200, 87), (.convert 87 5 (.tmp 21), 5), (.binOp .shr 87 (.tmp 2) (.const (Go.Value.int Go.IntKind.u64 8)) 200, 87), (.convert 87 5 (.tmp 25), 5), (.convert 87 5 (.tmp 2), 5), (.buildSlice 22 8 #[(0, .tmp 3), (1, .tmp 7), (2, .tmp 11), (3, .tmp 15), (4, .tmp 19), (5, .tmp 23), (6, .tmp 27), (7, .tmp 29)], 22), (.call ⟨.builtin .append, #[.tmp 0, .tmp 31], #[22, 22]⟩, 22)]) (b := [(4, 33), (30, 33), (29, 31), (28, 29), (27, 2), (26, 27), (25, 25), (24, 2), (23, 23), (22, 21), (21, 2), (20, 19), (19, 17), (18, 2), (17, 15), (16, 13), (15, 2), (14, 11), (13, 9), (12, 2), (11, 7), (10, 5), (9, 2), (8, 3), (7, 1), (6, 2), (5, 0)]) (by kernel_rfl) ?_
  refine OpK.shr rfl rfl (by decide) ?_
  refine OpK.convInt (k' := .u8) (by kernel_rfl) (by kernel_rfl) rfl ?_
  refine OpK.shr rfl rfl (by decide) ?_
  refine OpK.convInt (k' := .u8) (by kernel_rfl) (by kernel_rfl) rfl ?_
  refine OpK.shr rfl rfl (by decide) ?_
  refine OpK.convInt (k' := .u8) (by kernel_rfl) (by kernel_rfl) rfl ?_
  refine OpK.shr rfl rfl (by decide) ?_
  refine OpK.convInt (k' := .u8) (by kernel_rfl) (by kernel_rfl) rfl ?_
  refine OpK.shr rfl rfl (by decide) ?_
  refine OpK.convInt (k' := .u8) (by kernel_rfl) (by kernel_rfl) rfl ?_
  refine OpK.shr rfl rfl (by decide) ?_
  refine OpK.convInt (k' := .u8) (by kernel_rfl) (by kernel_rfl) rfl ?_
  refine OpK.shr rfl rfl (by decide) ?_
  refine OpK.convInt (k' := .u8) (by kernel_rfl) (by kernel_rfl) rfl ?_
  refine OpK.convInt (k' := .u8) (by kernel_rfl) (by kernel_rfl) rfl ?_
  refine OpK.buildS (by simp only [List.map_toArray, List.map_cons, List.map_nil]; exact run_bs8 (by kernel_rfl) u8 _ _ _ _ _ _ _ _) ?_
  refine OpK.run rfl hr ?_
  refine CWL.cons (CW.ret ?_)
  exact ⟨_, rfl, hg⟩

theorem call150 : Callable Tryz.prog 150 := ⟨Tryz.f150, Tryz.func150, by kernel_rfl, by kernel_rfl⟩
set_option maxHeartbeats 4000000 in
theorem ok150 (full : Bool) : ApOk Tryz.prog 5 full 150 (.val false .bool) := by
  intro w S v cs d bs hr hd hcl hl
  cases v <;> simp only [Rep, Wt.ty] at hr
  rename_i b
  subst hr
  obtain ⟨v', w', hr, hg⟩ := append_lit (ty := 22) und u8 hd [if b then 1 else 0] hl
  cases b
  · skip
    refine Calls.of_CW Tryz.func150 rfl (by decide +kernel) (Nat.le_of_ble_eq_true (by kernel_rfl)) (CW.of_flat ?_)
    simp only [flat, List.cons_append, List.nil_append, List.append_nil]
    refine CWL.reg (ops := [(.assign (.const (Go.Value.slice none 0 0)), 22)]) (b := [(4, 1)]) (by kernel_rfl) ?_
    refine OpK.assign ?_
    refine CWL.reg (ops := []) (b := [(5, 2)]) (by kernel_rfl) ?_
    refine CWL.condF rfl ?_
    simp only [flat, List.cons_append, List.nil_append, List.append_nil]
    refine CWL.reg (ops := [(.buildSlice 22 1 #[(0, .const (Go.Value.int Go.IntKind.u8 0))], 22), (.call ⟨.builtin .append, #[.tmp 0, .tmp 1], #[22, 22]⟩, 22)]) (b := [(4, 3), (11, 3), (10, 1), (9, 0)]) (by kernel_rfl) ?_
    refine OpK.buildS (by simp only [List.map_toArray, List.map_cons, List.map_nil]; exact run_bs1 (by kernel_rfl) u8 _) ?_
    refine OpK.run rfl hr ?_
    refine CWL.ret ?_
    exact ⟨_, rfl, hg⟩
  · skip
    refine Calls.of_CW Tryz.func150 rfl (by decide +kernel) (Nat.le_of_ble_eq_true (by kernel_rfl)) (CW.of_flat ?_)
    simp only [flat, List.cons_append, List.nil_append, List.append_nil]
    refine CWL.reg (ops := [(.assign (.const (Go.Value.slice none 0 0)), 22)]) (b := [(4, 1)]) (by kernel_rfl) ?_
    refine OpK.assign ?_
    refine CWL.reg (ops := []) (b := [(5, 2)]) (by kernel_rfl) ?_
    refine CWL.condT rfl ?_
    simp only [flat, List.cons_append, List.nil_append, List.append_nil]
    refine CWL.reg (ops := [(.buildSlice 22 1 #[(0, .const (Go.Value.int Go.IntKind.u8 1))], 22), (.call ⟨.builtin .append, #[.tmp 0, .tmp 1], #[22, 22]⟩, 22)]) (b := [(4, 3), (8, 3), (7, 1), (6, 0)]) (by kernel_rfl) ?_
    refine OpK.buildS (by simp only [List.map_toArray, List.map_cons, List.map_nil]; exact run_bs1 (by kernel_rfl) u8 _) ?_
    refine OpK.run rfl hr ?_
    refine CWL.ret ?_
    exact ⟨_, rfl, hg⟩

theorem call134 : Callable Tryz.prog 134 := ⟨Tryz.f134, Tryz.func134, by kernel_rfl, by kernel_rfl⟩
set_option maxHeartbeats 4000000 in
theorem c134 (w : World) (n : Int) (d : Value) (bs : List UInt8) (hd : Own 5 w d bs) (hl : bs.length + 2 ≤ Lim) : Calls Tryz.prog 134 #[d, .int .i16 n] w fun en w' => ∃ d', en = .returned d' ∧ Grew 5 w d w' d' (bs ++ be 2 n) := by
  refine Calls.of_CW Tryz.func134 rfl (by decide +kernel) (Nat.le_of_ble_eq_true (by kernel_rfl)) (CW.of_flat ?_)
  simp only [flat, List.cons_append, List.nil_append, List.append_nil]
  refine CWL.reg (ops := [(.assign (.const (Go.Value.slice none 0 0)), 22)]) (b := [(4, 1)]) (by kernel_rfl) ?_
  refine OpK.assign ?_
  refine CWL.reg (ops := [(.convert 40 27 (.tmp 2), 27), (.call ⟨.value (.func 193), #[.tmp 0, .tmp 1], #[22, 27]⟩, 22)]) (b := [(4, 3), (8, 3), (7, 1), (6, 2), (5, 0)]) (by kernel_rfl) ?_
  refine OpK.convInt (k' := .u16) (by kernel_rfl) (by kernel_rfl) rfl ?_
  refine OpK.asCall rfl call193 rfl ((c193 w (IntKind.u16.wrap n) d bs hd hl).mono ?_)
  rintro en w1 ⟨d1, he1, hg1⟩
  refine ⟨d1, he1, ?_⟩
  refine CWL.ret ?_
  rw [be2_u16] at hg1
  exact ⟨_, rfl, hg1⟩

theorem call129 : Callable Tryz.prog 129 := ⟨Tryz.f129, Tryz.func129, by kernel_rfl, by kernel_rfl⟩
set_option maxHeartbeats 4000000 in
theorem c129 (w : World) (n : Int) (d : Value) (bs : List UInt8) (hd : Own 5 w d bs) (hl : bs.length + 4 ≤ Lim) : Calls Tryz.prog 129 #[d, .int .i32 n] w fun en w' => ∃ d', en = .returned d' ∧ Grew 5 w d w' d' (bs ++ be 4 n) := by
  refine Calls.of_CW Tryz.func129 rfl (by decide +kernel) (Nat.le_of_ble_eq_true (by kernel_rfl)) (CW.of_flat ?_)
  simp only [flat, List.cons_append, List.nil_append, List.append_nil]
  refine CWL.reg (ops := [(.assign (.const (Go.Value.slice none 0 0)), 22)]) (b := [(4, 1)]) (by kernel_rfl) ?_
  refine OpK.assign ?_
  refine CWL.reg (ops := [(.convert 21 71 (.tmp 2), 71), (.call ⟨.value (.func 186), #[.tmp 0, .tmp 1], #[22, 71]⟩, 22)]) (b := [(4, 3), (8, 3), (7, 1), (6, 2), (5, 0)]) (by kernel_rfl) ?_
  refine OpK.convInt (k' := .u32) (by kernel_rfl) (by kernel_rfl) rfl ?_
  refine OpK.asCall rfl call186 rfl ((c186 w (IntKind.u32.wrap n) d bs hd hl).mono ?_)
  rintro en w1 ⟨d1, he1, hg1⟩
  refine ⟨d1, he1, ?_⟩
  refine CWL.ret ?_
  rw [be4_u32] at hg1
  exact ⟨_, rfl, hg1⟩

theorem call141 : Callable Tryz.prog 141 := ⟨Tryz.f141, Tryz.func141, by kernel_rfl, by kernel_rfl⟩
set_option maxHeartbeats 4000000 in
theorem c141 (w : World) (n : Int) (d : Value) (bs : List UInt8) (hd : Own 5 w d bs) (hl : bs.length + 8 ≤ Lim) : Calls Tryz.prog 141 #[d, .int .i64 n] w fun en w' => ∃ d', en = .returned d' ∧ Grew 5 w d w' d' (bs ++ be 8 n) := by
  refine Calls.of_CW Tryz.func141 rfl (by decide +kernel) (Nat.le_of_ble_eq_true (by kernel_rfl)) (CW.of_flat ?_)
  simp only [flat, List.cons_append, List.nil_append, List.append_nil]
  refine CWL.reg (ops := [(.assign (.const (Go.Value.slice none 0 0)), 22)]) (b := [(4, 1)]) (by kernel_rfl) ?_
  refine OpK.assign ?_
  refine CWL.reg (ops := [(.convert 2 87 (.tmp 2), 87), (.call ⟨.value (.func 198), #[.tmp 0, .tmp 1], #[22, 87]⟩, 22)]) (b := [(4, 3), (8, 3), (7, 1), (6, 2), (5, 0)]) (by kernel_rfl) ?_
  refine OpK.convInt (k' := .u64) (by kernel_rfl) (by kernel_rfl) rfl ?_
  refine OpK.asCall rfl call198 rfl ((c198 w (IntKind.u64.wrap n) d bs hd hl).mono ?_)
  rintro en w1 ⟨d1, he1, hg1⟩
  refine ⟨d1, he1, ?_⟩
  refine CWL.ret ?_
  rw [be8_u64] at hg1
  exact ⟨_, rfl, hg1⟩

set_option maxHeartbeats 4000000 in
theorem ok151 (full : Bool) : ApOk Tryz.prog 5 full 151 (.val false .i8) := by
  intro w S v cs d bs hr hd hcl hl
  cases v <;> simp only [Rep, Wt.ty] at hr
  rename_i n
  obtain ⟨rfl, hn⟩ := hr
  exact c151 w n d bs hd hl

set_option maxHeartbeats 4000000 in
theorem ok134 (full : Bool) : ApOk Tryz.prog 5 full 134 (.val false .i16) := by
  intro w S v cs d bs hr hd hcl hl
  cases v <;> simp only [Rep, Wt.ty] at hr
  rename_i n
  obtain ⟨rfl, hn⟩ := hr
  exact c134 w n d bs hd hl

set_option maxHeartbeats 4000000 in
theorem ok193 (full : Bool) : ApOk Tryz.prog 5 full 193 (.val false .u16) := by
  intro w S v cs d bs hr hd hcl hl
  cases v <;> simp only [Rep, Wt.ty] at hr
  rename_i n
  obtain ⟨rfl, hn⟩ := hr
  exact c193 w n d bs hd hl

set_option maxHeartbeats 4000000 in
theorem ok129 (full : Bool) : ApOk Tryz.prog 5 full 129 (.val false .i32) := by
  intro w S v cs d bs hr hd hcl hl
  cases v <;> simp only [Rep, Wt.ty] at hr
  rename_i n
  obtain ⟨rfl, hn⟩ := hr
  exact c129 w n d bs hd hl

set_option maxHeartbeats 4000000 in
theorem ok141 (full : Bool) : ApOk Tryz.prog 5 full 141 (.val false .i64) := by
  intro w S v cs d bs hr hd hcl hl
  cases v <;> simp only [Rep, Wt.ty] at hr
  rename_i n
  obtain ⟨rfl, hn⟩ := hr
  exact c141 w n d bs hd hl

theorem call140 : Callable Tryz.prog 140 := ⟨Tryz.f140, Tryz.func140, by kernel_rfl, by kernel_rfl⟩
set_option maxHeartbeats 4000000 in
theorem ok140 (full : Bool) : ApOk Tryz.prog 5 full 140 (.val false .uuid) := by
  intro w S v cs d bs hr hd hcl hl
  obtain ⟨l, rfl, h16, rfl⟩ := rep_uuid hr
  simp only [encW] at hl ⊢
  have hown : Own 5 (w.alloc (.cells (l.map bv).toArray 121)) d bs := hd.keep fun k hk => alloc_old w _ k (hd.lt hk)
  obtain ⟨v', w', hr, hg⟩ := run_append_oct (ty := 22) (t := 22) u8 und hown (a := some ⟨w.heap.size, 0, none⟩) (l := l) (c := 16) (by intro h; cases h) (fun a' h => by cases h; exact Oct.new w 121 l) hl
  rw [h16] at hr
  refine Calls.of_CW Tryz.func140 rfl (by decide +kernel) (Nat.le_of_ble_eq_true (by kernel_rfl)) (CW.of_flat ?_)
  simp only [flat, List.cons_append, List.nil_append, List.append_nil]
  refine CWL.reg (ops := [(.box 121 (.tmp 2), 0), (.assign (.const (Go.Value.slice none 0 0)), 22)]) (b := [(4, 3), (3, 1)]) (by kernel_rfl) ?_
  refine OpK.box ?_
  refine OpK.assign ?_
  refine CWL.reg (ops := [(.slice 121 (.tmp 6) none none none, 22), (.call ⟨.builtin .append, #[.tmp 0, .tmp 1], #[22, 22]⟩, 22)]) (b := [(4, 3), (7, 3), (6, 1), (5, 0)]) (by kernel_rfl) ?_
  refine OpK.sliceArr (n := 16) (e := 5) (by kernel_rfl) (by kernel_rfl) rfl ?_
  refine OpK.run rfl hr ?_
  refine CWL.ret ?_
  refine ⟨_, rfl, hg.own, (Ch.alloc _ w _).trans hg.ch fun i _ h => h, fun k hk => (hg.blk k hk).imp id fun h => ?_⟩
  simp at h; omega

theorem tab8 (j : Nat) (h : j < 256) : (match (.const (Go.Value.string {data := List.toArray (List.append (List.append [0, 1, 2, 2, 3, 3, 3, 3, 4, 4, 4, 4, 4, 4, 4, 4, 5, 5, 5, 5, 5, 5, 5, 5, 5, 5, 5, 5, 5, 5, 5, 5, 6, 6, 6, 6, 6, 6, 6, 6, 6, 6, 6, 6, 6, 6, 6, 6, 6, 6, 6, 6, 6, 6, 6, 6, 6, 6, 6, 6, 6, 6, 6, 6] [7, 7, 7, 7, 7, 7, 7, 7, 7, 7, 7, 7, 7, 7, 7, 7, 7, 7, 7, 7, 7, 7, 7, 7, 7, 7, 7, 7, 7, 7, 7, 7, 7, 7, 7, 7, 7, 7, 7, 7, 7, 7, 7, 7, 7, 7, 7, 7, 7, 7, 7, 7, 7, 7, 7, 7, 7, 7, 7, 7, 7, 7, 7, 7]) (List.append [8, 8, 8, 8, 8, 8, 8, 8, 8, 8, 8, 8, 8, 8, 8, 8, 8, 8, 8, 8, 8, 8, 8, 8, 8, 8, 8, 8, 8, 8, 8, 8, 8, 8, 8, 8, 8, 8, 8, 8, 8, 8, 8, 8, 8, 8, 8, 8, 8, 8, 8, 8, 8, 8, 8, 8, 8, 8, 8, 8, 8, 8, 8, 8] [8, 8, 8, 8, 8, 8, 8, 8, 8, 8, 8, 8, 8, 8, 8, 8, 8, 8, 8, 8, 8, 8, 8, 8, 8, 8, 8, 8, 8, 8, 8, 8, 8, 8, 8, 8, 8, 8, 8, 8, 8, 8, 8, 8, 8, 8, 8, 8, 8, 8, 8, 8, 8, 8, 8, 8, 8, 8, 8, 8, 8, 8, 8, 8]))}) : Operand) with | .const (.string s) => s[j]? | _ => none) = some (UInt8.ofNat (bl8 j)) := by
  have k : ∀ j : Fin 256, (match (.const (Go.Value.string {data := List.toArray (List.append (List.append [0, 1, 2, 2, 3, 3, 3, 3, 4, 4, 4, 4, 4, 4, 4, 4, 5, 5, 5, 5, 5, 5, 5, 5, 5, 5, 5, 5, 5, 5, 5, 5, 6, 6, 6, 6, 6, 6, 6, 6, 6, 6, 6, 6, 6, 6, 6, 6, 6, 6, 6, 6, 6, 6, 6, 6, 6, 6, 6, 6, 6, 6, 6, 6] [7, 7, 7, 7, 7, 7, 7, 7, 7, 7, 7, 7, 7, 7, 7, 7, 7, 7, 7, 7, 7, 7, 7, 7, 7, 7, 7, 7, 7, 7, 7, 7, 7, 7, 7, 7, 7, 7, 7, 7, 7, 7, 7, 7, 7, 7, 7, 7, 7, 7, 7, 7, 7, 7, 7, 7, 7, 7, 7, 7, 7, 7, 7, 7]) (List.append [8, 8, 8, 8, 8, 8, 8, 8, 8, 8, 8, 8, 8, 8, 8, 8, 8, 8, 8, 8, 8, 8, 8, 8, 8, 8, 8, 8, 8, 8, 8, 8, 8, 8, 8, 8, 8, 8, 8, 8, 8, 8, 8, 8, 8, 8, 8, 8, 8, 8, 8, 8, 8, 8, 8, 8, 8, 8, 8, 8, 8, 8, 8, 8] [8, 8, 8, 8, 8, 8, 8, 8, 8, 8, 8, 8, 8, 8, 8, 8, 8, 8, 8, 8, 8, 8, 8, 8, 8, 8, 8, 8, 8, 8, 8, 8, 8, 8, 8, 8, 8, 8, 8, 8, 8, 8, 8, 8, 8, 8, 8, 8, 8, 8, 8, 8, 8, 8, 8, 8, 8, 8, 8, 8, 8, 8, 8, 8]))}) : Operand) with | .const (.string s) => s[j.1]? | _ => none) = some (UInt8.ofNat (bl8 j.1)) := by decide +kernel
  exact k ⟨j, h⟩

theorem call218 : Callable Tryz.prog 218 := ⟨Tryz.f218, Tryz.func218, by kernel_rfl, by kernel_rfl⟩
set_option maxHeartbeats 4000000 in
theorem c218 (w : World) (n : Nat) (hn : n < 4294967296) : Calls Tryz.prog 218 #[.int .u32 n] w fun en w' => ∃ r, en = .returned r ∧ r = .int .i64 (bl32 n : Int) ∧ w' = w := by
  by_cases h1 : 65536 ≤ n
  · by_cases h2 : 256 ≤ n / 65536
    · skip
      have hb : bl32 n = 24 + bl8 (n / 65536 / 256) := by unfold bl32; rw [if_pos h1, if_pos h2]
      refine Calls.of_CW Tryz.func218 rfl (by decide +kernel) (Nat.le_of_ble_eq_true (by kernel_rfl)) (CW.of_flat ?_)
      simp only [flat, List.cons_append, List.nil_append, List.append_nil]
      refine CWL.reg (ops := [(.assign (.const (Go.Value.int Go.IntKind.i64 0)), 3)]) (b := [(2, 1)]) (by kernel_rfl) ?_
      refine OpK.assign ?_
      refine CWL.reg (ops := [(.binOp .geq 71 (.tmp 0) (.const (Go.Value.int Go.IntKind.u32 65536)) 71, 4)]) (b := [(4, 1), (3, 0)]) (by kernel_rfl) ?_
      refine OpK.cmp rfl rfl rfl ?_
      refine CWL.condT (congrArg Value.bool (decide_eq_true (by omega))) ?_
      simp only [flat, List.cons_append, List.nil_append, List.append_nil]
      refine CWL.reg (ops := [(.binOp .shr 71 (.tmp 0) (.const (Go.Value.int Go.IntKind.u64 16)) 200, 71)]) (b := [(0, 1), (6, 1), (5, 0)]) (by kernel_rfl) ?_
      refine OpK.shr rfl rfl (by decide) ?_
      refine CWL.reg (ops := [(.assign (.const (Go.Value.int Go.IntKind.i64 16)), 3)]) (b := [(2, 1)]) (by kernel_rfl) ?_
      refine OpK.assign ?_
      refine CWL.reg (ops := [(.binOp .geq 71 (.tmp 0) (.const (Go.Value.int Go.IntKind.u32 256)) 71, 4)]) (b := [(8, 1), (7, 0)]) (by kernel_rfl) ?_
      refine OpK.cmp rfl rfl rfl ?_
      refine CWL.condT (congrArg Value.bool (decide_eq_true (by rw [show (2 : Int) ^ min ((16 : Int).toNat) IntKind.u32.bits = 65536 from rfl]; omega))) ?_
      simp only [flat, List.cons_append, List.nil_append, List.append_nil]
      refine CWL.reg (ops := [(.binOp .shr 71 (.tmp 0) (.const (Go.Value.int Go.IntKind.u64 8)) 200, 71)]) (b := [(0, 1), (10, 1), (9, 0)]) (by kernel_rfl) ?_
      refine OpK.shr rfl rfl (by decide) ?_
      refine CWL.reg (ops := [(.binOp .add 3 (.tmp 4) (.const (Go.Value.int Go.IntKind.i64 8)) 3, 3)]) (b := [(2, 1), (12, 1), (11, 4)]) (by kernel_rfl) ?_
      refine OpK.arith rfl rfl rfl ?_
      refine CWL.reg (ops := [(.convert 71 5 (.tmp 0), 5), (.index 9 (.const (Go.Value.string {data := List.toArray (List.append (List.append [0, 1, 2, 2, 3, 3, 3, 3, 4, 4, 4, 4, 4, 4, 4, 4, 5, 5, 5, 5, 5, 5, 5, 5, 5, 5, 5, 5, 5, 5, 5, 5, 6, 6, 6, 6, 6, 6, 6, 6, 6, 6, 6, 6, 6, 6, 6, 6, 6, 6, 6, 6, 6, 6, 6, 6, 6, 6, 6, 6, 6, 6, 6, 6] [7, 7, 7, 7, 7, 7, 7, 7, 7, 7, 7, 7, 7, 7, 7, 7, 7, 7, 7, 7, 7, 7, 7, 7, 7, 7, 7, 7, 7, 7, 7, 7, 7, 7, 7, 7, 7, 7, 7, 7, 7, 7, 7, 7, 7, 7, 7, 7, 7, 7, 7, 7, 7, 7, 7, 7, 7, 7, 7, 7, 7, 7, 7, 7]) (List.append [8, 8, 8, 8, 8, 8, 8, 8, 8, 8, 8, 8, 8, 8, 8, 8, 8, 8, 8, 8, 8, 8, 8, 8, 8, 8, 8, 8, 8, 8, 8, 8, 8, 8, 8, 8, 8, 8, 8, 8, 8, 8, 8, 8, 8, 8, 8, 8, 8, 8, 8, 8, 8, 8, 8, 8, 8, 8, 8, 8, 8, 8, 8, 8] [8, 8, 8, 8, 8, 8, 8, 8, 8, 8, 8, 8, 8, 8, 8, 8, 8, 8, 8, 8, 8, 8, 8, 8, 8, 8, 8, 8, 8, 8, 8, 8, 8, 8, 8, 8, 8, 8, 8, 8, 8, 8, 8, 8, 8, 8, 8, 8, 8, 8, 8, 8, 8, 8, 8, 8, 8, 8, 8, 8, 8, 8, 8, 8]))})) (.tmp 1), 5), (.convert 5 3 (.tmp 3), 3), (.binOp .add 3 (.tmp 4) (.tmp 5) 3, 3)]) (b := [(2, 7), (18, 7), (17, 5), (16, 3), (15, 1), (14, 0), (13, 4)]) (by kernel_rfl) ?_
      refine OpK.convInt (k' := .u8) (by kernel_rfl) (by kernel_rfl) rfl ?_
      refine OpK.indexStr (by kernel_rfl) rfl (congrArg (Value.int .u8) (show _ = ((n / 65536 / 256 : Nat) : Int) by rw [show (2 : Int) ^ min ((16 : Int).toNat) IntKind.u32.bits = 65536 from rfl, show (2 : Int) ^ min ((8 : Int).toNat) IntKind.u32.bits = 256 from rfl]; rw [IntKind.wrap_u8]; omega)) (tab8 (n / 65536 / 256) (by omega)) ?_
      refine OpK.convInt (k' := .i64) (by kernel_rfl) (by kernel_rfl) rfl ?_
      refine OpK.arith rfl rfl rfl ?_
      refine CWL.ret ?_
      refine ⟨_, rfl, ?_, rfl⟩
      rw [hb]
      exact len_fin 24 (n / 65536 / 256) (by decide)
    · skip
      have hb : bl32 n = 16 + bl8 (n / 65536) := by unfold bl32; rw [if_pos h1, if_neg h2]
      refine Calls.of_CW Tryz.func218 rfl (by decide +kernel) (Nat.le_of_ble_eq_true (by kernel_rfl)) (CW.of_flat ?_)
      simp only [flat, List.cons_append, List.nil_append, List.append_nil]
      refine CWL.reg (ops := [(.assign (.const (Go.Value.int Go.IntKind.i64 0)), 3)]) (b := [(2, 1)]) (by kernel_rfl) ?_
      refine OpK.assign ?_
      refine CWL.reg (ops := [(.binOp .geq 71 (.tmp 0) (.const (Go.Value.int Go.IntKind.u32 65536)) 71, 4)]) (b := [(4, 1), (3, 0)]) (by kernel_rfl) ?_
      refine OpK.cmp rfl rfl rfl ?_
      refine CWL.condT (congrArg Value.bool (decide_eq_true (by omega))) ?_
      simp only [flat, List.cons_append, List.nil_append, List.append_nil]
      refine CWL.reg (ops := [(.binOp .shr 71 (.tmp 0) (.const (Go.Value.int Go.IntKind.u64 16)) 200, 71)]) (b := [(0, 1), (6, 1), (5, 0)]) (by kernel_rfl) ?_
      refine OpK.shr rfl rfl (by decide) ?_
      refine CWL.reg (ops := [(.assign (.const (Go.Value.int Go.IntKind.i64 16)), 3)]) (b := [(2, 1)]) (by kernel_rfl) ?_
      refine OpK.assign ?_
      refine CWL.reg (ops := [(.binOp .geq 71 (.tmp 0) (.const (Go.Value.int Go.IntKind.u32 256)) 71, 4)]) (b := [(8, 1), (7, 0)]) (by kernel_rfl) ?_
      refine OpK.cmp rfl rfl rfl ?_
      refine CWL.condF (congrArg Value.bool (decide_eq_false (by rw [show (2 : Int) ^ min ((16 : Int).toNat) IntKind.u32.bits = 65536 from rfl]; omega))) ?_
      simp only [flat, List.cons_append, List.nil_append, List.append_nil]
      refine CWL.reg (ops := [(.convert 71 5 (.tmp 0), 5), (.index 9 (.const (Go.Value.string {data := List.toArray (List.append (List.append [0, 1, 2, 2, 3, 3, 3, 3, 4, 4, 4, 4, 4, 4, 4, 4, 5, 5, 5, 5, 5, 5, 5, 5, 5, 5, 5, 5, 5, 5, 5, 5, 6, 6, 6, 6, 6, 6, 6, 6, 6, 6, 6, 6, 6, 6, 6, 6, 6, 6, 6, 6, 6, 6, 6, 6, 6, 6, 6, 6, 6, 6, 6, 6] [7, 7, 7, 7, 7, 7, 7, 7, 7, 7, 7, 7, 7, 7, 7, 7, 7, 7, 7, 7, 7, 7, 7, 7, 7, 7, 7, 7, 7, 7, 7, 7, 7, 7, 7, 7, 7, 7, 7, 7, 7, 7, 7, 7, 7, 7, 7, 7, 7, 7, 7, 7, 7, 7, 7, 7, 7, 7, 7, 7, 7, 7, 7, 7]) (List.append [8, 8, 8, 8, 8, 8, 8, 8, 8, 8, 8, 8, 8, 8, 8, 8, 8, 8, 8, 8, 8, 8, 8, 8, 8, 8, 8, 8, 8, 8, 8, 8, 8, 8, 8, 8, 8, 8, 8, 8, 8, 8, 8, 8, 8, 8, 8, 8, 8, 8, 8, 8, 8, 8, 8, 8, 8, 8, 8, 8, 8, 8, 8, 8] [8, 8, 8, 8, 8, 8, 8, 8, 8, 8, 8, 8, 8, 8, 8, 8, 8, 8, 8, 8, 8, 8, 8, 8, 8, 8, 8, 8, 8, 8, 8, 8, 8, 8, 8, 8, 8, 8, 8, 8, 8, 8, 8, 8, 8, 8, 8, 8, 8, 8, 8, 8, 8, 8, 8, 8, 8, 8, 8, 8, 8, 8, 8, 8]))})) (.tmp 1), 5), (.convert 5 3 (.tmp 3), 3), (.binOp .add 3 (.tmp 4) (.tmp 5) 3, 3)]) (b := [(2, 7), (18, 7), (17, 5), (16, 3), (15, 1), (14, 0), (13, 4)]) (by kernel_rfl) ?_
      refine OpK.convInt (k' := .u8) (by kernel_rfl) (by kernel_rfl) rfl ?_
      refine OpK.indexStr (by kernel_rfl) rfl (congrArg (Value.int .u8) (show _ = ((n / 65536 : Nat) : Int) by rw [show (2 : Int) ^ min ((16 : Int).toNat) IntKind.u32.bits = 65536 from rfl]; rw [IntKind.wrap_u8]; omega)) (tab8 (n / 65536) (by omega)) ?_
      refine OpK.convInt (k' := .i64) (by kernel_rfl) (by kernel_rfl) rfl ?_
      refine OpK.arith rfl rfl rfl ?_
      refine CWL.ret ?_
      refine ⟨_, rfl, ?_, rfl⟩
      rw [hb]
      exact len_fin 16 (n / 65536) (by decide)
  · by_cases h2 : 256 ≤ n
    · skip
      have hb : bl32 n = 8 + bl8 (n / 256) := by unfold bl32; rw [if_neg h1, if_pos h2]
      refine Calls.of_CW Tryz.func218 rfl (by decide +kernel) (Nat.le_of_ble_eq_true (by kernel_rfl)) (CW.of_flat ?_)
      simp only [flat, List.cons_append, List.nil_append, List.append_nil]
      refine CWL.reg (ops := [(.assign (.const (Go.Value.int Go.IntKind.i64 0)), 3)]) (b := [(2, 1)]) (by kernel_rfl) ?_
      refine OpK.assign ?_
      refine CWL.reg (ops := [(.binOp .geq 71 (.tmp 0) (.const (Go.Value.int Go.IntKind.u32 65536)) 71, 4)]) (b := [(4, 1), (3, 0)]) (by kernel_rfl) ?_
      refine OpK.cmp rfl rfl rfl ?_
      refine CWL.condF (congrArg Value.bool (decide_eq_false (by omega))) ?_
      simp only [flat, List.cons_append, List.nil_append, List.append_nil]
      refine CWL.reg (ops := [(.binOp .geq 71 (.tmp 0) (.const (Go.Value.int Go.IntKind.u32 256)) 71, 4)]) (b := [(8, 1), (7, 0)]) (by kernel_rfl) ?_
      refine OpK.cmp rfl rfl rfl ?_
      refine CWL.condT (congrArg Value.bool (decide_eq_true (by omega))) ?_
      simp only [flat, List.cons_append, List.nil_append, List.append_nil]
      refine CWL.reg (ops := [(.binOp .shr 71 (.tmp 0) (.const (Go.Value.int Go.IntKind.u64 8)) 200, 71)]) (b := [(0, 1), (10, 1), (9, 0)]) (by kernel_rfl) ?_
      refine OpK.shr rfl rfl (by decide) ?_
      refine CWL.reg (ops := [(.binOp .add 3 (.tmp 4) (.const (Go.Value.int Go.IntKind.i64 8)) 3, 3)]) (b := [(2, 1), (12, 1), (11, 4)]) (by kernel_rfl) ?_
      refine OpK.arith rfl rfl rfl ?_
      refine CWL.reg (ops := [(.convert 71 5 (.tmp 0), 5), (.index 9 (.const (Go.Value.string {data := List.toArray (List.append (List.append [0, 1, 2, 2, 3, 3, 3, 3, 4, 4, 4, 4, 4, 4, 4, 4, 5, 5, 5, 5, 5, 5, 5, 5, 5, 5, 5, 5, 5, 5, 5, 5, 6, 6, 6, 6, 6, 6, 6, 6, 6, 6, 6, 6, 6, 6, 6, 6, 6, 6, 6, 6, 6, 6, 6, 6, 6, 6, 6, 6, 6, 6, 6, 6] [7, 7, 7, 7, 7, 7, 7, 7, 7, 7, 7, 7, 7, 7, 7, 7, 7, 7, 7, 7, 7, 7, 7, 7, 7, 7, 7, 7, 7, 7, 7, 7, 7, 7, 7, 7, 7, 7, 7, 7, 7, 7, 7, 7, 7, 7, 7, 7, 7, 7, 7, 7, 7, 7, 7, 7, 7, 7, 7, 7, 7, 7, 7, 7]) (List.append [8, 8, 8, 8, 8, 8, 8, 8, 8, 8, 8, 8, 8, 8, 8, 8, 8, 8, 8, 8, 8, 8, 8, 8, 8, 8, 8, 8, 8, 8, 8, 8, 8, 8, 8, 8, 8, 8, 8, 8, 8, 8, 8, 8, 8, 8, 8, 8, 8, 8, 8, 8, 8, 8, 8, 8, 8, 8, 8, 8, 8, 8, 8, 8] [8, 8, 8, 8, 8, 8, 8, 8, 8, 8, 8, 8, 8, 8, 8, 8, 8, 8, 8, 8, 8, 8, 8, 8, 8, 8, 8, 8, 8, 8, 8, 8, 8, 8, 8, 8, 8, 8, 8, 8, 8, 8, 8, 8, 8, 8, 8, 8, 8, 8, 8, 8, 8, 8, 8, 8, 8, 8, 8, 8, 8, 8, 8, 8]))})) (.tmp 1), 5), (.convert 5 3 (.tmp 3), 3), (.binOp .add 3 (.tmp 4) (.tmp 5) 3, 3)]) (b := [(2, 7), (18, 7), (17, 5), (16, 3), (15, 1), (14, 0), (13, 4)]) (by kernel_rfl) ?_
      refine OpK.convInt (k' := .u8) (by kernel_rfl) (by kernel_rfl) rfl ?_
      refine OpK.indexStr (by kernel_rfl) rfl (congrArg (Value.int .u8) (show _ = ((n / 256 : Nat) : Int) by rw [show (2 : Int) ^ min ((8 : Int).toNat) IntKind.u32.bits = 256 from rfl]; rw [IntKind.wrap_u8]; omega)) (tab8 (n / 256) (by omega)) ?_
      refine OpK.convInt (k' := .i64) (by kernel_rfl) (by kernel_rfl) rfl ?_
      refine OpK.arith rfl rfl rfl ?_
      refine CWL.ret ?_
      refine ⟨_, rfl, ?_, rfl⟩
      rw [hb]
      exact len_fin 8 (n / 256) (by decide)
    · skip
      have hb : bl32 n = 0 + bl8 (n) := by unfold bl32; rw [if_neg h1, if_neg h2]; simp
      refine Calls.of_CW Tryz.func218 rfl (by decide +kernel) (Nat.le_of_ble_eq_true (by kernel_rfl)) (CW.of_flat ?_)
      simp only [flat, List.cons_append, List.nil_append, List.append_nil]
      refine CWL.reg (ops := [(.assign (.const (Go.Value.int Go.IntKind.i64 0)), 3)]) (b := [(2, 1)]) (by kernel_rfl) ?_
      refine OpK.assign ?_
      refine CWL.reg (ops := [(.binOp .geq 71 (.tmp 0) (.const (Go.Value.int Go.IntKind.u32 65536)) 71, 4)]) (b := [(4, 1), (3, 0)]) (by kernel_rfl) ?_
      refine OpK.cmp rfl rfl rfl ?_
      refine CWL.condF (congrArg Value.bool (decide_eq_false (by omega))) ?_
      simp only [flat, List.cons_append, List.nil_append, List.append_nil]
      refine CWL.reg (ops := [(.binOp .geq 71 (.tmp 0) (.const (Go.Value.int Go.IntKind.u32 256)) 71, 4)]) (b := [(8, 1), (7, 0)]) (by kernel_rfl) ?_
      refine OpK.cmp rfl rfl rfl ?_
      refine CWL.condF (congrArg Value.bool (decide_eq_false (by omega))) ?_
      simp only [flat, List.cons_append, List.nil_append, List.append_nil]
      refine CWL.reg (ops := [(.convert 71 5 (.tmp 0), 5), (.index 9 (.const (Go.Value.string {data := List.toArray (List.append (List.append [0, 1, 2, 2, 3, 3, 3, 3, 4, 4, 4, 4, 4, 4, 4, 4, 5, 5, 5, 5, 5, 5, 5, 5, 5, 5, 5, 5, 5, 5, 5, 5, 6, 6, 6, 6, 6, 6, 6, 6, 6, 6, 6, 6, 6, 6, 6, 6, 6, 6, 6, 6, 6, 6, 6, 6, 6, 6, 6, 6, 6, 6, 6, 6] [7, 7, 7, 7, 7, 7, 7, 7, 7, 7, 7, 7, 7, 7, 7, 7, 7, 7, 7, 7, 7, 7, 7, 7, 7, 7, 7, 7, 7, 7, 7, 7, 7, 7, 7, 7, 7, 7, 7, 7, 7, 7, 7, 7, 7, 7, 7, 7, 7, 7, 7, 7, 7, 7, 7, 7, 7, 7, 7, 7, 7, 7, 7, 7]) (List.append [8, 8, 8, 8, 8, 8, 8, 8, 8, 8, 8, 8, 8, 8, 8, 8, 8, 8, 8, 8, 8, 8, 8, 8, 8, 8, 8, 8, 8, 8, 8, 8, 8, 8, 8, 8, 8, 8, 8, 8, 8, 8, 8, 8, 8, 8, 8, 8, 8, 8, 8, 8, 8, 8, 8, 8, 8, 8, 8, 8, 8, 8, 8, 8] [8, 8, 8, 8, 8, 8, 8, 8, 8, 8, 8, 8, 8, 8, 8, 8, 8, 8, 8, 8, 8, 8, 8, 8, 8, 8, 8, 8, 8, 8, 8, 8, 8, 8, 8, 8, 8, 8, 8, 8, 8, 8, 8, 8, 8, 8, 8, 8, 8, 8, 8, 8, 8, 8, 8, 8, 8, 8, 8, 8, 8, 8, 8, 8]))})) (.tmp 1), 5), (.convert 5 3 (.tmp 3), 3), (.binOp .add 3 (.tmp 4) (.tmp 5) 3, 3)]) (b := [(2, 7), (18, 7), (17, 5), (16, 3), (15, 1), (14, 0), (13, 4)]) (by kernel_rfl) ?_
      refine OpK.convInt (k' := .u8) (by kernel_rfl) (by kernel_rfl) rfl ?_
      refine OpK.indexStr (by kernel_rfl) rfl (congrArg (Value.int .u8) (show _ = ((n : Nat) : Int) by rw [IntKind.wrap_u8]; omega)) (tab8 (n) (by omega)) ?_
      refine OpK.convInt (k' := .i64) (by kernel_rfl) (by kernel_rfl) rfl ?_
      refine OpK.arith rfl rfl rfl ?_
      refine CWL.ret ?_
      refine ⟨_, rfl, ?_, rfl⟩
      rw [hb]
      exact len_fin 0 (n) (by decide)

theorem tabU (j : Nat) (h : j ≤ 32) : (match (.const (Go.Value.string {data := List.toArray (List.append (List.append [1, 1, 1, 1, 1, 1, 1, 1, 2, 2, 2, 2, 2, 2, 2, 3, 3, 3, 3, 3, 3, 3, 4, 4, 4, 4, 4, 4, 4, 5, 5, 5, 5, 5, 5, 5, 6, 6, 6, 6, 6, 6, 6, 7, 7, 7, 7, 7, 7, 7, 8, 8, 8, 8, 8, 8, 8, 9, 9, 9, 9, 9, 9, 9] [10, 0, 0, 0, 0, 0, 0, 0, 0, 0, 0, 0, 0, 0, 0, 0, 0, 0, 0, 0, 0, 0, 0, 0, 0, 0, 0, 0, 0, 0, 0, 0, 0, 0, 0, 0, 0, 0, 0, 0, 0, 0, 0, 0, 0, 0, 0, 0, 0, 0, 0, 0, 0, 0, 0, 0, 0, 0, 0, 0, 0, 0, 0, 0]) (List.append [0, 0, 0, 0, 0, 0, 0, 0, 0, 0, 0, 0, 0, 0, 0, 0, 0, 0, 0, 0, 0, 0, 0, 0, 0, 0, 0, 0, 0, 0, 0, 0, 0, 0, 0, 0, 0, 0, 0, 0, 0, 0, 0, 0, 0, 0, 0, 0, 0, 0, 0, 0, 0, 0, 0, 0, 0, 0, 0, 0, 0, 0, 0, 0] [0, 0, 0, 0, 0, 0, 0, 0, 0, 0, 0, 0, 0, 0, 0, 0, 0, 0, 0, 0, 0, 0, 0, 0, 0, 0, 0, 0, 0, 0, 0, 0, 0, 0, 0, 0, 0, 0, 0, 0, 0, 0, 0, 0, 0, 0, 0, 0, 0, 0, 0, 0, 0, 0, 0, 0, 0, 0, 0, 0, 0, 0, 0, 0]))}) : Operand) with | .const (.string s) => s[j]? | _ => none) = some (UInt8.ofNat (utab j)) := by
  have k : ∀ j : Fin 33, (match (.const (Go.Value.string {data := List.toArray (List.append (List.append [1, 1, 1, 1, 1, 1, 1, 1, 2, 2, 2, 2, 2, 2, 2, 3, 3, 3, 3, 3, 3, 3, 4, 4, 4, 4, 4, 4, 4, 5, 5, 5, 5, 5, 5, 5, 6, 6, 6, 6, 6, 6, 6, 7, 7, 7, 7, 7, 7, 7, 8, 8, 8, 8, 8, 8, 8, 9, 9, 9, 9, 9, 9, 9] [10, 0, 0, 0, 0, 0, 0, 0, 0, 0, 0, 0, 0, 0, 0, 0, 0, 0, 0, 0, 0, 0, 0, 0, 0, 0, 0, 0, 0, 0, 0, 0, 0, 0, 0, 0, 0, 0, 0, 0, 0, 0, 0, 0, 0, 0, 0, 0, 0, 0, 0, 0, 0, 0, 0, 0, 0, 0, 0, 0, 0, 0, 0, 0]) (List.append [0, 0, 0, 0, 0, 0, 0, 0, 0, 0, 0, 0, 0, 0, 0, 0, 0, 0, 0, 0, 0, 0, 0, 0, 0, 0, 0, 0, 0, 0, 0, 0, 0, 0, 0, 0, 0, 0, 0, 0, 0, 0, 0, 0, 0, 0, 0, 0, 0, 0, 0, 0, 0, 0, 0, 0, 0, 0, 0, 0, 0, 0, 0, 0] [0, 0, 0, 0, 0, 0, 0, 0, 0, 0, 0, 0, 0, 0, 0, 0, 0, 0, 0, 0, 0, 0, 0, 0, 0, 0, 0, 0, 0, 0, 0, 0, 0, 0, 0, 0, 0, 0, 0, 0, 0, 0, 0, 0, 0, 0, 0, 0, 0, 0, 0, 0, 0, 0, 0, 0, 0, 0, 0, 0, 0, 0, 0, 0]))}) : Operand) with | .const (.string s) => s[j.1]? | _ => none) = some (UInt8.ofNat (utab j.1)) := by decide +kernel
  exact k ⟨j, by omega⟩

theorem call180 : Callable Tryz.prog 180 := ⟨Tryz.f180, Tryz.func180, by kernel_rfl, by kernel_rfl⟩
set_option maxHeartbeats 4000000 in
theorem c180 (w : World) (n : Nat) (hn : n < 4294967296) : Calls Tryz.prog 180 #[.int .u32 n] w fun en w' => ∃ r, en = .returned r ∧ r = .int .i64 (uvLen n : Int) ∧ w' = w := by
  refine Calls.of_CW Tryz.func180 rfl (by decide +kernel) (Nat.le_of_ble_eq_true (by kernel_rfl)) (CW.of_flat ?_)
  simp only [flat, List.cons_append, List.nil_append, List.append_nil]
  refine CWL.reg (ops := [(.assign (.const (Go.Value.int Go.IntKind.i64 0)), 3)]) (b := [(2, 1)]) (by kernel_rfl) ?_
  refine OpK.assign ?_
  refine CWL.reg (ops := [(.call ⟨.value (.func 218), #[.tmp 0], #[71]⟩, 3), (.convert 3 5 (.tmp 1), 5), (.index 9 (.const (Go.Value.string {data := List.toArray (List.append (List.append [1, 1, 1, 1, 1, 1, 1, 1, 2, 2, 2, 2, 2, 2, 2, 3, 3, 3, 3, 3, 3, 3, 4, 4, 4, 4, 4, 4, 4, 5, 5, 5, 5, 5, 5, 5, 6, 6, 6, 6, 6, 6, 6, 7, 7, 7, 7, 7, 7, 7, 8, 8, 8, 8, 8, 8, 8, 9, 9, 9, 9, 9, 9, 9] [10, 0, 0, 0, 0, 0, 0, 0, 0, 0, 0, 0, 0, 0, 0, 0, 0, 0, 0, 0, 0, 0, 0, 0, 0, 0, 0, 0, 0, 0, 0, 0, 0, 0, 0, 0, 0, 0, 0, 0, 0, 0, 0, 0, 0, 0, 0, 0, 0, 0, 0, 0, 0, 0, 0, 0, 0, 0, 0, 0, 0, 0, 0, 0]) (List.append [0, 0, 0, 0, 0, 0, 0, 0, 0, 0, 0, 0, 0, 0, 0, 0, 0, 0, 0, 0, 0, 0, 0, 0, 0, 0, 0, 0, 0, 0, 0, 0, 0, 0, 0, 0, 0, 0, 0, 0, 0, 0, 0, 0, 0, 0, 0, 0, 0, 0, 0, 0, 0, 0, 0, 0, 0, 0, 0, 0, 0, 0, 0, 0] [0, 0, 0, 0, 0, 0, 0, 0, 0, 0, 0, 0, 0, 0, 0, 0, 0, 0, 0, 0, 0, 0, 0, 0, 0, 0, 0, 0, 0, 0, 0, 0, 0, 0, 0, 0, 0, 0, 0, 0, 0, 0, 0, 0, 0, 0, 0, 0, 0, 0, 0, 0, 0, 0, 0, 0, 0, 0, 0, 0, 0, 0, 0, 0]))})) (.tmp 3), 5), (.convert 5 3 (.tmp 5), 3)]) (b := [(2, 7), (7, 7), (6, 5), (5, 3), (4, 1), (3, 0)]) (by kernel_rfl) ?_
  refine OpK.asCall rfl call218 rfl ((c218 w n hn).mono ?_)
  rintro en w1 ⟨r1, he1, hr1, hw1⟩
  subst hw1
  subst hr1
  refine ⟨_, he1, ?_⟩
  refine OpK.convInt (k' := .u8) (by kernel_rfl) (by kernel_rfl) rfl ?_
  refine OpK.indexStr (by kernel_rfl) rfl (congrArg (Value.int .u8) (u8_nat (Nat.lt_of_le_of_lt bl32_le (by decide)))) (tabU (bl32 n) bl32_le) ?_
  refine OpK.convInt (k' := .i64) (by kernel_rfl) (by kernel_rfl) rfl ?_
  refine CWL.ret ?_
  exact ⟨_, rfl, ulen_val hn, rfl⟩

theorem call123 : Callable Tryz.prog 123 := ⟨Tryz.f123, Tryz.func123, by kernel_rfl, by kernel_rfl⟩
set_option maxHeartbeats 8000000 in
theorem c123 (w : World) (n : Nat) (m : Int) (hm : m = n) (hn : n < 4294967296) (d : Value) (bs : List UInt8) (hd : Own 5 w d bs) (hl : bs.length + (uvar n).length ≤ Lim) : Calls Tryz.prog 123 #[d, .int .u32 m] w fun en w' => ∃ d', en = .returned d' ∧ Grew 5 w d w' d' (bs ++ uvar n) := by
  subst hm
  have hcase : n < 128 ∨ (128 ≤ n ∧ n < 16384) ∨ (16384 ≤ n ∧ n < 2097152) ∨ (2097152 ≤ n ∧ n < 268435456) ∨ 268435456 ≤ n := by omega
  obtain ⟨v', w', hr, hg⟩ := append_lit (ty := 22) und u8 hd (uvar n) hl
  rcases hcase with h | ⟨h, h'⟩ | ⟨h, h'⟩ | ⟨h, h'⟩ | h
  · skip
    have hk : uvLen n = 1 := by unfold uvLen; repeat' split <;> try omega
    have hc : (uvar n).map bv = [.int .u8 (IntKind.u8.wrap (n : Int))] := by
      rw [uv1 h]
      simp only [List.map_cons, List.map_nil]
      rw [← grpL0 n h]
    have hlen : (uvar n).length = 1 := by rw [uv1 h]; rfl
    rw [hc, hlen] at hr
    refine Calls.of_CW Tryz.func123 rfl (by decide +kernel) (Nat.le_of_ble_eq_true (by kernel_rfl)) (CW.of_flat ?_)
    simp only [flat, List.cons_append, List.nil_append, List.append_nil]
    refine CWL.reg (ops := [(.assign (.const (Go.Value.slice none 0 0)), 22)]) (b := [(4, 1)]) (by kernel_rfl) ?_
    refine OpK.assign ?_
    refine CWL.reg (ops := [(.call ⟨.value (.func 180), #[.tmp 2], #[71]⟩, 3)]) (b := [(6, 1), (5, 2)]) (by kernel_rfl) ?_
    refine OpK.asCall rfl call180 rfl ((c180 w n hn).mono ?_)
    rintro en w1 ⟨r1, he1, hr1, hw1⟩
    subst hw1
    rw [hk] at hr1
    subst hr1
    refine ⟨_, he1, ?_⟩
    refine CWL.block ?_
    simp only [flat, List.cons_append, List.nil_append, List.append_nil]
    refine CWL.reg (ops := [(.binOp .eql 3 (.tmp 12) (.const (Go.Value.int Go.IntKind.i64 5)) 3, 4)]) (b := [(7, 1), (8, 1)]) (by kernel_rfl) ?_
    refine OpK.cmp rfl rfl rfl ?_
    refine CWL.condF rfl ?_
    simp only [flat, List.cons_append, List.nil_append, List.append_nil]
    refine CWL.reg (ops := [(.binOp .eql 3 (.tmp 12) (.const (Go.Value.int Go.IntKind.i64 4)) 3, 4)]) (b := [(34, 1), (35, 1)]) (by kernel_rfl) ?_
    refine OpK.cmp rfl rfl rfl ?_
    refine CWL.condF rfl ?_
    simp only [flat, List.cons_append, List.nil_append, List.append_nil]
    refine CWL.reg (ops := [(.binOp .eql 3 (.tmp 12) (.const (Go.Value.int Go.IntKind.i64 3)) 3, 4)]) (b := [(56, 1), (57, 1)]) (by kernel_rfl) ?_
    refine OpK.cmp rfl rfl rfl ?_
    refine CWL.condF rfl ?_
    simp only [flat, List.cons_append, List.nil_append, List.append_nil]
    refine CWL.reg (ops := [(.binOp .eql 3 (.tmp 12) (.const (Go.Value.int Go.IntKind.i64 2)) 3, 4)]) (b := [(73, 1), (74, 1)]) (by kernel_rfl) ?_
    refine OpK.cmp rfl rfl rfl ?_
    refine CWL.condF rfl ?_
    simp only [flat, List.cons_append, List.nil_append, List.append_nil]
    refine CWL.reg (ops := [(.binOp .eql 3 (.tmp 12) (.const (Go.Value.int Go.IntKind.i64 1)) 3, 4)]) (b := [(85, 1), (86, 1)]) (by kernel_rfl) ?_
    refine OpK.cmp rfl rfl rfl ?_
    refine CWL.condT rfl ?_
    simp only [flat, List.cons_append, List.nil_append, List.append_nil]
    refine CWL.reg (ops := [(.convert 71 5 (.tmp 2), 5), (.buildSlice 22 1 #[(0, .tmp 1)], 22), (.call ⟨.builtin .append, #[.tmp 0, .tmp 3], #[22, 22]⟩, 22)]) (b := [(4, 5), (91, 5), (90, 3), (89, 1), (88, 2), (87, 0)]) (by kernel_rfl) ?_
    refine OpK.convInt (k' := .u8) (by kernel_rfl) (by kernel_rfl) rfl ?_
    refine OpK.buildS (by simp only [List.map_toArray, List.map_cons, List.map_nil]; exact run_bs1 (by kernel_rfl) u8 _) ?_
    refine OpK.run rfl hr ?_
    refine CWL.ret ?_
    exact ⟨_, rfl, hg⟩
  · skip
    have hk : uvLen n = 2 := by unfold uvLen; repeat' split <;> try omega
    have hc : (uvar n).map bv = [.int .u8 (IntKind.u8.wrap (bits .or .u32 (bits .and .u32 (n : Int) 127) 128)), .int .u8 (IntKind.u8.wrap ((n : Int) / 2 ^ min ((7 : Int).toNat) IntKind.u32.bits))] := by
      rw [uv2 h h']
      simp only [List.map_cons, List.map_nil]
      rw [← grpL n 7 (by omega), ← grp0 n hn]
      rfl
    have hlen : (uvar n).length = 2 := by rw [uv2 h h']; rfl
    rw [hc, hlen] at hr
    refine Calls.of_CW Tryz.func123 rfl (by decide +kernel) (Nat.le_of_ble_eq_true (by kernel_rfl)) (CW.of_flat ?_)
    simp only [flat, List.cons_append, List.nil_append, List.append_nil]
    refine CWL.reg (ops := [(.assign (.const (Go.Value.slice none 0 0)), 22)]) (b := [(4, 1)]) (by kernel_rfl) ?_
    refine OpK.assign ?_
    refine CWL.reg (ops := [(.call ⟨.value (.func 180), #[.tmp 2], #[71]⟩, 3)]) (b := [(6, 1), (5, 2)]) (by kernel_rfl) ?_
    refine OpK.asCall rfl call180 rfl ((c180 w n hn).mono ?_)
    rintro en w1 ⟨r1, he1, hr1, hw1⟩
    subst hw1
    rw [hk] at hr1
    subst hr1
    refine ⟨_, he1, ?_⟩
    refine CWL.block ?_
    simp only [flat, List.cons_append, List.nil_append, List.append_nil]
    refine CWL.reg (ops := [(.binOp .eql 3 (.tmp 12) (.const (Go.Value.int Go.IntKind.i64 5)) 3, 4)]) (b := [(7, 1), (8, 1)]) (by kernel_rfl) ?_
    refine OpK.cmp rfl rfl rfl ?_
    refine CWL.condF rfl ?_
    simp only [flat, List.cons_append, List.nil_append, List.append_nil]
    refine CWL.reg (ops := [(.binOp .eql 3 (.tmp 12) (.const (Go.Value.int Go.IntKind.i64 4)) 3, 4)]) (b := [(34, 1), (35, 1)]) (by kernel_rfl) ?_
    refine OpK.cmp rfl rfl rfl ?_
    refine CWL.condF rfl ?_
    simp only [flat, List.cons_append, List.nil_append, List.append_nil]
    refine CWL.reg (ops := [(.binOp .eql 3 (.tmp 12) (.const (Go.Value.int Go.IntKind.i64 3)) 3, 4)]) (b := [(56, 1), (57, 1)]) (by kernel_rfl) ?_
    refine OpK.cmp rfl rfl rfl ?_
    refine CWL.condF rfl ?_
    simp only [flat, List.cons_append, List.nil_append, List.append_nil]
    refine CWL.reg (ops := [(.binOp .eql 3 (.tmp 12) (.const (Go.Value.int Go.IntKind.i64 2)) 3, 4)]) (b := [(73, 1), (74, 1)]) (by kernel_rfl) ?_
    refine OpK.cmp rfl rfl rfl ?_
    refine CWL.condT rfl ?_
    simp only [flat, List.cons_append, List.nil_append, List.append_nil]
    refine CWL.reg (ops := [(.binOp .and 71 (.tmp 2) (.const (Go.Value.int Go.IntKind.u32 127)) 71, 71), (.binOp .or 71 (.tmp 1) (.const (Go.Value.int Go.IntKind.u32 128)) 71, 71), (.convert 71 5 (.tmp 3), 5), (.binOp .shr 71 (.tmp 2) (.const (Go.Value.int Go.IntKind.u64 7)) 200, 71), (.convert 71 5 (.tmp 7), 5), (.buildSlice 22 2 #[(0, .tmp 5), (1, .tmp 9)], 22), (.call ⟨.builtin .append, #[.tmp 0, .tmp 11], #[22, 22]⟩, 22)]) (b := [(4, 13), (84, 13), (83, 11), (82, 9), (81, 7), (80, 2), (79, 5), (78, 3), (77, 1), (76, 2), (75, 0)]) (by kernel_rfl) ?_
    refine OpK.and rfl rfl ?_
    refine OpK.or rfl rfl ?_
    refine OpK.convInt (k' := .u8) (by kernel_rfl) (by kernel_rfl) rfl ?_
    refine OpK.shr rfl rfl (by decide) ?_
    refine OpK.convInt (k' := .u8) (by kernel_rfl) (by kernel_rfl) rfl ?_
    refine OpK.buildS (by simp only [List.map_toArray, List.map_cons, List.map_nil]; exact run_bs2 (by kernel_rfl) u8 _ _) ?_
    refine OpK.run rfl hr ?_
    refine CWL.ret ?_
    exact ⟨_, rfl, hg⟩
  · skip
    have hk : uvLen n = 3 := by unfold uvLen; repeat' split <;> try omega
    have hc : (uvar n).map bv = [.int .u8 (IntKind.u8.wrap (bits .or .u32 (bits .and .u32 (n : Int) 127) 128)), .int .u8 (IntKind.u8.wrap (bits .or .u32 (bits .and .u32 ((n : Int) / 2 ^ min ((7 : Int).toNat) IntKind.u32.bits) 127) 128)), .int .u8 (IntKind.u8.wrap ((n : Int) / 2 ^ min ((14 : Int).toNat) IntKind.u32.bits))] := by
      rw [uv3 h h']
      simp only [List.map_cons, List.map_nil]
      rw [← grpL n 14 (by omega), ← grp n 7 hn, ← grp0 n hn]
      rfl
    have hlen : (uvar n).length = 3 := by rw [uv3 h h']; rfl
    rw [hc, hlen] at hr
    refine Calls.of_CW Tryz.func123 rfl (by decide +kernel) (Nat.le_of_ble_eq_true (by kernel_rfl)) (CW.of_flat ?_)
    simp only [flat, List.cons_append, List.nil_append, List.append_nil]
    refine CWL.reg (ops := [(.assign (.const (Go.Value.slice none 0 0)), 22)]) (b := [(4, 1)]) (by kernel_rfl) ?_
    refine OpK.assign ?_
    refine CWL.reg (ops := [(.call ⟨.value (.func 180), #[.tmp 2], #[71]⟩, 3)]) (b := [(6, 1), (5, 2)]) (by kernel_rfl) ?_
    refine OpK.asCall rfl call180 rfl ((c180 w n hn).mono ?_)
    rintro en w1 ⟨r1, he1, hr1, hw1⟩
    subst hw1
    rw [hk] at hr1
    subst hr1
    refine ⟨_, he1, ?_⟩
    refine CWL.block ?_
    simp only [flat, List.cons_append, List.nil_append, List.append_nil]
    refine CWL.reg (ops := [(.binOp .eql 3 (.tmp 12) (.const (Go.Value.int Go.IntKind.i64 5)) 3, 4)]) (b := [(7, 1), (8, 1)]) (by kernel_rfl) ?_
    refine OpK.cmp rfl rfl rfl ?_
    refine CWL.condF rfl ?_
    simp only [flat, List.cons_append, List.nil_append, List.append_nil]
    refine CWL.reg (ops := [(.binOp .eql 3 (.tmp 12) (.const (Go.Value.int Go.IntKind.i64 4)) 3, 4)]) (b := [(34, 1), (35, 1)]) (by kernel_rfl) ?_
    refine OpK.cmp rfl rfl rfl ?_
    refine CWL.condF rfl ?_
    simp only [flat, List.cons_append, List.nil_append, List.append_nil]
    refine CWL.reg (ops := [(.binOp .eql 3 (.tmp 12) (.const (Go.Value.int Go.IntKind.i64 3)) 3, 4)]) (b := [(56, 1), (57, 1)]) (by kernel_rfl) ?_
    refine OpK.cmp rfl rfl rfl ?_
    refine CWL.condT rfl ?_
    simp only [flat, List.cons_append, List.nil_append, List.append_nil]
    refine CWL.reg (ops := [(.binOp .and 71 (.tmp 2) (.const (Go.Value.int Go.IntKind.u32 127)) 71, 71), (.binOp .or 71 (.tmp 1) (.const (Go.Value.int Go.IntKind.u32 128)) 71, 71), (.convert 71 5 (.tmp 3), 5), (.binOp .shr 71 (.tmp 2) (.const (Go.Value.int Go.IntKind.u64 7)) 200, 71), (.binOp .and 71 (.tmp 7) (.const (Go.Value.int Go.IntKind.u32 127)) 71, 71), (.binOp .or 71 (.tmp 9) (.const (Go.Value.int Go.IntKind.u32 128)) 71, 71), (.convert 71 5 (.tmp 11), 5), (.binOp .shr 71 (.tmp 2) (.const (Go.Value.int Go.IntKind.u64 14)) 200, 71), (.convert 71 5 (.tmp 15), 5), (.buildSlice 22 3 #[(0, .tmp 5), (1, .tmp 13), (2, .tmp 17)], 22), (.call ⟨.builtin .append, #[.tmp 0, .tmp 19], #[22, 22]⟩, 22)]) (b := [(4, 21), (72, 21), (71, 19), (70, 17), (69, 15), (68, 2), (67, 13), (66, 11), (65, 9), (64, 7), (63, 2), (62, 5), (61, 3), (60, 1), (59, 2), (58, 0)]) (by kernel_rfl) ?_
    refine OpK.and rfl rfl ?_
    refine OpK.or rfl rfl ?_
    refine OpK.convInt (k' := .u8) (by kernel_rfl) (by kernel_rfl) rfl ?_
    refine OpK.shr rfl rfl (by decide) ?_
    refine OpK.and rfl rfl ?_
    refine OpK.or rfl rfl ?_
    refine OpK.convInt (k' := .u8) (by kernel_rfl) (by kernel_rfl) rfl ?_
    refine OpK.shr rfl rfl (by decide) ?_
    refine OpK.convInt (k' := .u8) (by kernel_rfl) (by kernel_rfl) rfl ?_
    refine OpK.buildS (by simp only [List.map_toArray, List.map_cons, List.map_nil]; exact run_bs3 (by kernel_rfl) u8 _ _ _) ?_
    refine OpK.run rfl hr ?_
    refine CWL.ret ?_
    exact ⟨_, rfl, hg⟩
  · skip
    have hk : uvLen n = 4 := by unfold uvLen; repeat' split <;> try omega
    have hc : (uvar n).map bv = [.int .u8 (IntKind.u8.wrap (bits .or .u32 (bits .and .u32 (n : Int) 127) 128)), .int .u8 (IntKind.u8.wrap (bits .or .u32 (bits .and .u32 ((n : Int) / 2 ^ min ((7 : Int).toNat) IntKind.u32.bits) 127) 128)), .int .u8 (IntKind.u8.wrap (bits .or .u32 (bits .and .u32 ((n : Int) / 2 ^ min ((14 : Int).toNat) IntKind.u32.bits) 127) 128)), .int .u8 (IntKind.u8.wrap ((n : Int) / 2 ^ min ((21 : Int).toNat) IntKind.u32.bits))] := by
      rw [uv4 h h']
      simp only [List.map_cons, List.map_nil]
      rw [← grpL n 21 (by omega), ← grp n 14 hn, ← grp n 7 hn, ← grp0 n hn]
      rfl
    have hlen : (uvar n).length = 4 := by rw [uv4 h h']; rfl
    rw [hc, hlen] at hr
    refine Calls.of_CW Tryz.func123 rfl (by decide +kernel) (Nat.le_of_ble_eq_true (by kernel_rfl)) (CW.of_flat ?_)
    simp only [flat, List.cons_append, List.nil_append, List.append_nil]
    refine CWL.reg (ops := [(.assign (.const (Go.Value.slice none 0 0)), 22)]) (b := [(4, 1)]) (by kernel_rfl) ?_
    refine OpK.assign ?_
    refine CWL.reg (ops := [(.call ⟨.value (.func 180), #[.tmp 2], #[71]⟩, 3)]) (b := [(6, 1), (5, 2)]) (by kernel_rfl) ?_
    refine OpK.asCall rfl call180 rfl ((c180 w n hn).mono ?_)
    rintro en w1 ⟨r1, he1, hr1, hw1⟩
    subst hw1
    rw [hk] at hr1
    subst hr1
    refine ⟨_, he1, ?_⟩
    refine CWL.block ?_
    simp only [flat, List.cons_append, List.nil_append, List.append_nil]
    refine CWL.reg (ops := [(.binOp .eql 3 (.tmp 12) (.const (Go.Value.int Go.IntKind.i64 5)) 3, 4)]) (b := [(7, 1), (8, 1)]) (by kernel_rfl) ?_
    refine OpK.cmp rfl rfl rfl ?_
    refine CWL.condF rfl ?_
    simp only [flat, List.cons_append, List.nil_append, List.append_nil]
    refine CWL.reg (ops := [(.binOp .eql 3 (.tmp 12) (.const (Go.Value.int Go.IntKind.i64 4)) 3, 4)]) (b := [(34, 1), (35, 1)]) (by kernel_rfl) ?_
    refine OpK.cmp rfl rfl rfl ?_
    refine CWL.condT rfl ?_
    simp only [flat, List.cons_append, List.nil_append, List.append_nil]
    refine CWL.reg (ops := [(.binOp .and 71 (.tmp 2) (.const (Go.Value.int Go.IntKind.u32 127)) 71, 71), (.binOp .or 71 (.tmp 1) (.const (Go.Value.int Go.IntKind.u32 128)) 71, 71), (.convert 71 5 (.tmp 3), 5), (.binOp .shr 71 (.tmp 2) (.const (Go.Value.int Go.IntKind.u64 7)) 200, 71), (.binOp .and 71 (.tmp 7) (.const (Go.Value.int Go.IntKind.u32 127)) 71, 71), (.binOp .or 71 (.tmp 9) (.const (Go.Value.int Go.IntKind.u32 128)) 71, 71), (.convert 71 5 (.tmp 11), 5), (.binOp .shr 71 (.tmp 2) (.const (Go.Value.int Go.IntKind.u64 14)) 200, 71), (.binOp .and 71 (.tmp 15) (.const (Go.Value.int Go.IntKind.u32 127)) 71, 71), (.binOp .or 71 (.tmp 17) (.const (Go.Value.int Go.IntKind.u32 128)) 71, 71), (.convert 71 5 (.tmp 19), 5), (.binOp .shr 71 (.tmp 2) (.const (Go.Value.int Go.IntKind.u64 21)) 200, 71), (.convert 71 5 (.tmp 23), 5), (.buildSlice 22 4 #[(0, .tmp 5), (1, .tmp 13), (2, .tmp 21), (3, .tmp 25)], 22), (.call ⟨.builtin .append, #[.tmp 0, .tmp 27], #[22, 22]⟩, 22)]) (b := [(4, 29), (55, 29), (54, 27), (53, 25), (52, 23), (51, 2), (50, 21), (49, 19), (48, 17), (47, 15), (46, 2), (45, 13), (44, 11), (43, 9), (42, 7), (41, 2), (40, 5), (39, 3), (38, 1), (37, 2), (36, 0)]) (by kernel_rfl) ?_
    refine OpK.and rfl rfl ?_
    refine OpK.or rfl rfl ?_
    refine OpK.convInt (k' := .u8) (by kernel_rfl) (by kernel_rfl) rfl ?_
    refine OpK.shr rfl rfl (by decide) ?_
    refine OpK.and rfl rfl ?_
    refine OpK.or rfl rfl ?_
    refine OpK.convInt (k' := .u8) (by kernel_rfl) (by kernel_rfl) rfl ?_
    refine OpK.shr rfl rfl (by decide) ?_
    refine OpK.and rfl rfl ?_
    refine OpK.or rfl rfl ?_
    refine OpK.convInt (k' := .u8) (by kernel_rfl) (by kernel_rfl) rfl ?_
    refine OpK.shr rfl rfl (by decide) ?_
    refine OpK.convInt (k' := .u8) (by kernel_rfl) (by kernel_rfl) rfl ?_
    refine OpK.buildS (by simp only [List.map_toArray, List.map_cons, List.map_nil]; exact run_bs4 (by kernel_rfl) u8 _ _ _ _) ?_
    refine OpK.run rfl hr ?_
    refine CWL.ret ?_
    exact ⟨_, rfl, hg⟩
  · skip
    have hk : uvLen n = 5 := by unfold uvLen; repeat' split <;> try omega
    have hc : (uvar n).map bv = [.int .u8 (IntKind.u8.wrap (bits .or .u32 (bits .and .u32 (n : Int) 127) 128)), .int .u8 (IntKind.u8.wrap (bits .or .u32 (bits .and .u32 ((n : Int) / 2 ^ min ((7 : Int).toNat) IntKind.u32.bits) 127) 128)), .int .u8 (IntKind.u8.wrap (bits .or .u32 (bits .and .u32 ((n : Int) / 2 ^ min ((14 : Int).toNat) IntKind.u32.bits) 127) 128)), .int .u8 (IntKind.u8.wrap (bits .or .u32 (bits .and .u32 ((n : Int) / 2 ^ min ((21 : Int).toNat) IntKind.u32.bits) 127) 128)), .int .u8 (IntKind.u8.wrap ((n : Int) / 2 ^ min ((28 : Int).toNat) IntKind.u32.bits))] := by
      rw [uv5 h hn]
      simp only [List.map_cons, List.map_nil]
      rw [← grpL n 28 (by omega), ← grp n 21 hn, ← grp n 14 hn, ← grp n 7 hn, ← grp0 n hn]
      rfl
    have hlen : (uvar n).length = 5 := by rw [uv5 h hn]; rfl
    rw [hc, hlen] at hr
    refine Calls.of_CW Tryz.func123 rfl (by decide +kernel) (Nat.le_of_ble_eq_true (by kernel_rfl)) (CW.of_flat ?_)
    simp only [flat, List.cons_append, List.nil_append, List.append_nil]
    refine CWL.reg (ops := [(.assign (.const (Go.Value.slice none 0 0)), 22)]) (b := [(4, 1)]) (by kernel_rfl) ?_
    refine OpK.assign ?_
    refine CWL.reg (ops := [(.call ⟨.value (.func 180), #[.tmp 2], #[71]⟩, 3)]) (b := [(6, 1), (5, 2)]) (by kernel_rfl) ?_
    refine OpK.asCall rfl call180 rfl ((c180 w n hn).mono ?_)
    rintro en w1 ⟨r1, he1, hr1, hw1⟩
    subst hw1
    rw [hk] at hr1
    subst hr1
    refine ⟨_, he1, ?_⟩
    refine CWL.block ?_
    simp only [flat, List.cons_append, List.nil_append, List.append_nil]
    refine CWL.reg (ops := [(.binOp .eql 3 (.tmp 12) (.const (Go.Value.int Go.IntKind.i64 5)) 3, 4)]) (b := [(7, 1), (8, 1)]) (by kernel_rfl) ?_
    refine OpK.cmp rfl rfl rfl ?_
    refine CWL.condT rfl ?_
    simp only [flat, List.cons_append, List.nil_append, List.append_nil]
    refine CWL.reg (ops := [(.binOp .and 71 (.tmp 2) (.const (Go.Value.int Go.IntKind.u32 127)) 71, 71), (.binOp .or 71 (.tmp 1) (.const (Go.Value.int Go.IntKind.u32 128)) 71, 71), (.convert 71 5 (.tmp 3), 5), (.binOp .shr 71 (.tmp 2) (.const (Go.Value.int Go.IntKind.u64 7)) 200, 71), (.binOp .and 71 (.tmp 7) (.const (Go.Value.int Go.IntKind.u32 127)) 71, 71), (.binOp .or 71 (.tmp 9) (.const (Go.Value.int Go.IntKind.u32 128)) 71, 71), (.convert 71 5 (.tmp 11), 5), (.binOp .shr 71 (.tmp 2) (.const (Go.Value.int Go.IntKind.u64 14)) 200, 71), (.binOp .and 71 (.tmp 15) (.const (Go.Value.int Go.IntKind.u32 127)) 71, 71), (.binOp .or 71 (.tmp 17) (.const (Go.Value.int Go.IntKind.u32 128)) 71, 71), (.convert 71 5 (.tmp 19), 5), (.binOp .shr 71 (.tmp 2) (.const (Go.Value.int Go.IntKind.u64 21)) 200, 71), (.binOp .and 71 (.tmp 23) (.const (Go.Value.int Go.IntKind.u32 127)) 71, 71), (.binOp .or 71 (.tmp 25) (.const (Go.Value.int Go.IntKind.u32 128)) 71, 71), (.convert 71 5 (.tmp 27), 5), (.binOp .shr 71 (.tmp 2) (.const (Go.Value.int Go.IntKind.u64 28)) 200, 71), (.convert 71 5 (.tmp 31), 5), (.buildSlice 22 5 #[(0, .tmp 5), (1, .tmp 13), (2, .tmp 21), (3, .tmp 29), (4, .tmp 33)], 22), (.call ⟨.builtin .append, #[.tmp 0, .tmp 35], #[22, 22]⟩, 22)]) (b := [(4, 37), (33, 37), (32, 35), (31, 33), (30, 31), (29, 2), (28, 29), (27, 27), (26, 25), (25, 23), (24, 2), (23, 21), (22, 19), (21, 17), (20, 15), (19, 2), (18, 13), (17, 11), (16, 9), (15, 7), (14, 2), (13, 5), (12, 3), (11, 1), (10, 2), (9, 0)]) (by kernel_rfl) ?_
    refine OpK.and rfl rfl ?_
    refine OpK.or rfl rfl ?_
    refine OpK.convInt (k' := .u8) (by kernel_rfl) (by kernel_rfl) rfl ?_
    refine OpK.shr rfl rfl (by decide) ?_
    refine OpK.and rfl rfl ?_
    refine OpK.or rfl rfl ?_
    refine OpK.convInt (k' := .u8) (by kernel_rfl) (by kernel_rfl) rfl ?_
    refine OpK.shr rfl rfl (by decide) ?_
    refine OpK.and rfl rfl ?_
    refine OpK.or rfl rfl ?_
    refine OpK.convInt (k' := .u8) (by kernel_rfl) (by kernel_rfl) rfl ?_
    refine OpK.shr rfl rfl (by decide) ?_
    refine OpK.and rfl rfl ?_
    refine OpK.or rfl rfl ?_
    refine OpK.convInt (k' := .u8) (by kernel_rfl) (by kernel_rfl) rfl ?_
    refine OpK.shr rfl rfl (by decide) ?_
    refine OpK.convInt (k' := .u8) (by kernel_rfl) (by kernel_rfl) rfl ?_
    refine OpK.buildS (by simp only [List.map_toArray, List.map_cons, List.map_nil]; exact run_bs5 (by kernel_rfl) u8 _ _ _ _ _) ?_
    refine OpK.run rfl hr ?_
    refine CWL.ret ?_
    exact ⟨_, rfl, hg⟩

theorem ok123 (full : Bool) : ApOk Tryz.prog 5 full 123 .uv := by
  intro w n d bs hn hd hl
  exact c123 w n _ rfl hn d bs hd hl

theorem call122 : Callable Tryz.prog 122 := ⟨Tryz.f122, Tryz.func122, by kernel_rfl, by kernel_rfl⟩
set_option maxHeartbeats 4000000 in
theorem c122 (w : World) (l : List UInt8) (d : Value) (bs : List UInt8) (hd : Own 5 w d bs) (hl : bs.length + (encStr false l).length ≤ Lim) : Calls Tryz.prog 122 #[d, strV l] w fun en w' => ∃ d', en = .returned d' ∧ Grew 5 w d w' d' (bs ++ encStr false l) := by
  unfold encStr at hl ⊢
  simp only [if_true, if_false, Bool.false_eq_true, List.length_append, be_length] at hl ⊢
  refine Calls.of_CW Tryz.func122 rfl (by decide +kernel) (Nat.le_of_ble_eq_true (by kernel_rfl)) (CW.of_flat ?_)
  simp only [flat, List.cons_append, List.nil_append, List.append_nil]
  refine CWL.reg (ops := [(.assign (.const (Go.Value.slice none 0 0)), 22)]) (b := [(4, 1)]) (by kernel_rfl) ?_
  refine OpK.assign ?_
  refine CWL.reg (ops := [(.call ⟨.builtin .len, #[.tmp 2], #[9]⟩, 3), (.convert 3 40 (.tmp 1), 40), (.call ⟨.value (.func 134), #[.tmp 0, .tmp 3], #[22, 40]⟩, 22)]) (b := [(0, 5), (9, 5), (8, 3), (7, 1), (6, 2), (5, 0)]) (by kernel_rfl) ?_
  refine OpK.lenStr (by kernel_rfl) rfl ?_
  refine OpK.convInt (k' := .i16) (by kernel_rfl) (by kernel_rfl) rfl ?_
  refine OpK.asCall rfl call134 rfl ((c134 w (IntKind.i16.wrap ((⟨l.toArray⟩ : ByteArray).size : Int)) d bs hd (by omega)).mono ?_)
  rintro en w1 ⟨d1, he1, hg1⟩
  refine ⟨d1, he1, ?_⟩
  rw [be2_i16, size_mk] at hg1
  obtain ⟨v2, w2, hr2, hg2⟩ := run_append_str (ty := 22) (t := 22) (u := 9) u8 und unds hg1.own (l := l) (by simp only [List.length_append, be_length]; omega)
  refine CWL.reg (ops := [(.call ⟨.builtin .append, #[.tmp 0, .tmp 2], #[22, 9]⟩, 22)]) (b := [(4, 1), (12, 1), (11, 2), (10, 0)]) (by kernel_rfl) ?_
  refine OpK.run rfl hr2 ?_
  refine CWL.ret ?_
  exact ⟨_, rfl, by rw [← List.append_assoc]; exact hg1.trans hg2⟩

set_option maxHeartbeats 4000000 in
theorem ok122 (full : Bool) : ApOk Tryz.prog 5 full 122 (.val false .str) := by
  intro w S v cs d bs hr hd hcl hl
  cases v <;> simp only [Rep, Wt.ty] at hr
  rename_i l
  subst hr
  exact c122 w l d bs hd hl

theorem call121 : Callable Tryz.prog 121 := ⟨Tryz.f121, Tryz.func121, by kernel_rfl, by kernel_rfl⟩
set_option maxHeartbeats 4000000 in
theorem c121 (w : World) (l : List UInt8) (d : Value) (bs : List UInt8) (hd : Own 5 w d bs) (hl : bs.length + (encStr true l).length ≤ Lim) : Calls Tryz.prog 121 #[d, strV l] w fun en w' => ∃ d', en = .returned d' ∧ Grew 5 w d w' d' (bs ++ encStr true l) := by
  unfold encStr at hl ⊢
  simp only [if_true, if_false, Bool.false_eq_true, List.length_append, be_length] at hl ⊢
  refine Calls.of_CW Tryz.func121 rfl (by decide +kernel) (Nat.le_of_ble_eq_true (by kernel_rfl)) (CW.of_flat ?_)
  simp only [flat, List.cons_append, List.nil_append, List.append_nil]
  refine CWL.reg (ops := [(.assign (.const (Go.Value.slice none 0 0)), 22)]) (b := [(4, 1)]) (by kernel_rfl) ?_
  refine OpK.assign ?_
  refine CWL.reg (ops := [(.call ⟨.builtin .len, #[.tmp 2], #[9]⟩, 3), (.convert 3 71 (.tmp 1), 71), (.binOp .add 71 (.const (Go.Value.int Go.IntKind.u32 1)) (.tmp 3) 71, 71), (.call ⟨.value (.func 123), #[.tmp 0, .tmp 5], #[22, 71]⟩, 22)]) (b := [(0, 7), (10, 7), (9, 5), (8, 3), (7, 1), (6, 2), (5, 0)]) (by kernel_rfl) ?_
  refine OpK.lenStr (by kernel_rfl) rfl ?_
  refine OpK.convInt (k' := .u32) (by kernel_rfl) (by kernel_rfl) rfl ?_
  refine OpK.arith rfl rfl rfl ?_
  refine OpK.asCall rfl call123 rfl ((c123 w (word (l.length + 1)) _ (by rw [size_mk]; exact word_succ _) (word_lt _) d bs hd (by omega)).mono ?_)
  rintro en w1 ⟨d1, he1, hg1⟩
  refine ⟨d1, he1, ?_⟩
  obtain ⟨v2, w2, hr2, hg2⟩ := run_append_str (ty := 22) (t := 22) (u := 9) u8 und unds hg1.own (l := l) (by simp only [List.length_append, be_length]; omega)
  refine CWL.reg (ops := [(.call ⟨.builtin .append, #[.tmp 0, .tmp 2], #[22, 9]⟩, 22)]) (b := [(4, 1), (13, 1), (12, 2), (11, 0)]) (by kernel_rfl) ?_
  refine OpK.run rfl hr2 ?_
  refine CWL.ret ?_
  exact ⟨_, rfl, by rw [← List.append_assoc]; exact hg1.trans hg2⟩

set_option maxHeartbeats 4000000 in
theorem ok121 (full : Bool) : ApOk Tryz.prog 5 full 121 (.val true .str) := by
  intro w S v cs d bs hr hd hcl hl
  cases v <;> simp only [Rep, Wt.ty] at hr
  rename_i l
  subst hr
  exact c121 w l d bs hd hl

theorem call162 : Callable Tryz.prog 162 := ⟨Tryz.f162, Tryz.func162, by kernel_rfl, by kernel_rfl⟩
set_option maxHeartbeats 4000000 in
theorem c162 (w : World) (l : List UInt8) (a : Option Addr) (c : Nat) (d : Value) (bs : List UInt8) (ha : a = none → l = []) (hO : ∀ a', a = some a' → Oct w a' l ∧ a'.block < w.heap.size ∧ d.ownBlock ≠ some a'.block) (hd : Own 5 w d bs) (hl : bs.length + (encByt false l).length ≤ Lim) : Calls Tryz.prog 162 #[d, .slice a l.length c] w fun en w' => ∃ d', en = .returned d' ∧ Grew 5 w d w' d' (bs ++ encByt false l) := by
  unfold encByt at hl ⊢
  simp only [if_true, if_false, Bool.false_eq_true, List.length_append, be_length] at hl ⊢
  refine Calls.of_CW Tryz.func162 rfl (by decide +kernel) (Nat.le_of_ble_eq_true (by kernel_rfl)) (CW.of_flat ?_)
  simp only [flat, List.cons_append, List.nil_append, List.append_nil]
  refine CWL.reg (ops := [(.assign (.const (Go.Value.slice none 0 0)), 22)]) (b := [(4, 1)]) (by kernel_rfl) ?_
  refine OpK.assign ?_
  refine CWL.reg (ops := [(.call ⟨.builtin .len, #[.tmp 2], #[22]⟩, 3), (.convert 3 21 (.tmp 1), 21), (.call ⟨.value (.func 129), #[.tmp 0, .tmp 3], #[22, 21]⟩, 22)]) (b := [(0, 5), (9, 5), (8, 3), (7, 1), (6, 2), (5, 0)]) (by kernel_rfl) ?_
  refine OpK.len (e := 5) (by kernel_rfl) rfl ?_
  refine OpK.convInt (k' := .i32) (by kernel_rfl) (by kernel_rfl) rfl ?_
  refine OpK.asCall rfl call129 rfl ((c129 w (IntKind.i32.wrap (l.length : Int)) d bs hd (by omega)).mono ?_)
  rintro en w1 ⟨d1, he1, hg1⟩
  refine ⟨d1, he1, ?_⟩
  rw [be4_i32] at hg1
  obtain ⟨v2, w2, hr2, hg2⟩ := run_append_oct (ty := 22) (t := 22) u8 und hg1.own (a := a) (l := l) (c := c) ha (fun a' h => (hO a' h).1.keep (hg1.keep (hO a' h).2.1 (hO a' h).2.2)) (by simp only [List.length_append, be_length]; omega)
  refine CWL.reg (ops := [(.call ⟨.builtin .append, #[.tmp 0, .tmp 2], #[22, 22]⟩, 22)]) (b := [(4, 1), (12, 1), (11, 2), (10, 0)]) (by kernel_rfl) ?_
  refine OpK.run rfl hr2 ?_
  refine CWL.ret ?_
  exact ⟨_, rfl, by rw [← List.append_assoc]; exact hg1.trans hg2⟩

set_option maxHeartbeats 4000000 in
theorem ok162 (full : Bool) : ApOk Tryz.prog 5 full 162 (.val false .byt) := by
  intro w S v cs d bs hr hd hcl hl
  cases v <;> simp only [Rep, Wt.ty] at hr
  · subst hr
    exact c162 w [] none 0 d bs (fun _ => rfl) (fun a h => by cases h) hd hl
  · rename_i l
    obtain ⟨a, c, rfl, hc, hS, hO⟩ := hr
    exact c162 w l (some a) c d bs (fun h => by cases h) (fun a' h => by cases h; exact ⟨hO, hcl _ hS⟩) hd hl

theorem call161 : Callable Tryz.prog 161 := ⟨Tryz.f161, Tryz.func161, by kernel_rfl, by kernel_rfl⟩
set_option maxHeartbeats 4000000 in
theorem c161 (w : World) (l : List UInt8) (a : Option Addr) (c : Nat) (d : Value) (bs : List UInt8) (ha : a = none → l = []) (hO : ∀ a', a = some a' → Oct w a' l ∧ a'.block < w.heap.size ∧ d.ownBlock ≠ some a'.block) (hd : Own 5 w d bs) (hl : bs.length + (encByt true l).length ≤ Lim) : Calls Tryz.prog 161 #[d, .slice a l.length c] w fun en w' => ∃ d', en = .returned d' ∧ Grew 5 w d w' d' (bs ++ encByt true l) := by
  unfold encByt at hl ⊢
  simp only [if_true, if_false, Bool.false_eq_true, List.length_append, be_length] at hl ⊢
  refine Calls.of_CW Tryz.func161 rfl (by decide +kernel) (Nat.le_of_ble_eq_true (by kernel_rfl)) (CW.of_flat ?_)
  simp only [flat, List.cons_append, List.nil_append, List.append_nil]
  refine CWL.reg (ops := [(.assign (.const (Go.Value.slice none 0 0)), 22)]) (b := [(4, 1)]) (by kernel_rfl) ?_
  refine OpK.assign ?_
  refine CWL.reg (ops := [(.call ⟨.builtin .len, #[.tmp 2], #[22]⟩, 3), (.convert 3 71 (.tmp 1), 71), (.binOp .add 71 (.const (Go.Value.int Go.IntKind.u32 1)) (.tmp 3) 71, 71), (.call ⟨.value (.func 123), #[.tmp 0, .tmp 5], #[22, 71]⟩, 22)]) (b := [(0, 7), (10, 7), (9, 5), (8, 3), (7, 1), (6, 2), (5, 0)]) (by kernel_rfl) ?_
  refine OpK.len (e := 5) (by kernel_rfl) rfl ?_
  refine OpK.convInt (k' := .u32) (by kernel_rfl) (by kernel_rfl) rfl ?_
  refine OpK.arith rfl rfl rfl ?_
  refine OpK.asCall rfl call123 rfl ((c123 w (word (l.length + 1)) _ (by exact word_succ _) (word_lt _) d bs hd (by omega)).mono ?_)
  rintro en w1 ⟨d1, he1, hg1⟩
  refine ⟨d1, he1, ?_⟩
  obtain ⟨v2, w2, hr2, hg2⟩ := run_append_oct (ty := 22) (t := 22) u8 und hg1.own (a := a) (l := l) (c := c) ha (fun a' h => (hO a' h).1.keep (hg1.keep (hO a' h).2.1 (hO a' h).2.2)) (by simp only [List.length_append, be_length]; omega)
  refine CWL.reg (ops := [(.call ⟨.builtin .append, #[.tmp 0, .tmp 2], #[22, 22]⟩, 22)]) (b := [(4, 1), (13, 1), (12, 2), (11, 0)]) (by kernel_rfl) ?_
  refine OpK.run rfl hr2 ?_
  refine CWL.ret ?_
  exact ⟨_, rfl, by rw [← List.append_assoc]; exact hg1.trans hg2⟩

set_option maxHeartbeats 4000000 in
theorem ok161 (full : Bool) : ApOk Tryz.prog 5 full 161 (.val true .byt) := by
  intro w S v cs d bs hr hd hcl hl
  cases v <;> simp only [Rep, Wt.ty] at hr
  · subst hr
    exact c161 w [] none 0 d bs (fun _ => rfl) (fun a h => by cases h) hd hl
  · rename_i l
    obtain ⟨a, c, rfl, hc, hS, hO⟩ := hr
    exact c161 w l (some a) c d bs (fun h => by cases h) (fun a' h => by cases h; exact ⟨hO, hcl _ hS⟩) hd hl

theorem call136 : Callable Tryz.prog 136 := ⟨Tryz.f136, Tryz.func136, by kernel_rfl, by kernel_rfl⟩
set_option maxHeartbeats 4000000 in
theorem ok136 (full : Bool) : ApOk Tryz.prog 5 full 136 (.val false .nstr) := by
  intro w S v cs d bs hr hd hcl hl
  cases v <;> simp only [Rep, Wt.ty] at hr
  · skip
    subst hr
    refine Calls.of_CW Tryz.func136 rfl (by decide +kernel) (Nat.le_of_ble_eq_true (by kernel_rfl)) (CW.of_flat ?_)
    simp only [flat, List.cons_append, List.nil_append, List.append_nil]
    refine CWL.reg (ops := [(.assign (.const (Go.Value.slice none 0 0)), 22)]) (b := [(4, 1)]) (by kernel_rfl) ?_
    refine OpK.assign ?_
    refine CWL.reg (ops := [(.binOp .eql 112 (.tmp 2) (.const (Go.Value.pointer none)) 112, 4)]) (b := [(6, 1), (5, 2)]) (by kernel_rfl) ?_
    refine OpK.eqNilPtr (e := 9) (by kernel_rfl) rfl rfl ?_
    refine CWL.condT rfl ?_
    simp only [flat, List.cons_append, List.nil_append, List.append_nil]
    refine CWL.reg (ops := [(.call ⟨.value (.func 134), #[.tmp 0, .const (Go.Value.int Go.IntKind.i16 (-1))], #[22, 40]⟩, 22)]) (b := [(4, 1), (8, 1), (7, 0)]) (by kernel_rfl) ?_
    refine OpK.asCall rfl call134 rfl ((c134 w (-1) d bs hd hl).mono ?_)
    rintro en w1 ⟨d1, he1, hg1⟩
    refine ⟨d1, he1, ?_⟩
    refine CWL.ret ?_
    exact ⟨_, rfl, hg1⟩
  · skip
    rename_i l
    obtain ⟨g0, rfl, hS, hc0⟩ := hr
    refine Calls.of_CW Tryz.func136 rfl (by decide +kernel) (Nat.le_of_ble_eq_true (by kernel_rfl)) (CW.of_flat ?_)
    simp only [flat, List.cons_append, List.nil_append, List.append_nil]
    refine CWL.reg (ops := [(.assign (.const (Go.Value.slice none 0 0)), 22)]) (b := [(4, 1)]) (by kernel_rfl) ?_
    refine OpK.assign ?_
    refine CWL.reg (ops := [(.binOp .eql 112 (.tmp 2) (.const (Go.Value.pointer none)) 112, 4)]) (b := [(6, 1), (5, 2)]) (by kernel_rfl) ?_
    refine OpK.eqNilPtr (e := 9) (by kernel_rfl) rfl rfl ?_
    refine CWL.condF rfl ?_
    simp only [flat, List.cons_append, List.nil_append, List.append_nil]
    refine CWL.reg (ops := [(.nilCheck (.tmp 2), 0), (.load 9 (.tmp 1), 9), (.call ⟨.value (.func 122), #[.tmp 0, .tmp 3], #[22, 9]⟩, 22)]) (b := [(4, 5), (13, 5), (12, 3), (11, 1), (10, 2), (9, 0)]) (by kernel_rfl) ?_
    refine OpK.nilCheck rfl ?_
    refine OpK.load (by kernel_rfl) rfl hc0 ?_
    refine OpK.asCall rfl call122 rfl ((c122 w l d bs hd hl).mono ?_)
    rintro en w1 ⟨d1, he1, hg1⟩
    refine ⟨d1, he1, ?_⟩
    refine CWL.ret ?_
    exact ⟨_, rfl, hg1⟩

theorem call135 : Callable Tryz.prog 135 := ⟨Tryz.f135, Tryz.func135, by kernel_rfl, by kernel_rfl⟩
set_option maxHeartbeats 4000000 in
theorem ok135 (full : Bool) : ApOk Tryz.prog 5 full 135 (.val true .nstr) := by
  intro w S v cs d bs hr hd hcl hl
  cases v <;> simp only [Rep, Wt.ty] at hr
  · skip
    subst hr
    refine Calls.of_CW Tryz.func135 rfl (by decide +kernel) (Nat.le_of_ble_eq_true (by kernel_rfl)) (CW.of_flat ?_)
    simp only [flat, List.cons_append, List.nil_append, List.append_nil]
    refine CWL.reg (ops := [(.assign (.const (Go.Value.slice none 0 0)), 22)]) (b := [(4, 1)]) (by kernel_rfl) ?_
    refine OpK.assign ?_
    refine CWL.reg (ops := [(.binOp .eql 112 (.tmp 2) (.const (Go.Value.pointer none)) 112, 4)]) (b := [(6, 1), (5, 2)]) (by kernel_rfl) ?_
    refine OpK.eqNilPtr (e := 9) (by kernel_rfl) rfl rfl ?_
    refine CWL.condT rfl ?_
    simp only [flat, List.cons_append, List.nil_append, List.append_nil]
    refine CWL.reg (ops := [(.call ⟨.value (.func 123), #[.tmp 0, .const (Go.Value.int Go.IntKind.u32 0)], #[22, 71]⟩, 22)]) (b := [(4, 1), (8, 1), (7, 0)]) (by kernel_rfl) ?_
    refine OpK.asCall rfl call123 rfl ((c123 w 0 _ rfl (by decide) d bs hd hl).mono ?_)
    rintro en w1 ⟨d1, he1, hg1⟩
    refine ⟨d1, he1, ?_⟩
    refine CWL.ret ?_
    exact ⟨_, rfl, hg1⟩
  · skip
    rename_i l
    obtain ⟨g0, rfl, hS, hc0⟩ := hr
    refine Calls.of_CW Tryz.func135 rfl (by decide +kernel) (Nat.le_of_ble_eq_true (by kernel_rfl)) (CW.of_flat ?_)
    simp only [flat, List.cons_append, List.nil_append, List.append_nil]
    refine CWL.reg (ops := [(.assign (.const (Go.Value.slice none 0 0)), 22)]) (b := [(4, 1)]) (by kernel_rfl) ?_
    refine OpK.assign ?_
    refine CWL.reg (ops := [(.binOp .eql 112 (.tmp 2) (.const (Go.Value.pointer none)) 112, 4)]) (b := [(6, 1), (5, 2)]) (by kernel_rfl) ?_
    refine OpK.eqNilPtr (e := 9) (by kernel_rfl) rfl rfl ?_
    refine CWL.condF rfl ?_
    simp only [flat, List.cons_append, List.nil_append, List.append_nil]
    refine CWL.reg (ops := [(.nilCheck (.tmp 2), 0), (.load 9 (.tmp 1), 9), (.call ⟨.value (.func 121), #[.tmp 0, .tmp 3], #[22, 9]⟩, 22)]) (b := [(4, 5), (13, 5), (12, 3), (11, 1), (10, 2), (9, 0)]) (by kernel_rfl) ?_
    refine OpK.nilCheck rfl ?_
    refine OpK.load (by kernel_rfl) rfl hc0 ?_
    refine OpK.asCall rfl call121 rfl ((c121 w l d bs hd hl).mono ?_)
    rintro en w1 ⟨d1, he1, hg1⟩
    refine ⟨d1, he1, ?_⟩
    refine CWL.ret ?_
    exact ⟨_, rfl, hg1⟩

theorem call131 : Callable Tryz.prog 131 := ⟨Tryz.f131, Tryz.func131, by kernel_rfl, by kernel_rfl⟩
set_option maxHeartbeats 4000000 in
theorem ok131 (full : Bool) : ApOk Tryz.prog 5 full 131 (.len false) := by
  intro w n d bs hd hl
  refine Calls.of_CW Tryz.func131 rfl (by decide +kernel) (Nat.le_of_ble_eq_true (by kernel_rfl)) (CW.of_flat ?_)
  simp only [flat, List.cons_append, List.nil_append, List.append_nil]
  refine CWL.reg (ops := [(.assign (.const (Go.Value.slice none 0 0)), 22)]) (b := [(4, 1)]) (by kernel_rfl) ?_
  refine OpK.assign ?_
  refine CWL.reg (ops := [(.convert 3 21 (.tmp 2), 21), (.call ⟨.value (.func 129), #[.tmp 0, .tmp 1], #[22, 21]⟩, 22)]) (b := [(4, 3), (8, 3), (7, 1), (6, 2), (5, 0)]) (by kernel_rfl) ?_
  refine OpK.convInt (k' := .i32) (by kernel_rfl) (by kernel_rfl) rfl ?_
  refine OpK.asCall rfl call129 rfl ((c129 w (IntKind.i32.wrap (n : Int)) d bs hd hl).mono ?_)
  rintro en w1 ⟨d1, he1, hg1⟩
  refine ⟨d1, he1, ?_⟩
  rw [be4_i32] at hg1
  refine CWL.ret ?_
  exact ⟨_, rfl, hg1⟩

theorem call130 : Callable Tryz.prog 130 := ⟨Tryz.f130, Tryz.func130, by kernel_rfl, by kernel_rfl⟩
set_option maxHeartbeats 4000000 in
theorem ok130 (full : Bool) : ApOk Tryz.prog 5 full 130 (.len true) := by
  intro w n d bs hd hl
  refine Calls.of_CW Tryz.func130 rfl (by decide +kernel) (Nat.le_of_ble_eq_true (by kernel_rfl)) (CW.of_flat ?_)
  simp only [flat, List.cons_append, List.nil_append, List.append_nil]
  refine CWL.reg (ops := [(.assign (.const (Go.Value.slice none 0 0)), 22)]) (b := [(4, 1)]) (by kernel_rfl) ?_
  refine OpK.assign ?_
  refine CWL.reg (ops := [(.convert 3 71 (.tmp 2), 71), (.binOp .add 71 (.const (Go.Value.int Go.IntKind.u32 1)) (.tmp 1) 71, 71), (.call ⟨.value (.func 123), #[.tmp 0, .tmp 3], #[22, 71]⟩, 22)]) (b := [(4, 5), (9, 5), (8, 3), (7, 1), (6, 2), (5, 0)]) (by kernel_rfl) ?_
  refine OpK.convInt (k' := .u32) (by kernel_rfl) (by kernel_rfl) rfl ?_
  refine OpK.arith rfl rfl rfl ?_
  refine OpK.asCall rfl call123 rfl ((c123 w (word (n + 1)) _ (word_succ _) (word_lt _) d bs hd hl).mono ?_)
  rintro en w1 ⟨d1, he1, hg1⟩
  refine ⟨d1, he1, ?_⟩
  refine CWL.ret ?_
  exact ⟨_, rfl, hg1⟩

theorem call120 : Callable Tryz.prog 120 := ⟨Tryz.f120, Tryz.func120, by kernel_rfl, by kernel_rfl⟩
set_option maxHeartbeats 4000000 in
theorem ok120 (full : Bool) : ApOk Tryz.prog 5 full 120 (.nlen false) := by
  intro w n b d bs hd hl
  cases b
  · skip
    refine Calls.of_CW Tryz.func120 rfl (by decide +kernel) (Nat.le_of_ble_eq_true (by kernel_rfl)) (CW.of_flat ?_)
    simp only [flat, List.cons_append, List.nil_append, List.append_nil]
    refine CWL.reg (ops := [(.assign (.const (Go.Value.slice none 0 0)), 22)]) (b := [(6, 1)]) (by kernel_rfl) ?_
    refine OpK.assign ?_
    refine CWL.reg (ops := []) (b := [(7, 4)]) (by kernel_rfl) ?_
    refine CWL.condF rfl ?_
    simp only [flat, List.cons_append, List.nil_append, List.append_nil]
    refine CWL.reg (ops := [(.convert 3 21 (.tmp 2), 21), (.call ⟨.value (.func 129), #[.tmp 0, .tmp 1], #[22, 21]⟩, 22)]) (b := [(6, 3), (13, 3), (12, 1), (11, 2), (10, 0)]) (by kernel_rfl) ?_
    refine OpK.convInt (k' := .i32) (by kernel_rfl) (by kernel_rfl) rfl ?_
    refine OpK.asCall rfl call129 rfl ((c129 w (IntKind.i32.wrap (n : Int)) d bs hd hl).mono ?_)
    rintro en w1 ⟨d1, he1, hg1⟩
    refine ⟨d1, he1, ?_⟩
    rw [be4_i32] at hg1
    refine CWL.ret ?_
    exact ⟨_, rfl, hg1⟩
  · skip
    refine Calls.of_CW Tryz.func120 rfl (by decide +kernel) (Nat.le_of_ble_eq_true (by kernel_rfl)) (CW.of_flat ?_)
    simp only [flat, List.cons_append, List.nil_append, List.append_nil]
    refine CWL.reg (ops := [(.assign (.const (Go.Value.slice none 0 0)), 22)]) (b := [(6, 1)]) (by kernel_rfl) ?_
    refine OpK.assign ?_
    refine CWL.reg (ops := []) (b := [(7, 4)]) (by kernel_rfl) ?_
    refine CWL.condT rfl ?_
    simp only [flat, List.cons_append, List.nil_append, List.append_nil]
    refine CWL.reg (ops := [(.call ⟨.value (.func 129), #[.tmp 0, .const (Go.Value.int Go.IntKind.i32 (-1))], #[22, 21]⟩, 22)]) (b := [(6, 1), (9, 1), (8, 0)]) (by kernel_rfl) ?_
    refine OpK.asCall rfl call129 rfl ((c129 w (-1) d bs hd hl).mono ?_)
    rintro en w1 ⟨d1, he1, hg1⟩
    refine ⟨d1, he1, ?_⟩
    refine CWL.ret ?_
    exact ⟨_, rfl, hg1⟩

theorem call119 : Callable Tryz.prog 119 := ⟨Tryz.f119, Tryz.func119, by kernel_rfl, by kernel_rfl⟩
set_option maxHeartbeats 4000000 in
theorem ok119 (full : Bool) : ApOk Tryz.prog 5 full 119 (.nlen true) := by
  intro w n b d bs hd hl
  cases b
  · skip
    refine Calls.of_CW Tryz.func119 rfl (by decide +kernel) (Nat.le_of_ble_eq_true (by kernel_rfl)) (CW.of_flat ?_)
    simp only [flat, List.cons_append, List.nil_append, List.append_nil]
    refine CWL.reg (ops := [(.assign (.const (Go.Value.slice none 0 0)), 22)]) (b := [(6, 1)]) (by kernel_rfl) ?_
    refine OpK.assign ?_
    refine CWL.reg (ops := []) (b := [(7, 4)]) (by kernel_rfl) ?_
    refine CWL.condF rfl ?_
    simp only [flat, List.cons_append, List.nil_append, List.append_nil]
    refine CWL.reg (ops := [(.convert 3 71 (.tmp 2), 71), (.binOp .add 71 (.const (Go.Value.int Go.IntKind.u32 1)) (.tmp 1) 71, 71), (.call ⟨.value (.func 123), #[.tmp 0, .tmp 3], #[22, 71]⟩, 22)]) (b := [(6, 5), (14, 5), (13, 3), (12, 1), (11, 2), (10, 0)]) (by kernel_rfl) ?_
    refine OpK.convInt (k' := .u32) (by kernel_rfl) (by kernel_rfl) rfl ?_
    refine OpK.arith rfl rfl rfl ?_
    refine OpK.asCall rfl call123 rfl ((c123 w (word (n + 1)) _ (word_succ _) (word_lt _) d bs hd hl).mono ?_)
    rintro en w1 ⟨d1, he1, hg1⟩
    refine ⟨d1, he1, ?_⟩
    refine CWL.ret ?_
    exact ⟨_, rfl, hg1⟩
  · skip
    refine Calls.of_CW Tryz.func119 rfl (by decide +kernel) (Nat.le_of_ble_eq_true (by kernel_rfl)) (CW.of_flat ?_)
    simp only [flat, List.cons_append, List.nil_append, List.append_nil]
    refine CWL.reg (ops := [(.assign (.const (Go.Value.slice none 0 0)), 22)]) (b := [(6, 1)]) (by kernel_rfl) ?_
    refine OpK.assign ?_
    refine CWL.reg (ops := []) (b := [(7, 4)]) (by kernel_rfl) ?_
    refine CWL.condT rfl ?_
    simp only [flat, List.cons_append, List.nil_append, List.append_nil]
    refine CWL.reg (ops := [(.call ⟨.value (.func 123), #[.tmp 0, .const (Go.Value.int Go.IntKind.u32 0)], #[22, 71]⟩, 22)]) (b := [(6, 1), (9, 1), (8, 0)]) (by kernel_rfl) ?_
    refine OpK.asCall rfl call123 rfl ((c123 w 0 _ rfl (by decide) d bs hd hl).mono ?_)
    rintro en w1 ⟨d1, he1, hg1⟩
    refine ⟨d1, he1, ?_⟩
    refine CWL.ret ?_
    exact ⟨_, rfl, hg1⟩

theorem call124 : Callable Tryz.prog 124 := ⟨Tryz.f124, Tryz.func124, by kernel_rfl, by kernel_rfl⟩
theorem undm : Tryz.prog.underlying 76 = some (.map 71 22) := by kernel_rfl
set_option maxHeartbeats 4000000 in
theorem ok124 (full : Bool) : ApOk Tryz.prog 5 full 124 .tlen := by
  intro w S g o v hf0 hi
  obtain ⟨cs, hr, ha⟩ := hi
  cases v <;> simp only [Rep] at hr
  rename_i l
  have key : Calls Tryz.prog 124 #[.pointer (some ⟨g, o, none⟩)] w fun en w' => ∃ r, en = .returned r ∧ r = .int .i64 ((V.tags l).tagsOf.length : Int) ∧ w' = w := by
    rcases hr with ⟨rfl, rfl⟩ | ⟨r, es, clk, rfl, hS, hm, hnd, h2⟩
    · skip
      refine Calls.of_CW Tryz.func124 rfl (by decide +kernel) (Nat.le_of_ble_eq_true (by kernel_rfl)) (CW.of_flat ?_)
      simp only [flat, List.cons_append, List.nil_append, List.append_nil]
      refine CWL.reg (ops := [(.assign (.const (Go.Value.int Go.IntKind.i64 0)), 3)]) (b := [(2, 1)]) (by kernel_rfl) ?_
      refine OpK.assign ?_
      refine CWL.reg (ops := [(.nilCheck (.tmp 0), 0), (.fieldAddr 78 (.tmp 1) 0, 0), (.load 76 (.tmp 3), 76), (.call ⟨.builtin .len, #[.tmp 5], #[76]⟩, 3)]) (b := [(2, 7), (7, 7), (6, 5), (5, 3), (4, 1), (3, 0)]) (by kernel_rfl) ?_
      refine OpK.nilCheck rfl ?_
      refine OpK.fieldAddr (off := 0) (by kernel_rfl) rfl ?_
      refine OpK.load (by kernel_rfl) rfl (ha 0 _ rfl) ?_
      refine OpK.lenMap0 undm rfl ?_
      refine CWL.ret ?_
      exact ⟨_, rfl, rfl, rfl⟩
    · skip
      refine Calls.of_CW Tryz.func124 rfl (by decide +kernel) (Nat.le_of_ble_eq_true (by kernel_rfl)) (CW.of_flat ?_)
      simp only [flat, List.cons_append, List.nil_append, List.append_nil]
      refine CWL.reg (ops := [(.assign (.const (Go.Value.int Go.IntKind.i64 0)), 3)]) (b := [(2, 1)]) (by kernel_rfl) ?_
      refine OpK.assign ?_
      refine CWL.reg (ops := [(.nilCheck (.tmp 0), 0), (.fieldAddr 78 (.tmp 1) 0, 0), (.load 76 (.tmp 3), 76), (.call ⟨.builtin .len, #[.tmp 5], #[76]⟩, 3)]) (b := [(2, 7), (7, 7), (6, 5), (5, 3), (4, 1), (3, 0)]) (by kernel_rfl) ?_
      refine OpK.nilCheck rfl ?_
      refine OpK.fieldAddr (off := 0) (by kernel_rfl) rfl ?_
      refine OpK.load (by kernel_rfl) rfl (ha 0 _ rfl) ?_
      refine OpK.lenMap undm rfl hm ?_
      refine CWL.ret ?_
      exact ⟨_, rfl, congrArg (fun n : Nat => Value.int .i64 (n : Int)) (show es.size = l.length by rw [← h2.len]; simp), rfl⟩
  exact key.mono fun en w' ⟨r, h1, h2, h3⟩ => ⟨by rw [h1, h2], h3⟩

theorem call181 : Callable Tryz.prog 181 := ⟨Tryz.f181, Tryz.func181, by kernel_rfl, by kernel_rfl⟩
set_option maxHeartbeats 4000000 in
theorem each0 (w : World) (g o : Nat) (m fv : Value) (hc : w.cell? ⟨g, o + 0, none⟩ = some m) (hm : m = .map none ∨ ∃ r clk, m = .map (some r) ∧ w.heap[r]? = some (.map #[] clk)) : Calls Tryz.prog 181 #[.pointer (some ⟨g, o, none⟩), fv] w fun en w' => ∃ r, en = .returned r ∧ w' = w := by
  rcases hm with rfl | ⟨r, clk, rfl, hm⟩
  · skip
    refine Calls.of_CW Tryz.func181 rfl (by decide +kernel) (Nat.le_of_ble_eq_true (by kernel_rfl)) (CW.of_flat ?_)
    simp only [flat, List.cons_append, List.nil_append, List.append_nil]
    refine CWL.reg (ops := [(.nilCheck (.tmp 0), 0), (.fieldAddr 78 (.tmp 1) 0, 0), (.load 76 (.tmp 3), 76), (.call ⟨.builtin .len, #[.tmp 5], #[76]⟩, 3), (.binOp .eql 3 (.tmp 7) (.const (Go.Value.int Go.IntKind.i64 0)) 3, 4)]) (b := [(13, 9), (12, 7), (11, 5), (10, 3), (9, 1), (8, 0)]) (by kernel_rfl) ?_
    refine OpK.nilCheck rfl ?_
    refine OpK.fieldAddr (off := 0) (by kernel_rfl) rfl ?_
    refine OpK.load (by kernel_rfl) rfl hc ?_
    refine OpK.lenMap0 undm rfl ?_
    refine OpK.cmp rfl rfl rfl ?_
    refine CWL.condT rfl ?_
    simp only [flat, List.cons_append, List.nil_append, List.append_nil]
    refine CWL.ret ?_
    exact ⟨_, rfl, rfl⟩
  · skip
    refine Calls.of_CW Tryz.func181 rfl (by decide +kernel) (Nat.le_of_ble_eq_true (by kernel_rfl)) (CW.of_flat ?_)
    simp only [flat, List.cons_append, List.nil_append, List.append_nil]
    refine CWL.reg (ops := [(.nilCheck (.tmp 0), 0), (.fieldAddr 78 (.tmp 1) 0, 0), (.load 76 (.tmp 3), 76), (.call ⟨.builtin .len, #[.tmp 5], #[76]⟩, 3), (.binOp .eql 3 (.tmp 7) (.const (Go.Value.int Go.IntKind.i64 0)) 3, 4)]) (b := [(13, 9), (12, 7), (11, 5), (10, 3), (9, 1), (8, 0)]) (by kernel_rfl) ?_
    refine OpK.nilCheck rfl ?_
    refine OpK.fieldAddr (off := 0) (by kernel_rfl) rfl ?_
    refine OpK.load (by kernel_rfl) rfl hc ?_
    refine OpK.lenMap undm rfl hm ?_
    refine OpK.cmp rfl rfl rfl ?_
    refine CWL.condT rfl ?_
    simp only [flat, List.cons_append, List.nil_append, List.append_nil]
    refine CWL.ret ?_
    exact ⟨_, rfl, rfl⟩
theorem call125 : Callable Tryz.prog 125 := ⟨Tryz.f125, Tryz.func125, by kernel_rfl, by kernel_rfl⟩

set_option maxHeartbeats 4000000 in
theorem ok1250 : ApOk Tryz.prog 5 false 125 .teach := by
  intro w S g o v d bs hf hi hS hd hcl hl
  obtain ⟨cs, hr, ha⟩ := hi
  cases v <;> simp only [Rep] at hr
  rename_i l
  have hl0 : l = [] := by rcases hf with h | h; cases h; exact h
  subst hl0
  have hm : ∃ m, cs = [m] ∧ (m = .map none ∨ ∃ r clk, m = .map (some r) ∧ w.heap[r]? = some (.map #[] clk) ∧ r < w.heap.size) := by
    rcases hr with ⟨rfl, _⟩ | ⟨r, es, clk, rfl, hSr, hm, _, h2⟩
    · exact ⟨_, rfl, .inl rfl⟩
    · refine ⟨_, rfl, .inr ⟨r, clk, rfl, ?_, (hcl r hSr).1⟩⟩
      have : es = #[] := by apply Array.ext'; have := h2.len; simpa using this
      rw [hm, this]
  obtain ⟨m, rfl, hm⟩ := hm
  have hc0 := ha 0 m rfl
  obtain ⟨ad, cp, rfl⟩ : ∃ ad cp, d = .slice ad bs.length cp := by obtain ⟨a, c, h, _⟩ := hd.len; exact ⟨a, c, h⟩
  refine Calls.of_CW Tryz.func125 rfl (by decide +kernel) (Nat.le_of_ble_eq_true (by kernel_rfl)) (CW.of_flat ?_)
  simp only [flat, List.cons_append, List.nil_append, List.append_nil]
  refine CWL.reg (ops := [(.box 22 (.tmp 2), 0), (.assign (.const (Go.Value.slice none 0 0)), 22)]) (b := [(4, 3), (3, 1)]) (by kernel_rfl) ?_
  refine OpK.box ?_
  refine OpK.assign ?_
  refine CWL.reg (ops := [(.makeFunc (.func 182) #[] #[.tmp 6], 212), (.call ⟨.value (.func 181), #[.tmp 0, .tmp 1], #[210, 212]⟩, 0)]) (b := [(7, 3), (6, 1), (5, 0)]) (by kernel_rfl) ?_
  refine OpK.makeFunc ?_
  refine OpK.asCall rfl call181 rfl ((each0 _ g o m _ ((cell_old w _ (hcl g hS).1).trans hc0) (by rcases hm with rfl | ⟨r, clk, rfl, h1, h2⟩; exact .inl rfl; exact .inr ⟨r, clk, rfl, (alloc_old w _ r h2).trans h1⟩)).mono ?_)
  rintro en w1 ⟨r1, he1, rfl⟩
  refine ⟨_, he1, ?_⟩
  refine CWL.reg (ops := [(.load 22 (.tmp 6), 22)]) (b := [(4, 1), (8, 1)]) (by kernel_rfl) ?_
  refine OpK.load (by kernel_rfl) rfl (cell_new w _ _) ?_
  refine CWL.ret ?_
  exact ⟨_, rfl, by rw [show encEach (V.tags []).tagsOf = [] from rfl, List.append_nil]; exact (Grew.refl hd).alloc _⟩

def tab : List (Nat × Ap) := [(150, .val false .bool), (151, .val false .i8), (134, .val false .i16), (193, .val false .u16), (129, .val false .i32), (141, .val false .i64), (140, .val false .uuid), (122, .val false .str), (121, .val true .str), (136, .val false .nstr), (135, .val true .nstr), (162, .val false .byt), (161, .val true .byt), (131, .len false), (130, .len true), (120, .nlen false), (119, .nlen true), (123, .uv), (124, .tlen), (125, .teach)]
theorem sound0 : Sound Tryz.prog 5 false tab := Sound.of_all u8 (all_cons ⟨call150, ok150 false⟩ (all_cons ⟨call151, ok151 false⟩ (all_cons ⟨call134, ok134 false⟩ (all_cons ⟨call193, ok193 false⟩ (all_cons ⟨call129, ok129 false⟩ (all_cons ⟨call141, ok141 false⟩ (all_cons ⟨call140, ok140 false⟩ (all_cons ⟨call122, ok122 false⟩ (all_cons ⟨call121, ok121 false⟩ (all_cons ⟨call136, ok136 false⟩ (all_cons ⟨call135, ok135 false⟩ (all_cons ⟨call162, ok162 false⟩ (all_cons ⟨call161, ok161 false⟩ (all_cons ⟨call131, ok131 false⟩ (all_cons ⟨call130, ok130 false⟩ (all_cons ⟨call120, ok120 false⟩ (all_cons ⟨call119, ok119 false⟩ (all_cons ⟨call123, ok123 false⟩ (all_cons ⟨call124, ok124 false⟩ (all_cons ⟨call125, ok1250⟩ all_nil))))))))))))))))))))
end Go.Proofs.YtngckfpilgjcfaaGreatDoor.Snd
