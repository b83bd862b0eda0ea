/- What the functions of the package that write a value, or a count, do: each writes the octets that the plain functions say, behind the slice that it is given. -/
import Derived.Test.YtmgnfbbgjahnhaaKxDraw
import Derived.Test.YtmgnfbbgjahnhaaKxTg
import Derived.Test.YtmgnfbbgjahnhaaProg
namespace Go.Proofs.Ytmgnfbbgjahnhaa.Snd
open Go.Kx Go.RowKit Go.Proofs
set_option maxRecDepth 100000
set_option linter.unusedSimpArgs false
set_option linter.unusedVariables false

theorem u8 : U8 Try.prog 5 := by unfold U8; kernel_rfl
theorem und : Try.prog.underlying 29 = some (.slice 5) := by kernel_rfl
theorem unds : Try.prog.underlying 9 = some .string := by kernel_rfl

theorem call20 : Callable Try.prog 20 := ⟨Try.f20, Try.func20, by kernel_rfl, by kernel_rfl⟩
set_option maxHeartbeats 4000000 in
theorem c20 (w : World) (n : Int) (d : Value) (bs : List UInt8) (hd : Own 5 w d bs) (hl : bs.length + 1 ≤ Lim) : Calls Try.prog 20 #[d, .int .i8 n] w fun en w' => ∃ d', en = .returned d' ∧ Grew 5 w d w' d' (bs ++ be 1 n) := by
  obtain ⟨v', w', hr, hg⟩ := append_lit (ty := 29) und u8 hd (be 1 n) (by rw [be_length]; exact hl)
  have hc : ((be 1 n).map bv) = [.int .u8 (IntKind.u8.wrap n)] := by
    simp only [be, List.map_cons, List.map_nil]
    rw [← oct_low n]
  rw [hc, be_length] at hr
  refine Calls.of_CW Try.func20 rfl (by decide +kernel) (Nat.le_of_ble_eq_true (by kernel_rfl)) (CW.of_flat ?_)
  simp only [flat, List.cons_append, List.nil_append, List.append_nil]
  refine CWL.reg (ops := [(.assign (.const (Go.Value.slice none 0 0)), 29)]) (b := [(4, 1)]) (by kernel_rfl) ?_
  refine OpK.assign ?_
  refine CWL.reg (ops := [(.convert 30 5 (.tmp 2), 5), (.buildSlice 29 1 #[(0, .tmp 1)], 29), (.call ⟨.builtin .append, #[.tmp 0, .tmp 3], #[29, 29]⟩, 29)]) (b := [(4, 5), (9, 5), (8, 3), (7, 1), (6, 2), (5, 0)]) (by kernel_rfl) ?_
  refine OpK.convInt (k' := .u8) (by kernel_rfl) (by kernel_rfl) rfl ?_
  refine OpK.buildS (by simp only [List.map_toArray, List.map_cons, List.map_nil]; exact run_bs1 (by kernel_rfl) u8 _) ?_
  refine OpK.run rfl hr ?_
  refine CWL.cons (CW.ret ?_)
  exact ⟨_, rfl, hg⟩

theorem call24 : Callable Try.prog 24 := ⟨Try.f24, Try.func24, by kernel_rfl, by kernel_rfl⟩
set_option maxHeartbeats 4000000 in
theorem c24 (w : World) (n : Int) (d : Value) (bs : List UInt8) (hd : Own 5 w d bs) (hl : bs.length + 2 ≤ Lim) : Calls Try.prog 24 #[d, .int .u16 n] w fun en w' => ∃ d', en = .returned d' ∧ Grew 5 w d w' d' (bs ++ be 2 n) := by
  obtain ⟨v', w', hr, hg⟩ := append_lit (ty := 29) und u8 hd (be 2 n) (by rw [be_length]; exact hl)
  have hc : ((be 2 n).map bv) = [.int .u8 (IntKind.u8.wrap (n / 2 ^ min ((8 : Int).toNat) IntKind.u16.bits)), .int .u8 (IntKind.u8.wrap n)] := by
    simp only [be, List.map_cons, List.map_nil]
    rw [← oct_shr n 1 8 rfl, ← oct_low n]
    rfl
  rw [hc, be_length] at hr
  refine Calls.of_CW Try.func24 rfl (by decide +kernel) (Nat.le_of_ble_eq_true (by kernel_rfl)) (CW.of_flat ?_)
  simp only [flat, List.cons_append, List.nil_append, List.append_nil]
  refine CWL.reg (ops := [(.assign (.const (Go.Value.slice none 0 0)), 29)]) (b := [(4, 1)]) (by kernel_rfl) ?_
  refine OpK.assign ?_
  refine CWL.reg (ops := [(.binOp .shr 56 (.tmp 2) (.const (Go.Value.int Go.IntKind.u64 8)) 57, 56), (.convert 56 5 (.tmp 1), 5), (.convert 56 5 (.tmp 2), 5), (.buildSlice 29 2 #[(0, .tmp 3), (1, .tmp 5)], 29), (.call ⟨.builtin .append, #[.tmp 0, .tmp 7], #[29, 29]⟩, 29)]) (b := [(4, 9), (12, 9), (11, 7), (10, 5), (9, 2), (8, 3), (7, 1), (6, 2), (5, 0)]) (by kernel_rfl) ?_
  refine OpK.shr rfl rfl (by decide) ?_
  refine OpK.convInt (k' := .u8) (by kernel_rfl) (by kernel_rfl) rfl ?_
  refine OpK.convInt (k' := .u8) (by kernel_rfl) (by kernel_rfl) rfl ?_
  refine OpK.buildS (by simp only [List.map_toArray, List.map_cons, List.map_nil]; exact run_bs2 (by kernel_rfl) u8 _ _) ?_
  refine OpK.run rfl hr ?_
  refine CWL.cons (CW.ret ?_)
  exact ⟨_, rfl, hg⟩

theorem call23 : Callable Try.prog 23 := ⟨Try.f23, Try.func23, by kernel_rfl, by kernel_rfl⟩
set_option maxHeartbeats 4000000 in
theorem c23 (w : World) (n : Int) (d : Value) (bs : List UInt8) (hd : Own 5 w d bs) (hl : bs.length + 4 ≤ Lim) : Calls Try.prog 23 #[d, .int .u32 n] w fun en w' => ∃ d', en = .returned d' ∧ Grew 5 w d w' d' (bs ++ be 4 n) := by
  obtain ⟨v', w', hr, hg⟩ := append_lit (ty := 29) und u8 hd (be 4 n) (by rw [be_length]; exact hl)
  have hc : ((be 4 n).map bv) = [.int .u8 (IntKind.u8.wrap (n / 2 ^ min ((24 : Int).toNat) IntKind.u32.bits)), .int .u8 (IntKind.u8.wrap (n / 2 ^ min ((16 : Int).toNat) IntKind.u32.bits)), .int .u8 (IntKind.u8.wrap (n / 2 ^ min ((8 : Int).toNat) IntKind.u32.bits)), .int .u8 (IntKind.u8.wrap n)] := by
    simp only [be, List.map_cons, List.map_nil]
    rw [← oct_shr n 3 24 rfl, ← oct_shr n 2 16 rfl, ← oct_shr n 1 8 rfl, ← oct_low n]
    rfl
  rw [hc, be_length] at hr
  refine Calls.of_CW Try.func23 rfl (by decide +kernel) (Nat.le_of_ble_eq_true (by kernel_rfl)) (CW.of_flat ?_)
  simp only [flat, List.cons_append, List.nil_append, List.append_nil]
  refine CWL.reg (ops := [(.assign (.const (Go.Value.slice none 0 0)), 29)]) (b := [(4, 1)]) (by kernel_rfl) ?_
  refine OpK.assign ?_
  refine CWL.reg (ops := [(.binOp .shr 54 (.tmp 2) (.const (Go.Value.int Go.IntKind.u64 24)) 57, 54), (.convert 54 5 (.tmp 1), 5), (.binOp .shr 54 (.tmp 2) (.const (Go.Value.int Go.IntKind.u64 16)) 57, 54), (.convert 54 5 (.tmp 5), 5), (.binOp .shr 54 (.tmp 2) (.const (Go.Value.int Go.IntKind.u64 8)) 57, 54), (.convert 54 5 (.tmp 9), 5), (.convert 54 5 (.tmp 2), 5), (.buildSlice 29 4 #[(0, .tmp 3), (1, .tmp 7), (2, .tmp 11), (3, .tmp 13)], 29), (.call ⟨.builtin .append, #[.tmp 0, .tmp 15], #[29, 29]⟩, 29)]) (b := [(4, 17), (18, 17), (17, 15), (16, 13), (15, 2), (14, 11), (13, 9), (12, 2), (11, 7), (10, 5), (9, 2), (8, 3), (7, 1), (6, 2), (5, 0)]) (by kernel_rfl) ?_
  refine OpK.shr rfl rfl (by decide) ?_
  refine OpK.convInt (k' := .u8) (by kernel_rfl) (by kernel_rfl) rfl ?_
  refine OpK.shr rfl rfl (by decide) ?_
  refine OpK.convInt (k' := .u8) (by kernel_rfl) (by kernel_rfl) rfl ?_
  refine OpK.shr rfl rfl (by decide) ?_
  refine OpK.convInt (k' := .u8) (by kernel_rfl) (by kernel_rfl) rfl ?_
  refine OpK.convInt (k' := .u8) (by kernel_rfl) (by kernel_rfl) rfl ?_
  refine OpK.buildS (by simp only [List.map_toArray, List.map_cons, List.map_nil]; exact run_bs4 (by kernel_rfl) u8 _ _ _ _) ?_
  refine OpK.run rfl hr ?_
  refine CWL.cons (CW.ret ?_)
  exact ⟨_, rfl, hg⟩

theorem call22 : Callable Try.prog 22 := ⟨Try.f22, Try.func22, by kernel_rfl, by kernel_rfl⟩
set_option maxHeartbeats 4000000 in
theorem c22 (w : World) (n : Int) (d : Value) (bs : List UInt8) (hd : Own 5 w d bs) (hl : bs.length + 8 ≤ Lim) : Calls Try.prog 22 #[d, .int .u64 n] w fun en w' => ∃ d', en = .returned d' ∧ Grew 5 w d w' d' (bs ++ be 8 n) := by
  obtain ⟨v', w', hr, hg⟩ := append_lit (ty := 29) und u8 hd (be 8 n) (by rw [be_length]; exact hl)
  have hc : ((be 8 n).map bv) = [.int .u8 (IntKind.u8.wrap (n / 2 ^ min ((56 : Int).toNat) IntKind.u64.bits)), .int .u8 (IntKind.u8.wrap (n / 2 ^ min ((48 : Int).toNat) IntKind.u64.bits)), .int .u8 (IntKind.u8.wrap (n / 2 ^ min ((40 : Int).toNat) IntKind.u64.bits)), .int .u8 (IntKind.u8.wrap (n / 2 ^ min ((32 : Int).toNat) IntKind.u64.bits)), .int .u8 (IntKind.u8.wrap (n / 2 ^ min ((24 : Int).toNat) IntKind.u64.bits)), .int .u8 (IntKind.u8.wrap (n / 2 ^ min ((16 : Int).toNat) IntKind.u64.bits)), .int .u8 (IntKind.u8.wrap (n / 2 ^ min ((8 : Int).toNat) IntKind.u64.bits)), .int .u8 (IntKind.u8.wrap n)] := by
    simp only [be, List.map_cons, List.map_nil]
    rw [← oct_shr n 7 56 rfl, ← oct_shr n 6 48 rfl, ← oct_shr n 5 40 rfl, ← oct_shr n 4 32 rfl, ← oct_shr n 3 24 rfl, ← oct_shr n 2 16 rfl, ← oct_shr n 1 8 rfl, ← oct_low n]
    rfl
  rw [hc, be_length] at hr
  refine Calls.of_CW Try.func22 rfl (by decide +kernel) (Nat.le_of_ble_eq_true (by kernel_rfl)) (CW.of_flat ?_)
  simp only [flat, List.cons_append, List.nil_append, List.append_nil]
  refine CWL.reg (ops := [(.assign (.const (Go.Value.slice none 0 0)), 29)]) (b := [(4, 1)]) (by kernel_rfl) ?_
  refine OpK.assign ?_
  refine CWL.reg (ops := [(.binOp .shr 52 (.tmp 2) (.const (Go.Value.int Go.IntKind.u64 56)) 57, 52), (.convert 52 5 (.tmp 1), 5), (.binOp .shr 52 (.tmp 2) (.const (Go.Value.int Go.IntKind.u64 48)) 57, 52), (.convert 52 5 (.tmp 5), 5), (.binOp .shr 52 (.tmp 2) (.const (Go.Value.int Go.IntKind.u64 40)) 57, 52), (.convert 52 5 (.tmp 9), 5), (.binOp .shr 52 (.tmp 2) (.const (Go.Value.int Go.IntKind.u64 32)) 57, 52), (.convert 52 5 (.tmp 13), 5), (.binOp .shr 52 (.tmp 2) (.const (Go.Value.int Go.IntKind.u64 24)) 57, 52), (.convert 52 5 (.tmp 17), 5), (.binOp .shr 52 (.tmp 2) (.const (Go.Value.int Go.IntKind.u64 16)) 57, 52), (.convert 52 5 (.tmp 21), 5), (.binOp .shr 52 (.tmp 2) (.const (Go.Value.int Go.IntKind.u64 8)) 57, 52), (.convert 52 5 (.tmp 25), 5), (.convert 52 5 (.tmp 2), 5), (.buildSlice 29 8 #[(0, .tmp 3), (1, .tmp 7), (2, .tmp 11), (3, .tmp 15), (4, .tmp 19), (5, .tmp 23), (6, .tmp 27), (7, .tmp 29)], 29), (.call ⟨.builtin .append, #[.tmp 0, .tmp 31], #[29, 29]⟩, 29)]) (b := [(4, 33), (30, 33), (29, 31), (28, 29), (27, 2), (26, 27), (25, 25), (24, 2), (23, 23), (22, 21), (21, 2), (20, 19), (19, 17), (18, 2), (17, 15), (16, 13), (15, 2), (14, 11), (13, 9), (12, 2), (11, 7), (10, 5), (9, 2), (8, 3), (7, 1), (6, 2), (5, 0)]) (by kernel_rfl) ?_
  refine OpK.shr rfl rfl (by decide) ?_
  refine OpK.convInt (k' := .u8) (by kernel_rfl) (by kernel_rfl) rfl ?_
  refine OpK.shr rfl rfl (by decide) ?_
  refine OpK.convInt (k' := .u8) (by kernel_rfl) (by kernel_rfl) rfl ?_
  refine OpK.shr rfl rfl (by decide) ?_
  refine OpK.convInt (k' := .u8) (by kernel_rfl) (by kernel_rfl) rfl ?_
  refine OpK.shr rfl rfl (by decide) ?_
  refine OpK.convInt (k' := .u8) (by kernel_rfl) (by kernel_rfl) rfl ?_
  refine OpK.shr rfl rfl (by decide) ?_
  refine OpK.convInt (k' := .u8) (by kernel_rfl) (by kernel_rfl) rfl ?_
  refine OpK.shr rfl rfl (by decide) ?_
  refine OpK.convInt (k' := .u8) (by kernel_rfl) (by kernel_rfl) rfl ?_
  refine OpK.shr rfl rfl (by decide) ?_
  refine OpK.convInt (k' := .u8) (by kernel_rfl) (by kernel_rfl) rfl ?_
  refine OpK.convInt (k' := .u8) (by kernel_rfl) (by kernel_rfl) rfl ?_
  refine OpK.buildS (by simp only [List.map_toArray, List.map_cons, List.map_nil]; exact run_bs8 (by kernel_rfl) u8 _ _ _ _ _ _ _ _) ?_
  refine OpK.run rfl hr ?_
  refine CWL.cons (CW.ret ?_)
  exact ⟨_, rfl, hg⟩

theorem call21 : Callable Try.prog 21 := ⟨Try.f21, Try.func21, by kernel_rfl, by kernel_rfl⟩
set_option maxHeartbeats 4000000 in
theorem c21 (w : World) (n : Int) (d : Value) (bs : List UInt8) (hd : Own 5 w d bs) (hl : bs.length + 2 ≤ Lim) : Calls Try.prog 21 #[d, .int .i16 n] w fun en w' => ∃ d', en = .returned d' ∧ Grew 5 w d w' d' (bs ++ be 2 n) := by
  refine Calls.of_CW Try.func21 rfl (by decide +kernel) (Nat.le_of_ble_eq_true (by kernel_rfl)) (CW.of_flat ?_)
  simp only [flat, List.cons_append, List.nil_append, List.append_nil]
  refine CWL.reg (ops := [(.assign (.const (Go.Value.slice none 0 0)), 29)]) (b := [(4, 1)]) (by kernel_rfl) ?_
  refine OpK.assign ?_
  refine CWL.reg (ops := [(.convert 31 56 (.tmp 2), 56), (.call ⟨.value (.func 24), #[.tmp 0, .tmp 1], #[29, 56]⟩, 29)]) (b := [(4, 3), (8, 3), (7, 1), (6, 2), (5, 0)]) (by kernel_rfl) ?_
  refine OpK.convInt (k' := .u16) (by kernel_rfl) (by kernel_rfl) rfl ?_
  refine OpK.asCall rfl call24 rfl ((c24 w (IntKind.u16.wrap n) d bs hd hl).mono ?_)
  rintro en w1 ⟨d1, he1, hg1⟩
  refine ⟨d1, he1, ?_⟩
  refine CWL.ret ?_
  rw [be2_u16] at hg1
  exact ⟨_, rfl, hg1⟩

theorem call19 : Callable Try.prog 19 := ⟨Try.f19, Try.func19, by kernel_rfl, by kernel_rfl⟩
set_option maxHeartbeats 4000000 in
theorem c19 (w : World) (n : Int) (d : Value) (bs : List UInt8) (hd : Own 5 w d bs) (hl : bs.length + 4 ≤ Lim) : Calls Try.prog 19 #[d, .int .i32 n] w fun en w' => ∃ d', en = .returned d' ∧ Grew 5 w d w' d' (bs ++ be 4 n) := by
  refine Calls.of_CW Try.func19 rfl (by decide +kernel) (Nat.le_of_ble_eq_true (by kernel_rfl)) (CW.of_flat ?_)
  simp only [flat, List.cons_append, List.nil_append, List.append_nil]
  refine CWL.reg (ops := [(.assign (.const (Go.Value.slice none 0 0)), 29)]) (b := [(4, 1)]) (by kernel_rfl) ?_
  refine OpK.assign ?_
  refine CWL.reg (ops := [(.convert 21 54 (.tmp 2), 54), (.call ⟨.value (.func 23), #[.tmp 0, .tmp 1], #[29, 54]⟩, 29)]) (b := [(4, 3), (8, 3), (7, 1), (6, 2), (5, 0)]) (by kernel_rfl) ?_
  refine OpK.convInt (k' := .u32) (by kernel_rfl) (by kernel_rfl) rfl ?_
  refine OpK.asCall rfl call23 rfl ((c23 w (IntKind.u32.wrap n) d bs hd hl).mono ?_)
  rintro en w1 ⟨d1, he1, hg1⟩
  refine ⟨d1, he1, ?_⟩
  refine CWL.ret ?_
  rw [be4_u32] at hg1
  exact ⟨_, rfl, hg1⟩

theorem call18 : Callable Try.prog 18 := ⟨Try.f18, Try.func18, by kernel_rfl, by kernel_rfl⟩
set_option maxHeartbeats 4000000 in
theorem c18 (w : World) (n : Int) (d : Value) (bs : List UInt8) (hd : Own 5 w d bs) (hl : bs.length + 8 ≤ Lim) : Calls Try.prog 18 #[d, .int .i64 n] w fun en w' => ∃ d', en = .returned d' ∧ Grew 5 w d w' d' (bs ++ be 8 n) := by
  refine Calls.of_CW Try.func18 rfl (by decide +kernel) (Nat.le_of_ble_eq_true (by kernel_rfl)) (CW.of_flat ?_)
  simp only [flat, List.cons_append, List.nil_append, List.append_nil]
  refine CWL.reg (ops := [(.assign (.const (Go.Value.slice none 0 0)), 29)]) (b := [(4, 1)]) (by kernel_rfl) ?_
  refine OpK.assign ?_
  refine CWL.reg (ops := [(.convert 2 52 (.tmp 2), 52), (.call ⟨.value (.func 22), #[.tmp 0, .tmp 1], #[29, 52]⟩, 29)]) (b := [(4, 3), (8, 3), (7, 1), (6, 2), (5, 0)]) (by kernel_rfl) ?_
  refine OpK.convInt (k' := .u64) (by kernel_rfl) (by kernel_rfl) rfl ?_
  refine OpK.asCall rfl call22 rfl ((c22 w (IntKind.u64.wrap n) d bs hd hl).mono ?_)
  rintro en w1 ⟨d1, he1, hg1⟩
  refine ⟨d1, he1, ?_⟩
  refine CWL.ret ?_
  rw [be8_u64] at hg1
  exact ⟨_, rfl, hg1⟩

set_option maxHeartbeats 4000000 in
theorem ok20 (full : Bool) : ApOk Try.prog 5 full 20 (.val false .i8) := by
  intro w S v cs d bs hr hd hcl hl
  cases v <;> simp only [Rep, Wt.ty] at hr
  rename_i n
  obtain ⟨rfl, hn⟩ := hr
  exact c20 w n d bs hd hl

set_option maxHeartbeats 4000000 in
theorem ok21 (full : Bool) : ApOk Try.prog 5 full 21 (.val false .i16) := by
  intro w S v cs d bs hr hd hcl hl
  cases v <;> simp only [Rep, Wt.ty] at hr
  rename_i n
  obtain ⟨rfl, hn⟩ := hr
  exact c21 w n d bs hd hl

set_option maxHeartbeats 4000000 in
theorem ok24 (full : Bool) : ApOk Try.prog 5 full 24 (.val false .u16) := by
  intro w S v cs d bs hr hd hcl hl
  cases v <;> simp only [Rep, Wt.ty] at hr
  rename_i n
  obtain ⟨rfl, hn⟩ := hr
  exact c24 w n d bs hd hl

set_option maxHeartbeats 4000000 in
theorem ok19 (full : Bool) : ApOk Try.prog 5 full 19 (.val false .i32) := by
  intro w S v cs d bs hr hd hcl hl
  cases v <;> simp only [Rep, Wt.ty] at hr
  rename_i n
  obtain ⟨rfl, hn⟩ := hr
  exact c19 w n d bs hd hl

set_option maxHeartbeats 4000000 in
theorem ok18 (full : Bool) : ApOk Try.prog 5 full 18 (.val false .i64) := by
  intro w S v cs d bs hr hd hcl hl
  cases v <;> simp only [Rep, Wt.ty] at hr
  rename_i n
  obtain ⟨rfl, hn⟩ := hr
  exact c18 w n d bs hd hl

def tab : List (Nat × Ap) := [(20, .val false .i8), (21, .val false .i16), (24, .val false .u16), (19, .val false .i32), (18, .val false .i64)]
theorem sound0 : Sound Try.prog 5 false tab := Sound.of_all u8 (all_cons ⟨call20, ok20 false⟩ (all_cons ⟨call21, ok21 false⟩ (all_cons ⟨call24, ok24 false⟩ (all_cons ⟨call19, ok19 false⟩ (all_cons ⟨call18, ok18 false⟩ all_nil)))))
end Go.Proofs.Ytmgnfbbgjahnhaa.Snd
