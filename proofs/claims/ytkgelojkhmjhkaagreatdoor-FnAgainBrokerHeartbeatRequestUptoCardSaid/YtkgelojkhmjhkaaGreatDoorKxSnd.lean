/- What the functions of the package that write a value, or a count, do: each writes the octets that the plain functions say, behind the slice that it is given. -/
import Derived.Test.YtkgelojkhmjhkaaGreatDoorKxDraw
import Derived.Test.YtkgelojkhmjhkaaGreatDoorKxAgain2
import Derived.Test.YtkgelojkhmjhkaaGreatDoorProg
namespace Go.Proofs.YtkgelojkhmjhkaaGreatDoor.Snd
open Go.Kx Go.RowKit Go.Proofs
set_option maxRecDepth 100000
set_option linter.unusedSimpArgs false
set_option linter.unusedVariables false

theorem u8 : U8 Tryz.prog 5 := by unfold U8; kernel_rfl
theorem und : Tryz.prog.underlying 22 = some (.slice 5) := by kernel_rfl
theorem call57 : Callable Tryz.prog 57 := ⟨Tryz.f57, Tryz.func57, by kernel_rfl, by kernel_rfl⟩
set_option maxHeartbeats 4000000 in
theorem c57 (w : World) (n : Int) (d : Value) (bs : List UInt8) (hd : Own 5 w d bs) (hl : bs.length + 4 ≤ Lim) : Calls Tryz.prog 57 #[d, .int .u32 n] w fun en w' => ∃ d', en = .returned d' ∧ Grew 5 w d w' d' (bs ++ be 4 n) := by
  obtain ⟨v', w', hr, hg⟩ := append_lit (ty := 22) und u8 hd (be 4 n) (by rw [be_length]; exact hl)
  have hc : ((be 4 n).map bv) = [.int .u8 (IntKind.u8.wrap (n / 2 ^ min ((24 : Int).toNat) IntKind.u32.bits)), .int .u8 (IntKind.u8.wrap (n / 2 ^ min ((16 : Int).toNat) IntKind.u32.bits)), .int .u8 (IntKind.u8.wrap (n / 2 ^ min ((8 : Int).toNat) IntKind.u32.bits)), .int .u8 (IntKind.u8.wrap n)] := by
    simp only [be, List.map_cons, List.map_nil]
    rw [← oct_shr n 3 24 rfl, ← oct_shr n 2 16 rfl, ← oct_shr n 1 8 rfl, ← oct_low n]
    rfl
  rw [hc, be_length] at hr
  refine Calls.of_CW Tryz.func57 rfl (by decide +kernel) (Nat.le_of_ble_eq_true (by kernel_rfl)) (CW.of_flat ?_)
  simp only [flat, List.cons_append, List.nil_append, List.append_nil]
  refine CWL.reg (ops := [(.assign (.const (Go.Value.slice none 0 0)), 22)]) (b := [(4, 1)]) (by kernel_rfl) ?_
  refine OpK.assign ?_
  refine CWL.reg (ops := [(.binOp .shr 52 (.tmp 2) (.const (Go.Value.int Go.IntKind.u64 24)) 86, 52), (.convert 52 5 (.tmp 1), 5), (.binOp .shr 52 (.tmp 2) (.const (Go.Value.int Go.IntKind.u64 16)) 86, 52), (.convert 52 5 (.tmp 5), 5), (.binOp .shr 52 (.tmp 2) (.const (Go.Value.int Go.IntKind.u64 8)) 86, 52), (.convert 52 5 (.tmp 9), 5), (.convert 52 5 (.tmp 2), 5), (.buildSlice 22 4 #[(0, .tmp 3), (1, .tmp 7), (2, .tmp 11), (3, .tmp 13)], 22), (.call ⟨.builtin .append, #[.tmp 0, .tmp 15], #[22, 22]⟩, 22)]) (b := [(4, 17), (18, 17), (17, 15), (16, 13), (15, 2), (14, 11), (13, 9), (12, 2), (11, 7), (10, 5), (9, 2), (8, 3), (7, 1), (6, 2), (5, 0)]) (by kernel_rfl) ?_
  refine OpK.shr rfl rfl (by decide) ?_
  refine OpK.convInt (k' := .u8) (by kernel_rfl) (by kernel_rfl) rfl ?_
  refine OpK.shr rfl rfl (by decide) ?_
  refine OpK.convInt (k' := .u8) (by kernel_rfl) (by kernel_rfl) rfl ?_
  refine OpK.shr rfl rfl (by decide) ?_
  refine OpK.convInt (k' := .u8) (by kernel_rfl) (by kernel_rfl) rfl ?_
  refine OpK.convInt (k' := .u8) (by kernel_rfl) (by kernel_rfl) rfl ?_
  refine OpK.buildS (by simp only [List.map_toArray, List.map_cons, List.map_nil]; exact run_bs4 (by kernel_rfl) u8 _ _ _ _) ?_
  refine OpK.run rfl hr ?_
  refine CWL.cons (CW.ret ?_)
  exact ⟨_, rfl, hg⟩

theorem call58 : Callable Tryz.prog 58 := ⟨Tryz.f58, Tryz.func58, by kernel_rfl, by kernel_rfl⟩
set_option maxHeartbeats 4000000 in
theorem c58 (w : World) (n : Int) (d : Value) (bs : List UInt8) (hd : Own 5 w d bs) (hl : bs.length + 8 ≤ Lim) : Calls Tryz.prog 58 #[d, .int .u64 n] w fun en w' => ∃ d', en = .returned d' ∧ Grew 5 w d w' d' (bs ++ be 8 n) := by
  obtain ⟨v', w', hr, hg⟩ := append_lit (ty := 22) und u8 hd (be 8 n) (by rw [be_length]; exact hl)
  have hc : ((be 8 n).map bv) = [.int .u8 (IntKind.u8.wrap (n / 2 ^ min ((56 : Int).toNat) IntKind.u64.bits)), .int .u8 (IntKind.u8.wrap (n / 2 ^ min ((48 : Int).toNat) IntKind.u64.bits)), .int .u8 (IntKind.u8.wrap (n / 2 ^ min ((40 : Int).toNat) IntKind.u64.bits)), .int .u8 (IntKind.u8.wrap (n / 2 ^ min ((32 : Int).toNat) IntKind.u64.bits)), .int .u8 (IntKind.u8.wrap (n / 2 ^ min ((24 : Int).toNat) IntKind.u64.bits)), .int .u8 (IntKind.u8.wrap (n / 2 ^ min ((16 : Int).toNat) IntKind.u64.bits)), .int .u8 (IntKind.u8.wrap (n / 2 ^ min ((8 : Int).toNat) IntKind.u64.bits)), .int .u8 (IntKind.u8.wrap n)] := by
    simp only [be, List.map_cons, List.map_nil]
    rw [← oct_shr n 7 56 rfl, ← oct_shr n 6 48 rfl, ← oct_shr n 5 40 rfl, ← oct_shr n 4 32 rfl, ← oct_shr n 3 24 rfl, ← oct_shr n 2 16 rfl, ← oct_shr n 1 8 rfl, ← oct_low n]
    rfl
  rw [hc, be_length] at hr
  refine Calls.of_CW Tryz.func58 rfl (by decide +kernel) (Nat.le_of_ble_eq_true (by kernel_rfl)) (CW.of_flat ?_)
  simp only [flat, List.cons_append, List.nil_append, List.append_nil]
  refine CWL.reg (ops := [(.assign (.const (Go.Value.slice none 0 0)), 22)]) (b := [(4, 1)]) (by kernel_rfl) ?_
  refine OpK.assign ?_
  refine CWL.reg (ops := [(.binOp .shr 68 (.tmp 2) (.const (Go.Value.int Go.IntKind.u64 56)) 86, 68), (.convert 68 5 (.tmp 1), 5), (.binOp .shr 68 (.tmp 2) (.const (Go.Value.int Go.IntKind.u64 48)) 86, 68), (.convert 68 5 (.tmp 5), 5), (.binOp .shr 68 (.tmp 2) (.const (Go.Value.int Go.IntKind.u64 40)) 86, 68), (.convert 68 5 (.tmp 9), 5), (.binOp .shr 68 (.tmp 2) (.const (Go.Value.int Go.IntKind.u64 32)) 86, 68), (.convert 68 5 (.tmp 13), 5), (.binOp .shr 68 (.tmp 2) (.const (Go.Value.int Go.IntKind.u64 24)) 86, 68), (.convert 68 5 (.tmp 17), 5), (.binOp .shr 68 (.tmp 2) (.const (Go.Value.int Go.IntKind.u64 16)) 86, 68), (.convert 68 5 (.tmp 21), 5), (.binOp .shr 68 (.tmp 2) (.const (Go.Value.int Go.IntKind.u64 8)) 86, 68), (.convert 68 5 (.tmp 25), 5), (.convert 68 5 (.tmp 2), 5), (.buildSlice 22 8 #[(0, .tmp 3), (1, .tmp 7), (2, .tmp 11), (3, .tmp 15), (4, .tmp 19), (5, .tmp 23), (6, .tmp 27), (7, .tmp 29)], 22), (.call ⟨.builtin .append, #[.tmp 0, .tmp 31], #[22, 22]⟩, 22)]) (b := [(4, 33), (30, 33), (29, 31), (28, 29), (27, 2), (26, 27), (25, 25), (24, 2), (23, 23), (22, 21), (21, 2), (20, 19), (19, 17), (18, 2), (17, 15), (16, 13), (15, 2), (14, 11), (13, 9), (12, 2), (11, 7), (10, 5), (9, 2), (8, 3), (7, 1), (6, 2), (5, 0)]) (by kernel_rfl) ?_
  refine OpK.shr rfl rfl (by decide) ?_
  refine OpK.convInt (k' := .u8) (by kernel_rfl) (by kernel_rfl) rfl ?_
  refine OpK.shr rfl rfl (by decide) ?_
  refine OpK.convInt (k' := .u8) (by kernel_rfl) (by kernel_rfl) rfl ?_
  refine OpK.shr rfl rfl (by decide) ?_
  refine OpK.convInt (k' := .u8) (by kernel_rfl) (by kernel_rfl) rfl ?_
  refine OpK.shr rfl rfl (by decide) ?_
  refine OpK.convInt (k' := .u8) (by kernel_rfl) (by kernel_rfl) rfl ?_
  refine OpK.shr rfl rfl (by decide) ?_
  refine OpK.convInt (k' := .u8) (by kernel_rfl) (by kernel_rfl) rfl ?_
  refine OpK.shr rfl rfl (by decide) ?_
  refine OpK.convInt (k' := .u8) (by kernel_rfl) (by kernel_rfl) rfl ?_
  refine OpK.shr rfl rfl (by decide) ?_
  refine OpK.convInt (k' := .u8) (by kernel_rfl) (by kernel_rfl) rfl ?_
  refine OpK.convInt (k' := .u8) (by kernel_rfl) (by kernel_rfl) rfl ?_
  refine OpK.buildS (by simp only [List.map_toArray, List.map_cons, List.map_nil]; exact run_bs8 (by kernel_rfl) u8 _ _ _ _ _ _ _ _) ?_
  refine OpK.run rfl hr ?_
  refine CWL.cons (CW.ret ?_)
  exact ⟨_, rfl, hg⟩

theorem call31 : Callable Tryz.prog 31 := ⟨Tryz.f31, Tryz.func31, by kernel_rfl, by kernel_rfl⟩
set_option maxHeartbeats 4000000 in
theorem ok31 (full : Bool) : ApOk Tryz.prog 5 full 31 (.val false .bool) := by
  intro w S v cs d bs hr hd hcl hl
  cases v <;> simp only [Rep, Wt.ty] at hr
  rename_i b
  subst hr
  obtain ⟨v', w', hr, hg⟩ := append_lit (ty := 22) und u8 hd [if b then 1 else 0] hl
  cases b
  · skip
    refine Calls.of_CW Tryz.func31 rfl (by decide +kernel) (Nat.le_of_ble_eq_true (by kernel_rfl)) (CW.of_flat ?_)
    simp only [flat, List.cons_append, List.nil_append, List.append_nil]
    refine CWL.reg (ops := [(.assign (.const (Go.Value.slice none 0 0)), 22)]) (b := [(4, 1)]) (by kernel_rfl) ?_
    refine OpK.assign ?_
    refine CWL.reg (ops := []) (b := [(5, 2)]) (by kernel_rfl) ?_
    refine CWL.condF rfl ?_
    simp only [flat, List.cons_append, List.nil_append, List.append_nil]
    refine CWL.reg (ops := [(.buildSlice 22 1 #[(0, .const (Go.Value.int Go.IntKind.u8 0))], 22), (.call ⟨.builtin .append, #[.tmp 0, .tmp 1], #[22, 22]⟩, 22)]) (b := [(4, 3), (11, 3), (10, 1), (9, 0)]) (by kernel_rfl) ?_
    refine OpK.buildS (by simp only [List.map_toArray, List.map_cons, List.map_nil]; exact run_bs1 (by kernel_rfl) u8 _) ?_
    refine OpK.run rfl hr ?_
    refine CWL.ret ?_
    exact ⟨_, rfl, hg⟩
  · skip
    refine Calls.of_CW Tryz.func31 rfl (by decide +kernel) (Nat.le_of_ble_eq_true (by kernel_rfl)) (CW.of_flat ?_)
    simp only [flat, List.cons_append, List.nil_append, List.append_nil]
    refine CWL.reg (ops := [(.assign (.const (Go.Value.slice none 0 0)), 22)]) (b := [(4, 1)]) (by kernel_rfl) ?_
    refine OpK.assign ?_
    refine CWL.reg (ops := []) (b := [(5, 2)]) (by kernel_rfl) ?_
    refine CWL.condT rfl ?_
    simp only [flat, List.cons_append, List.nil_append, List.append_nil]
    refine CWL.reg (ops := [(.buildSlice 22 1 #[(0, .const (Go.Value.int Go.IntKind.u8 1))], 22), (.call ⟨.builtin .append, #[.tmp 0, .tmp 1], #[22, 22]⟩, 22)]) (b := [(4, 3), (8, 3), (7, 1), (6, 0)]) (by kernel_rfl) ?_
    refine OpK.buildS (by simp only [List.map_toArray, List.map_cons, List.map_nil]; exact run_bs1 (by kernel_rfl) u8 _) ?_
    refine OpK.run rfl hr ?_
    refine CWL.ret ?_
    exact ⟨_, rfl, hg⟩

theorem call29 : Callable Tryz.prog 29 := ⟨Tryz.f29, Tryz.func29, by kernel_rfl, by kernel_rfl⟩
set_option maxHeartbeats 4000000 in
theorem c29 (w : World) (n : Int) (d : Value) (bs : List UInt8) (hd : Own 5 w d bs) (hl : bs.length + 4 ≤ Lim) : Calls Tryz.prog 29 #[d, .int .i32 n] w fun en w' => ∃ d', en = .returned d' ∧ Grew 5 w d w' d' (bs ++ be 4 n) := by
  refine Calls.of_CW Tryz.func29 rfl (by decide +kernel) (Nat.le_of_ble_eq_true (by kernel_rfl)) (CW.of_flat ?_)
  simp only [flat, List.cons_append, List.nil_append, List.append_nil]
  refine CWL.reg (ops := [(.assign (.const (Go.Value.slice none 0 0)), 22)]) (b := [(4, 1)]) (by kernel_rfl) ?_
  refine OpK.assign ?_
  refine CWL.reg (ops := [(.convert 21 52 (.tmp 2), 52), (.call ⟨.value (.func 57), #[.tmp 0, .tmp 1], #[22, 52]⟩, 22)]) (b := [(4, 3), (8, 3), (7, 1), (6, 2), (5, 0)]) (by kernel_rfl) ?_
  refine OpK.convInt (k' := .u32) (by kernel_rfl) (by kernel_rfl) rfl ?_
  refine OpK.asCall rfl call57 rfl ((c57 w (IntKind.u32.wrap n) d bs hd hl).mono ?_)
  rintro en w1 ⟨d1, he1, hg1⟩
  refine ⟨d1, he1, ?_⟩
  refine CWL.ret ?_
  rw [be4_u32] at hg1
  exact ⟨_, rfl, hg1⟩

theorem call30 : Callable Tryz.prog 30 := ⟨Tryz.f30, Tryz.func30, by kernel_rfl, by kernel_rfl⟩
set_option maxHeartbeats 4000000 in
theorem c30 (w : World) (n : Int) (d : Value) (bs : List UInt8) (hd : Own 5 w d bs) (hl : bs.length + 8 ≤ Lim) : Calls Tryz.prog 30 #[d, .int .i64 n] w fun en w' => ∃ d', en = .returned d' ∧ Grew 5 w d w' d' (bs ++ be 8 n) := by
  refine Calls.of_CW Tryz.func30 rfl (by decide +kernel) (Nat.le_of_ble_eq_true (by kernel_rfl)) (CW.of_flat ?_)
  simp only [flat, List.cons_append, List.nil_append, List.append_nil]
  refine CWL.reg (ops := [(.assign (.const (Go.Value.slice none 0 0)), 22)]) (b := [(4, 1)]) (by kernel_rfl) ?_
  refine OpK.assign ?_
  refine CWL.reg (ops := [(.convert 2 68 (.tmp 2), 68), (.call ⟨.value (.func 58), #[.tmp 0, .tmp 1], #[22, 68]⟩, 22)]) (b := [(4, 3), (8, 3), (7, 1), (6, 2), (5, 0)]) (by kernel_rfl) ?_
  refine OpK.convInt (k' := .u64) (by kernel_rfl) (by kernel_rfl) rfl ?_
  refine OpK.asCall rfl call58 rfl ((c58 w (IntKind.u64.wrap n) d bs hd hl).mono ?_)
  rintro en w1 ⟨d1, he1, hg1⟩
  refine ⟨d1, he1, ?_⟩
  refine CWL.ret ?_
  rw [be8_u64] at hg1
  exact ⟨_, rfl, hg1⟩

set_option maxHeartbeats 4000000 in
theorem ok29 (full : Bool) : ApOk Tryz.prog 5 full 29 (.val false .i32) := by
  intro w S v cs d bs hr hd hcl hl
  cases v <;> simp only [Rep, Wt.ty] at hr
  rename_i n
  obtain ⟨rfl, hn⟩ := hr
  exact c29 w n d bs hd hl

set_option maxHeartbeats 4000000 in
theorem ok30 (full : Bool) : ApOk Tryz.prog 5 full 30 (.val false .i64) := by
  intro w S v cs d bs hr hd hcl hl
  cases v <;> simp only [Rep, Wt.ty] at hr
  rename_i n
  obtain ⟨rfl, hn⟩ := hr
  exact c30 w n d bs hd hl

theorem call36 : Callable Tryz.prog 36 := ⟨Tryz.f36, Tryz.func36, by kernel_rfl, by kernel_rfl⟩
set_option maxHeartbeats 4000000 in
theorem ok36 (full : Bool) : ApOk Tryz.prog 5 full 36 (.val false .uuid) := by
  intro w S v cs d bs hr hd hcl hl
  obtain ⟨l, rfl, h16, rfl⟩ := rep_uuid hr
  simp only [encW] at hl ⊢
  have hown : Own 5 (w.alloc (.cells (l.map bv).toArray 77)) d bs := hd.keep fun k hk => alloc_old w _ k (hd.lt hk)
  obtain ⟨v', w', hr, hg⟩ := run_append_oct (ty := 22) (t := 22) u8 und hown (a := some ⟨w.heap.size, 0, none⟩) (l := l) (c := 16) (by intro h; cases h) (fun a' h => by cases h; exact Oct.new w 77 l) hl
  rw [h16] at hr
  refine Calls.of_CW Tryz.func36 rfl (by decide +kernel) (Nat.le_of_ble_eq_true (by kernel_rfl)) (CW.of_flat ?_)
  simp only [flat, List.cons_append, List.nil_append, List.append_nil]
  refine CWL.reg (ops := [(.box 77 (.tmp 2), 0), (.assign (.const (Go.Value.slice none 0 0)), 22)]) (b := [(4, 3), (3, 1)]) (by kernel_rfl) ?_
  refine OpK.box ?_
  refine OpK.assign ?_
  refine CWL.reg (ops := [(.slice 77 (.tmp 6) none none none, 22), (.call ⟨.builtin .append, #[.tmp 0, .tmp 1], #[22, 22]⟩, 22)]) (b := [(4, 3), (7, 3), (6, 1), (5, 0)]) (by kernel_rfl) ?_
  refine OpK.sliceArr (n := 16) (e := 5) (by kernel_rfl) (by kernel_rfl) rfl ?_
  refine OpK.run rfl hr ?_
  refine CWL.ret ?_
  refine ⟨_, rfl, hg.own, (Ch.alloc _ w _).trans hg.ch fun i _ h => h, fun k hk => (hg.blk k hk).imp id fun h => ?_⟩
  simp at h; omega

theorem tab8 (j : Nat) (h : j < 256) : (match (.const (Go.Value.string {data := List.toArray (List.append (List.append [0, 1, 2, 2, 3, 3, 3, 3, 4, 4, 4, 4, 4, 4, 4, 4, 5, 5, 5, 5, 5, 5, 5, 5, 5, 5, 5, 5, 5, 5, 5, 5, 6, 6, 6, 6, 6, 6, 6, 6, 6, 6, 6, 6, 6, 6, 6, 6, 6, 6, 6, 6, 6, 6, 6, 6, 6, 6, 6, 6, 6, 6, 6, 6] [7, 7, 7, 7, 7, 7, 7, 7, 7, 7, 7, 7, 7, 7, 7, 7, 7, 7, 7, 7, 7, 7, 7, 7, 7, 7, 7, 7, 7, 7, 7, 7, 7, 7, 7, 7, 7, 7, 7, 7, 7, 7, 7, 7, 7, 7, 7, 7, 7, 7, 7, 7, 7, 7, 7, 7, 7, 7, 7, 7, 7, 7, 7, 7]) (List.append [8, 8, 8, 8, 8, 8, 8, 8, 8, 8, 8, 8, 8, 8, 8, 8, 8, 8, 8, 8, 8, 8, 8, 8, 8, 8, 8, 8, 8, 8, 8, 8, 8, 8, 8, 8, 8, 8, 8, 8, 8, 8, 8, 8, 8, 8, 8, 8, 8, 8, 8, 8, 8, 8, 8, 8, 8, 8, 8, 8, 8, 8, 8, 8] [8, 8, 8, 8, 8, 8, 8, 8, 8, 8, 8, 8, 8, 8, 8, 8, 8, 8, 8, 8, 8, 8, 8, 8, 8, 8, 8, 8, 8, 8, 8, 8, 8, 8, 8, 8, 8, 8, 8, 8, 8, 8, 8, 8, 8, 8, 8, 8, 8, 8, 8, 8, 8, 8, 8, 8, 8, 8, 8, 8, 8, 8, 8, 8]))}) : Operand) with | .const (.string s) => s[j]? | _ => none) = some (UInt8.ofNat (bl8 j)) := by
  have k : ∀ j : Fin 256, (match (.const (Go.Value.string {data := List.toArray (List.append (List.append [0, 1, 2, 2, 3, 3, 3, 3, 4, 4, 4, 4, 4, 4, 4, 4, 5, 5, 5, 5, 5, 5, 5, 5, 5, 5, 5, 5, 5, 5, 5, 5, 6, 6, 6, 6, 6, 6, 6, 6, 6, 6, 6, 6, 6, 6, 6, 6, 6, 6, 6, 6, 6, 6, 6, 6, 6, 6, 6, 6, 6, 6, 6, 6] [7, 7, 7, 7, 7, 7, 7, 7, 7, 7, 7, 7, 7, 7, 7, 7, 7, 7, 7, 7, 7, 7, 7, 7, 7, 7, 7, 7, 7, 7, 7, 7, 7, 7, 7, 7, 7, 7, 7, 7, 7, 7, 7, 7, 7, 7, 7, 7, 7, 7, 7, 7, 7, 7, 7, 7, 7, 7, 7, 7, 7, 7, 7, 7]) (List.append [8, 8, 8, 8, 8, 8, 8, 8, 8, 8, 8, 8, 8, 8, 8, 8, 8, 8, 8, 8, 8, 8, 8, 8, 8, 8, 8, 8, 8, 8, 8, 8, 8, 8, 8, 8, 8, 8, 8, 8, 8, 8, 8, 8, 8, 8, 8, 8, 8, 8, 8, 8, 8, 8, 8, 8, 8, 8, 8, 8, 8, 8, 8, 8] [8, 8, 8, 8, 8, 8, 8, 8, 8, 8, 8, 8, 8, 8, 8, 8, 8, 8, 8, 8, 8, 8, 8, 8, 8, 8, 8, 8, 8, 8, 8, 8, 8, 8, 8, 8, 8, 8, 8, 8, 8, 8, 8, 8, 8, 8, 8, 8, 8, 8, 8, 8, 8, 8, 8, 8, 8, 8, 8, 8, 8, 8, 8, 8]))}) : Operand) with | .const (.string s) => s[j.1]? | _ => none) = some (UInt8.ofNat (bl8 j.1)) := by decide +kernel
  exact k ⟨j, h⟩

theorem call65 : Callable Tryz.prog 65 := ⟨Tryz.f65, Tryz.func65, by kernel_rfl, by kernel_rfl⟩
set_option maxHeartbeats 4000000 in
theorem c65 (w : World) (n : Nat) (hn : n < 4294967296) : Calls Tryz.prog 65 #[.int .u32 n] w fun en w' => ∃ r, en = .returned r ∧ r = .int .i64 (bl32 n : Int) ∧ w' = w := by
  by_cases h1 : 65536 ≤ n
  · by_cases h2 : 256 ≤ n / 65536
    · skip
      have hb : bl32 n = 24 + bl8 (n / 65536 / 256) := by unfold bl32; rw [if_pos h1, if_pos h2]
      refine Calls.of_CW Tryz.func65 rfl (by decide +kernel) (Nat.le_of_ble_eq_true (by kernel_rfl)) (CW.of_flat ?_)
      simp only [flat, List.cons_append, List.nil_append, List.append_nil]
      refine CWL.reg (ops := [(.assign (.const (Go.Value.int Go.IntKind.i64 0)), 3)]) (b := [(2, 1)]) (by kernel_rfl) ?_
      refine OpK.assign ?_
      refine CWL.reg (ops := [(.binOp .geq 52 (.tmp 0) (.const (Go.Value.int Go.IntKind.u32 65536)) 52, 4)]) (b := [(4, 1), (3, 0)]) (by kernel_rfl) ?_
      refine OpK.cmp rfl rfl rfl ?_
      refine CWL.condT (congrArg Value.bool (decide_eq_true (by omega))) ?_
      simp only [flat, List.cons_append, List.nil_append, List.append_nil]
      refine CWL.reg (ops := [(.binOp .shr 52 (.tmp 0) (.const (Go.Value.int Go.IntKind.u64 16)) 86, 52)]) (b := [(0, 1), (6, 1), (5, 0)]) (by kernel_rfl) ?_
      refine OpK.shr rfl rfl (by decide) ?_
      refine CWL.reg (ops := [(.assign (.const (Go.Value.int Go.IntKind.i64 16)), 3)]) (b := [(2, 1)]) (by kernel_rfl) ?_
      refine OpK.assign ?_
      refine CWL.reg (ops := [(.binOp .geq 52 (.tmp 0) (.const (Go.Value.int Go.IntKind.u32 256)) 52, 4)]) (b := [(8, 1), (7, 0)]) (by kernel_rfl) ?_
      refine OpK.cmp rfl rfl rfl ?_
      refine CWL.condT (congrArg Value.bool (decide_eq_true (by rw [show (2 : Int) ^ min ((16 : Int).toNat) IntKind.u32.bits = 65536 from rfl]; omega))) ?_
      simp only [flat, List.cons_append, List.nil_append, List.append_nil]
      refine CWL.reg (ops := [(.binOp .shr 52 (.tmp 0) (.const (Go.Value.int Go.IntKind.u64 8)) 86, 52)]) (b := [(0, 1), (10, 1), (9, 0)]) (by kernel_rfl) ?_
      refine OpK.shr rfl rfl (by decide) ?_
      refine CWL.reg (ops := [(.binOp .add 3 (.tmp 4) (.const (Go.Value.int Go.IntKind.i64 8)) 3, 3)]) (b := [(2, 1), (12, 1), (11, 4)]) (by kernel_rfl) ?_
      refine OpK.arith rfl rfl rfl ?_
      refine CWL.reg (ops := [(.convert 52 5 (.tmp 0), 5), (.index 9 (.const (Go.Value.string {data := List.toArray (List.append (List.append [0, 1, 2, 2, 3, 3, 3, 3, 4, 4, 4, 4, 4, 4, 4, 4, 5, 5, 5, 5, 5, 5, 5, 5, 5, 5, 5, 5, 5, 5, 5, 5, 6, 6, 6, 6, 6, 6, 6, 6, 6, 6, 6, 6, 6, 6, 6, 6, 6, 6, 6, 6, 6, 6, 6, 6, 6, 6, 6, 6, 6, 6, 6, 6] [7, 7, 7, 7, 7, 7, 7, 7, 7, 7, 7, 7, 7, 7, 7, 7, 7, 7, 7, 7, 7, 7, 7, 7, 7, 7, 7, 7, 7, 7, 7, 7, 7, 7, 7, 7, 7, 7, 7, 7, 7, 7, 7, 7, 7, 7, 7, 7, 7, 7, 7, 7, 7, 7, 7, 7, 7, 7, 7, 7, 7, 7, 7, 7]) (List.append [8, 8, 8, 8, 8, 8, 8, 8, 8, 8, 8, 8, 8, 8, 8, 8, 8, 8, 8, 8, 8, 8, 8, 8, 8, 8, 8, 8, 8, 8, 8, 8, 8, 8, 8, 8, 8, 8, 8, 8, 8, 8, 8, 8, 8, 8, 8, 8, 8, 8, 8, 8, 8, 8, 8, 8, 8, 8, 8, 8, 8, 8, 8, 8] [8, 8, 8, 8, 8, 8, 8, 8, 8, 8, 8, 8, 8, 8, 8, 8, 8, 8, 8, 8, 8, 8, 8, 8, 8, 8, 8, 8, 8, 8, 8, 8, 8, 8, 8, 8, 8, 8, 8, 8, 8, 8, 8, 8, 8, 8, 8, 8, 8, 8, 8, 8, 8, 8, 8, 8, 8, 8, 8, 8, 8, 8, 8, 8]))})) (.tmp 1), 5), (.convert 5 3 (.tmp 3), 3), (.binOp .add 3 (.tmp 4) (.tmp 5) 3, 3)]) (b := [(2, 7), (18, 7), (17, 5), (16, 3), (15, 1), (14, 0), (13, 4)]) (by kernel_rfl) ?_
      refine OpK.convInt (k' := .u8) (by kernel_rfl) (by kernel_rfl) rfl ?_
      refine OpK.indexStr (by kernel_rfl) rfl (congrArg (Value.int .u8) (show _ = ((n / 65536 / 256 : Nat) : Int) by rw [show (2 : Int) ^ min ((16 : Int).toNat) IntKind.u32.bits = 65536 from rfl, show (2 : Int) ^ min ((8 : Int).toNat) IntKind.u32.bits = 256 from rfl]; rw [IntKind.wrap_u8]; omega)) (tab8 (n / 65536 / 256) (by omega)) ?_
      refine OpK.convInt (k' := .i64) (by kernel_rfl) (by kernel_rfl) rfl ?_
      refine OpK.arith rfl rfl rfl ?_
      refine CWL.ret ?_
      refine ⟨_, rfl, ?_, rfl⟩
      rw [hb]
      exact len_fin 24 (n / 65536 / 256) (by decide)
    · skip
      have hb : bl32 n = 16 + bl8 (n / 65536) := by unfold bl32; rw [if_pos h1, if_neg h2]
      refine Calls.of_CW Tryz.func65 rfl (by decide +kernel) (Nat.le_of_ble_eq_true (by kernel_rfl)) (CW.of_flat ?_)
      simp only [flat, List.cons_append, List.nil_append, List.append_nil]
      refine CWL.reg (ops := [(.assign (.const (Go.Value.int Go.IntKind.i64 0)), 3)]) (b := [(2, 1)]) (by kernel_rfl) ?_
      refine OpK.assign ?_
      refine CWL.reg (ops := [(.binOp .geq 52 (.tmp 0) (.const (Go.Value.int Go.IntKind.u32 65536)) 52, 4)]) (b := [(4, 1), (3, 0)]) (by kernel_rfl) ?_
      refine OpK.cmp rfl rfl rfl ?_
      refine CWL.condT (congrArg Value.bool (decide_eq_true (by omega))) ?_
      simp only [flat, List.cons_append, List.nil_append, List.append_nil]
      refine CWL.reg (ops := [(.binOp .shr 52 (.tmp 0) (.const (Go.Value.int Go.IntKind.u64 16)) 86, 52)]) (b := [(0, 1), (6, 1), (5, 0)]) (by kernel_rfl) ?_
      refine OpK.shr rfl rfl (by decide) ?_
      refine CWL.reg (ops := [(.assign (.const (Go.Value.int Go.IntKind.i64 16)), 3)]) (b := [(2, 1)]) (by kernel_rfl) ?_
      refine OpK.assign ?_
      refine CWL.reg (ops := [(.binOp .geq 52 (.tmp 0) (.const (Go.Value.int Go.IntKind.u32 256)) 52, 4)]) (b := [(8, 1), (7, 0)]) (by kernel_rfl) ?_
      refine OpK.cmp rfl rfl rfl ?_
      refine CWL.condF (congrArg Value.bool (decide_eq_false (by rw [show (2 : Int) ^ min ((16 : Int).toNat) IntKind.u32.bits = 65536 from rfl]; omega))) ?_
      simp only [flat, List.cons_append, List.nil_append, List.append_nil]
      refine CWL.reg (ops := [(.convert 52 5 (.tmp 0), 5), (.index 9 (.const (Go.Value.string {data := List.toArray (List.append (List.append [0, 1, 2, 2, 3, 3, 3, 3, 4, 4, 4, 4, 4, 4, 4, 4, 5, 5, 5, 5, 5, 5, 5, 5, 5, 5, 5, 5, 5, 5, 5, 5, 6, 6, 6, 6, 6, 6, 6, 6, 6, 6, 6, 6, 6, 6, 6, 6, 6, 6, 6, 6, 6, 6, 6, 6, 6, 6, 6, 6, 6, 6, 6, 6] [7, 7, 7, 7, 7, 7, 7, 7, 7, 7, 7, 7, 7, 7, 7, 7, 7, 7, 7, 7, 7, 7, 7, 7, 7, 7, 7, 7, 7, 7, 7, 7, 7, 7, 7, 7, 7, 7, 7, 7, 7, 7, 7, 7, 7, 7, 7, 7, 7, 7, 7, 7, 7, 7, 7, 7, 7, 7, 7, 7, 7, 7, 7, 7]) (List.append [8, 8, 8, 8, 8, 8, 8, 8, 8, 8, 8, 8, 8, 8, 8, 8, 8, 8, 8, 8, 8, 8, 8, 8, 8, 8, 8, 8, 8, 8, 8, 8, 8, 8, 8, 8, 8, 8, 8, 8, 8, 8, 8, 8, 8, 8, 8, 8, 8, 8, 8, 8, 8, 8, 8, 8, 8, 8, 8, 8, 8, 8, 8, 8] [8, 8, 8, 8, 8, 8, 8, 8, 8, 8, 8, 8, 8, 8, 8, 8, 8, 8, 8, 8, 8, 8, 8, 8, 8, 8, 8, 8, 8, 8, 8, 8, 8, 8, 8, 8, 8, 8, 8, 8, 8, 8, 8, 8, 8, 8, 8, 8, 8, 8, 8, 8, 8, 8, 8, 8, 8, 8, 8, 8, 8, 8, 8, 8]))})) (.tmp 1), 5), (.convert 5 3 (.tmp 3), 3), (.binOp .add 3 (.tmp 4) (.tmp 5) 3, 3)]) (b := [(2, 7), (18, 7), (17, 5), (16, 3), (15, 1), (14, 0), (13, 4)]) (by kernel_rfl) ?_
      refine OpK.convInt (k' := .u8) (by kernel_rfl) (by kernel_rfl) rfl ?_
      refine OpK.indexStr (by kernel_rfl) rfl (congrArg (Value.int .u8) (show _ = ((n / 65536 : Nat) : Int) by rw [show (2 : Int) ^ min ((16 : Int).toNat) IntKind.u32.bits = 65536 from rfl]; rw [IntKind.wrap_u8]; omega)) (tab8 (n / 65536) (by omega)) ?_
      refine OpK.convInt (k' := .i64) (by kernel_rfl) (by kernel_rfl) rfl ?_
      refine OpK.arith rfl rfl rfl ?_
      refine CWL.ret ?_
      refine ⟨_, rfl, ?_, rfl⟩
      rw [hb]
      exact len_fin 16 (n / 65536) (by decide)
  · by_cases h2 : 256 ≤ n
    · skip
      have hb : bl32 n = 8 + bl8 (n / 256) := by unfold bl32; rw [if_neg h1, if_pos h2]
      refine Calls.of_CW Tryz.func65 rfl (by decide +kernel) (Nat.le_of_ble_eq_true (by kernel_rfl)) (CW.of_flat ?_)
      simp only [flat, List.cons_append, List.nil_append, List.append_nil]
      refine CWL.reg (ops := [(.assign (.const (Go.Value.int Go.IntKind.i64 0)), 3)]) (b := [(2, 1)]) (by kernel_rfl) ?_
      refine OpK.assign ?_
      refine CWL.reg (ops := [(.binOp .geq 52 (.tmp 0) (.const (Go.Value.int Go.IntKind.u32 65536)) 52, 4)]) (b := [(4, 1), (3, 0)]) (by kernel_rfl) ?_
      refine OpK.cmp rfl rfl rfl ?_
      refine CWL.condF (congrArg Value.bool (decide_eq_false (by omega))) ?_
      simp only [flat, List.cons_append, List.nil_append, List.append_nil]
      refine CWL.reg (ops := [(.binOp .geq 52 (.tmp 0) (.const (Go.Value.int Go.IntKind.u32 256)) 52, 4)]) (b := [(8, 1), (7, 0)]) (by kernel_rfl) ?_
      refine OpK.cmp rfl rfl rfl ?_
      refine CWL.condT (congrArg Value.bool (decide_eq_true (by omega))) ?_
      simp only [flat, List.cons_append, List.nil_append, List.append_nil]
      refine CWL.reg (ops := [(.binOp .shr 52 (.tmp 0) (.const (Go.Value.int Go.IntKind.u64 8)) 86, 52)]) (b := [(0, 1), (10, 1), (9, 0)]) (by kernel_rfl) ?_
      refine OpK.shr rfl rfl (by decide) ?_
      refine CWL.reg (ops := [(.binOp .add 3 (.tmp 4) (.const (Go.Value.int Go.IntKind.i64 8)) 3, 3)]) (b := [(2, 1), (12, 1), (11, 4)]) (by kernel_rfl) ?_
      refine OpK.arith rfl rfl rfl ?_
      refine CWL.reg (ops := [(.convert 52 5 (.tmp 0), 5), (.index 9 (.const (Go.Value.string {data := List.toArray (List.append (List.append [0, 1, 2, 2, 3, 3, 3, 3, 4, 4, 4, 4, 4, 4, 4, 4, 5, 5, 5, 5, 5, 5, 5, 5, 5, 5, 5, 5, 5, 5, 5, 5, 6, 6, 6, 6, 6, 6, 6, 6, 6, 6, 6, 6, 6, 6, 6, 6, 6, 6, 6, 6, 6, 6, 6, 6, 6, 6, 6, 6, 6, 6, 6, 6] [7, 7, 7, 7, 7, 7, 7, 7, 7, 7, 7, 7, 7, 7, 7, 7, 7, 7, 7, 7, 7, 7, 7, 7, 7, 7, 7, 7, 7, 7, 7, 7, 7, 7, 7, 7, 7, 7, 7, 7, 7, 7, 7, 7, 7, 7, 7, 7, 7, 7, 7, 7, 7, 7, 7, 7, 7, 7, 7, 7, 7, 7, 7, 7]) (List.append [8, 8, 8, 8, 8, 8, 8, 8, 8, 8, 8, 8, 8, 8, 8, 8, 8, 8, 8, 8, 8, 8, 8, 8, 8, 8, 8, 8, 8, 8, 8, 8, 8, 8, 8, 8, 8, 8, 8, 8, 8, 8, 8, 8, 8, 8, 8, 8, 8, 8, 8, 8, 8, 8, 8, 8, 8, 8, 8, 8, 8, 8, 8, 8] [8, 8, 8, 8, 8, 8, 8, 8, 8, 8, 8, 8, 8, 8, 8, 8, 8, 8, 8, 8, 8, 8, 8, 8, 8, 8, 8, 8, 8, 8, 8, 8, 8, 8, 8, 8, 8, 8, 8, 8, 8, 8, 8, 8, 8, 8, 8, 8, 8, 8, 8, 8, 8, 8, 8, 8, 8, 8, 8, 8, 8, 8, 8, 8]))})) (.tmp 1), 5), (.convert 5 3 (.tmp 3), 3), (.binOp .add 3 (.tmp 4) (.tmp 5) 3, 3)]) (b := [(2, 7), (18, 7), (17, 5), (16, 3), (15, 1), (14, 0), (13, 4)]) (by kernel_rfl) ?_
      refine OpK.convInt (k' := .u8) (by kernel_rfl) (by kernel_rfl) rfl ?_
      refine OpK.indexStr (by kernel_rfl) rfl (congrArg (Value.int .u8) (show _ = ((n / 256 : Nat) : Int) by rw [show (2 : Int) ^ min ((8 : Int).toNat) IntKind.u32.bits = 256 from rfl]; rw [IntKind.wrap_u8]; omega)) (tab8 (n / 256) (by omega)) ?_
      refine OpK.convInt (k' := .i64) (by kernel_rfl) (by kernel_rfl) rfl ?_
      refine OpK.arith rfl rfl rfl ?_
      refine CWL.ret ?_
      refine ⟨_, rfl, ?_, rfl⟩
      rw [hb]
      exact len_fin 8 (n / 256) (by decide)
    · skip
      have hb : bl32 n = 0 + bl8 (n) := by unfold bl32; rw [if_neg h1, if_neg h2]; simp
      refine Calls.of_CW Tryz.func65 rfl (by decide +kernel) (Nat.le_of_ble_eq_true (by kernel_rfl)) (CW.of_flat ?_)
      simp only [flat, List.cons_append, List.nil_append, List.append_nil]
      refine CWL.reg (ops := [(.assign (.const (Go.Value.int Go.IntKind.i64 0)), 3)]) (b := [(2, 1)]) (by kernel_rfl) ?_
      refine OpK.assign ?_
      refine CWL.reg (ops := [(.binOp .geq 52 (.tmp 0) (.const (Go.Value.int Go.IntKind.u32 65536)) 52, 4)]) (b := [(4, 1), (3, 0)]) (by kernel_rfl) ?_
      refine OpK.cmp rfl rfl rfl ?_
      refine CWL.condF (congrArg Value.bool (decide_eq_false (by omega))) ?_
      simp only [flat, List.cons_append, List.nil_append, List.append_nil]
      refine CWL.reg (ops := [(.binOp .geq 52 (.tmp 0) (.const (Go.Value.int Go.IntKind.u32 256)) 52, 4)]) (b := [(8, 1), (7, 0)]) (by kernel_rfl) ?_
      refine OpK.cmp rfl rfl rfl ?_
      refine CWL.condF (congrArg Value.bool (decide_eq_false (by omega))) ?_
      simp only [flat, List.cons_append, List.nil_append, List.append_nil]
      refine CWL.reg (ops := [(.convert 52 5 (.tmp 0), 5), (.index 9 (.const (Go.Value.string {data := List.toArray (List.append (List.append [0, 1, 2, 2, 3, 3, 3, 3, 4, 4, 4, 4, 4, 4, 4, 4, 5, 5, 5, 5, 5, 5, 5, 5, 5, 5, 5, 5, 5, 5, 5, 5, 6, 6, 6, 6, 6, 6, 6, 6, 6, 6, 6, 6, 6, 6, 6, 6, 6, 6, 6, 6, 6, 6, 6, 6, 6, 6, 6, 6, 6, 6, 6, 6] [7, 7, 7, 7, 7, 7, 7, 7, 7, 7, 7, 7, 7, 7, 7, 7, 7, 7, 7, 7, 7, 7, 7, 7, 7, 7, 7, 7, 7, 7, 7, 7, 7, 7, 7, 7, 7, 7, 7, 7, 7, 7, 7, 7, 7, 7, 7, 7, 7, 7, 7, 7, 7, 7, 7, 7, 7, 7, 7, 7, 7, 7, 7, 7]) (List.append [8, 8, 8, 8, 8, 8, 8, 8, 8, 8, 8, 8, 8, 8, 8, 8, 8, 8, 8, 8, 8, 8, 8, 8, 8, 8, 8, 8, 8, 8, 8, 8, 8, 8, 8, 8, 8, 8, 8, 8, 8, 8, 8, 8, 8, 8, 8, 8, 8, 8, 8, 8, 8, 8, 8, 8, 8, 8, 8, 8, 8, 8, 8, 8] [8, 8, 8, 8, 8, 8, 8, 8, 8, 8, 8, 8, 8, 8, 8, 8, 8, 8, 8, 8, 8, 8, 8, 8, 8, 8, 8, 8, 8, 8, 8, 8, 8, 8, 8, 8, 8, 8, 8, 8, 8, 8, 8, 8, 8, 8, 8, 8, 8, 8, 8, 8, 8, 8, 8, 8, 8, 8, 8, 8, 8, 8, 8, 8]))})) (.tmp 1), 5), (.convert 5 3 (.tmp 3), 3), (.binOp .add 3 (.tmp 4) (.tmp 5) 3, 3)]) (b := [(2, 7), (18, 7), (17, 5), (16, 3), (15, 1), (14, 0), (13, 4)]) (by kernel_rfl) ?_
      refine OpK.convInt (k' := .u8) (by kernel_rfl) (by kernel_rfl) rfl ?_
      refine OpK.indexStr (by kernel_rfl) rfl (congrArg (Value.int .u8) (show _ = ((n : Nat) : Int) by rw [IntKind.wrap_u8]; omega)) (tab8 (n) (by omega)) ?_
      refine OpK.convInt (k' := .i64) (by kernel_rfl) (by kernel_rfl) rfl ?_
      refine OpK.arith rfl rfl rfl ?_
      refine CWL.ret ?_
      refine ⟨_, rfl, ?_, rfl⟩
      rw [hb]
      exact len_fin 0 (n) (by decide)

theorem tabU (j : Nat) (h : j ≤ 32) : (match (.const (Go.Value.string {data := List.toArray (List.append (List.append [1, 1, 1, 1, 1, 1, 1, 1, 2, 2, 2, 2, 2, 2, 2, 3, 3, 3, 3, 3, 3, 3, 4, 4, 4, 4, 4, 4, 4, 5, 5, 5, 5, 5, 5, 5, 6, 6, 6, 6, 6, 6, 6, 7, 7, 7, 7, 7, 7, 7, 8, 8, 8, 8, 8, 8, 8, 9, 9, 9, 9, 9, 9, 9] [10, 0, 0, 0, 0, 0, 0, 0, 0, 0, 0, 0, 0, 0, 0, 0, 0, 0, 0, 0, 0, 0, 0, 0, 0, 0, 0, 0, 0, 0, 0, 0, 0, 0, 0, 0, 0, 0, 0, 0, 0, 0, 0, 0, 0, 0, 0, 0, 0, 0, 0, 0, 0, 0, 0, 0, 0, 0, 0, 0, 0, 0, 0, 0]) (List.append [0, 0, 0, 0, 0, 0, 0, 0, 0, 0, 0, 0, 0, 0, 0, 0, 0, 0, 0, 0, 0, 0, 0, 0, 0, 0, 0, 0, 0, 0, 0, 0, 0, 0, 0, 0, 0, 0, 0, 0, 0, 0, 0, 0, 0, 0, 0, 0, 0, 0, 0, 0, 0, 0, 0, 0, 0, 0, 0, 0, 0, 0, 0, 0] [0, 0, 0, 0, 0, 0, 0, 0, 0, 0, 0, 0, 0, 0, 0, 0, 0, 0, 0, 0, 0, 0, 0, 0, 0, 0, 0, 0, 0, 0, 0, 0, 0, 0, 0, 0, 0, 0, 0, 0, 0, 0, 0, 0, 0, 0, 0, 0, 0, 0, 0, 0, 0, 0, 0, 0, 0, 0, 0, 0, 0, 0, 0, 0]))}) : Operand) with | .const (.string s) => s[j]? | _ => none) = some (UInt8.ofNat (utab j)) := by
  have k : ∀ j : Fin 33, (match (.const (Go.Value.string {data := List.toArray (List.append (List.append [1, 1, 1, 1, 1, 1, 1, 1, 2, 2, 2, 2, 2, 2, 2, 3, 3, 3, 3, 3, 3, 3, 4, 4, 4, 4, 4, 4, 4, 5, 5, 5, 5, 5, 5, 5, 6, 6, 6, 6, 6, 6, 6, 7, 7, 7, 7, 7, 7, 7, 8, 8, 8, 8, 8, 8, 8, 9, 9, 9, 9, 9, 9, 9] [10, 0, 0, 0, 0, 0, 0, 0, 0, 0, 0, 0, 0, 0, 0, 0, 0, 0, 0, 0, 0, 0, 0, 0, 0, 0, 0, 0, 0, 0, 0, 0, 0, 0, 0, 0, 0, 0, 0, 0, 0, 0, 0, 0, 0, 0, 0, 0, 0, 0, 0, 0, 0, 0, 0, 0, 0, 0, 0, 0, 0, 0, 0, 0]) (List.append [0, 0, 0, 0, 0, 0, 0, 0, 0, 0, 0, 0, 0, 0, 0, 0, 0, 0, 0, 0, 0, 0, 0, 0, 0, 0, 0, 0, 0, 0, 0, 0, 0, 0, 0, 0, 0, 0, 0, 0, 0, 0, 0, 0, 0, 0, 0, 0, 0, 0, 0, 0, 0, 0, 0, 0, 0, 0, 0, 0, 0, 0, 0, 0] [0, 0, 0, 0, 0, 0, 0, 0, 0, 0, 0, 0, 0, 0, 0, 0, 0, 0, 0, 0, 0, 0, 0, 0, 0, 0, 0, 0, 0, 0, 0, 0, 0, 0, 0, 0, 0, 0, 0, 0, 0, 0, 0, 0, 0, 0, 0, 0, 0, 0, 0, 0, 0, 0, 0, 0, 0, 0, 0, 0, 0, 0, 0, 0]))}) : Operand) with | .const (.string s) => s[j.1]? | _ => none) = some (UInt8.ofNat (utab j.1)) := by decide +kernel
  exact k ⟨j, by omega⟩

theorem call59 : Callable Tryz.prog 59 := ⟨Tryz.f59, Tryz.func59, by kernel_rfl, by kernel_rfl⟩
set_option maxHeartbeats 4000000 in
theorem c59 (w : World) (n : Nat) (hn : n < 4294967296) : Calls Tryz.prog 59 #[.int .u32 n] w fun en w' => ∃ r, en = .returned r ∧ r = .int .i64 (uvLen n : Int) ∧ w' = w := by
  refine Calls.of_CW Tryz.func59 rfl (by decide +kernel) (Nat.le_of_ble_eq_true (by kernel_rfl)) (CW.of_flat ?_)
  simp only [flat, List.cons_append, List.nil_append, List.append_nil]
  refine CWL.reg (ops := [(.assign (.const (Go.Value.int Go.IntKind.i64 0)), 3)]) (b := [(2, 1)]) (by kernel_rfl) ?_
  refine OpK.assign ?_
  refine CWL.reg (ops := [(.call ⟨.value (.func 65), #[.tmp 0], #[52]⟩, 3), (.convert 3 5 (.tmp 1), 5), (.index 9 (.const (Go.Value.string {data := List.toArray (List.append (List.append [1, 1, 1, 1, 1, 1, 1, 1, 2, 2, 2, 2, 2, 2, 2, 3, 3, 3, 3, 3, 3, 3, 4, 4, 4, 4, 4, 4, 4, 5, 5, 5, 5, 5, 5, 5, 6, 6, 6, 6, 6, 6, 6, 7, 7, 7, 7, 7, 7, 7, 8, 8, 8, 8, 8, 8, 8, 9, 9, 9, 9, 9, 9, 9] [10, 0, 0, 0, 0, 0, 0, 0, 0, 0, 0, 0, 0, 0, 0, 0, 0, 0, 0, 0, 0, 0, 0, 0, 0, 0, 0, 0, 0, 0, 0, 0, 0, 0, 0, 0, 0, 0, 0, 0, 0, 0, 0, 0, 0, 0, 0, 0, 0, 0, 0, 0, 0, 0, 0, 0, 0, 0, 0, 0, 0, 0, 0, 0]) (List.append [0, 0, 0, 0, 0, 0, 0, 0, 0, 0, 0, 0, 0, 0, 0, 0, 0, 0, 0, 0, 0, 0, 0, 0, 0, 0, 0, 0, 0, 0, 0, 0, 0, 0, 0, 0, 0, 0, 0, 0, 0, 0, 0, 0, 0, 0, 0, 0, 0, 0, 0, 0, 0, 0, 0, 0, 0, 0, 0, 0, 0, 0, 0, 0] [0, 0, 0, 0, 0, 0, 0, 0, 0, 0, 0, 0, 0, 0, 0, 0, 0, 0, 0, 0, 0, 0, 0, 0, 0, 0, 0, 0, 0, 0, 0, 0, 0, 0, 0, 0, 0, 0, 0, 0, 0, 0, 0, 0, 0, 0, 0, 0, 0, 0, 0, 0, 0, 0, 0, 0, 0, 0, 0, 0, 0, 0, 0, 0]))})) (.tmp 3), 5), (.convert 5 3 (.tmp 5), 3)]) (b := [(2, 7), (7, 7), (6, 5), (5, 3), (4, 1), (3, 0)]) (by kernel_rfl) ?_
  refine OpK.asCall rfl call65 rfl ((c65 w n hn).mono ?_)
  rintro en w1 ⟨r1, he1, hr1, hw1⟩
  subst hw1
  subst hr1
  refine ⟨_, he1, ?_⟩
  refine OpK.convInt (k' := .u8) (by kernel_rfl) (by kernel_rfl) rfl ?_
  refine OpK.indexStr (by kernel_rfl) rfl (congrArg (Value.int .u8) (u8_nat (Nat.lt_of_le_of_lt bl32_le (by decide)))) (tabU (bl32 n) bl32_le) ?_
  refine OpK.convInt (k' := .i64) (by kernel_rfl) (by kernel_rfl) rfl ?_
  refine CWL.ret ?_
  exact ⟨_, rfl, ulen_val hn, rfl⟩

theorem call32 : Callable Tryz.prog 32 := ⟨Tryz.f32, Tryz.func32, by kernel_rfl, by kernel_rfl⟩
set_option maxHeartbeats 8000000 in
theorem c32 (w : World) (n : Nat) (m : Int) (hm : m = n) (hn : n < 4294967296) (d : Value) (bs : List UInt8) (hd : Own 5 w d bs) (hl : bs.length + (uvar n).length ≤ Lim) : Calls Tryz.prog 32 #[d, .int .u32 m] w fun en w' => ∃ d', en = .returned d' ∧ Grew 5 w d w' d' (bs ++ uvar n) := by
  subst hm
  have hcase : n < 128 ∨ (128 ≤ n ∧ n < 16384) ∨ (16384 ≤ n ∧ n < 2097152) ∨ (2097152 ≤ n ∧ n < 268435456) ∨ 268435456 ≤ n := by omega
  obtain ⟨v', w', hr, hg⟩ := append_lit (ty := 22) und u8 hd (uvar n) hl
  rcases hcase with h | ⟨h, h'⟩ | ⟨h, h'⟩ | ⟨h, h'⟩ | h
  · skip
    have hk : uvLen n = 1 := by unfold uvLen; repeat' split <;> try omega
    have hc : (uvar n).map bv = [.int .u8 (IntKind.u8.wrap (n : Int))] := by
      rw [uv1 h]
      simp only [List.map_cons, List.map_nil]
      rw [← grpL0 n h]
    have hlen : (uvar n).length = 1 := by rw [uv1 h]; rfl
    rw [hc, hlen] at hr
    refine Calls.of_CW Tryz.func32 rfl (by decide +kernel) (Nat.le_of_ble_eq_true (by kernel_rfl)) (CW.of_flat ?_)
    simp only [flat, List.cons_append, List.nil_append, List.append_nil]
    refine CWL.reg (ops := [(.assign (.const (Go.Value.slice none 0 0)), 22)]) (b := [(4, 1)]) (by kernel_rfl) ?_
    refine OpK.assign ?_
    refine CWL.reg (ops := [(.call ⟨.value (.func 59), #[.tmp 2], #[52]⟩, 3)]) (b := [(6, 1), (5, 2)]) (by kernel_rfl) ?_
    refine OpK.asCall rfl call59 rfl ((c59 w n hn).mono ?_)
    rintro en w1 ⟨r1, he1, hr1, hw1⟩
    subst hw1
    rw [hk] at hr1
    subst hr1
    refine ⟨_, he1, ?_⟩
    refine CWL.block ?_
    simp only [flat, List.cons_append, List.nil_append, List.append_nil]
    refine CWL.reg (ops := [(.binOp .eql 3 (.tmp 12) (.const (Go.Value.int Go.IntKind.i64 5)) 3, 4)]) (b := [(7, 1), (8, 1)]) (by kernel_rfl) ?_
    refine OpK.cmp rfl rfl rfl ?_
    refine CWL.condF rfl ?_
    simp only [flat, List.cons_append, List.nil_append, List.append_nil]
    refine CWL.reg (ops := [(.binOp .eql 3 (.tmp 12) (.const (Go.Value.int Go.IntKind.i64 4)) 3, 4)]) (b := [(34, 1), (35, 1)]) (by kernel_rfl) ?_
    refine OpK.cmp rfl rfl rfl ?_
    refine CWL.condF rfl ?_
    simp only [flat, List.cons_append, List.nil_append, List.append_nil]
    refine CWL.reg (ops := [(.binOp .eql 3 (.tmp 12) (.const (Go.Value.int Go.IntKind.i64 3)) 3, 4)]) (b := [(56, 1), (57, 1)]) (by kernel_rfl) ?_
    refine OpK.cmp rfl rfl rfl ?_
    refine CWL.condF rfl ?_
    simp only [flat, List.cons_append, List.nil_append, List.append_nil]
    refine CWL.reg (ops := [(.binOp .eql 3 (.tmp 12) (.const (Go.Value.int Go.IntKind.i64 2)) 3, 4)]) (b := [(73, 1), (74, 1)]) (by kernel_rfl) ?_
    refine OpK.cmp rfl rfl rfl ?_
    refine CWL.condF rfl ?_
    simp only [flat, List.cons_append, List.nil_append, List.append_nil]
    refine CWL.reg (ops := [(.binOp .eql 3 (.tmp 12) (.const (Go.Value.int Go.IntKind.i64 1)) 3, 4)]) (b := [(85, 1), (86, 1)]) (by kernel_rfl) ?_
    refine OpK.cmp rfl rfl rfl ?_
    refine CWL.condT rfl ?_
    simp only [flat, List.cons_append, List.nil_append, List.append_nil]
    refine CWL.reg (ops := [(.convert 52 5 (.tmp 2), 5), (.buildSlice 22 1 #[(0, .tmp 1)], 22), (.call ⟨.builtin .append, #[.tmp 0, .tmp 3], #[22, 22]⟩, 22)]) (b := [(4, 5), (91, 5), (90, 3), (89, 1), (88, 2), (87, 0)]) (by kernel_rfl) ?_
    refine OpK.convInt (k' := .u8) (by kernel_rfl) (by kernel_rfl) rfl ?_
    refine OpK.buildS (by simp only [List.map_toArray, List.map_cons, List.map_nil]; exact run_bs1 (by kernel_rfl) u8 _) ?_
    refine OpK.run rfl hr ?_
    refine CWL.ret ?_
    exact ⟨_, rfl, hg⟩
  · skip
    have hk : uvLen n = 2 := by unfold uvLen; repeat' split <;> try omega
    have hc : (uvar n).map bv = [.int .u8 (IntKind.u8.wrap (bits .or .u32 (bits .and .u32 (n : Int) 127) 128)), .int .u8 (IntKind.u8.wrap ((n : Int) / 2 ^ min ((7 : Int).toNat) IntKind.u32.bits))] := by
      rw [uv2 h h']
      simp only [List.map_cons, List.map_nil]
      rw [← grpL n 7 (by omega), ← grp0 n hn]
      rfl
    have hlen : (uvar n).length = 2 := by rw [uv2 h h']; rfl
    rw [hc, hlen] at hr
    refine Calls.of_CW Tryz.func32 rfl (by decide +kernel) (Nat.le_of_ble_eq_true (by kernel_rfl)) (CW.of_flat ?_)
    simp only [flat, List.cons_append, List.nil_append, List.append_nil]
    refine CWL.reg (ops := [(.assign (.const (Go.Value.slice none 0 0)), 22)]) (b := [(4, 1)]) (by kernel_rfl) ?_
    refine OpK.assign ?_
    refine CWL.reg (ops := [(.call ⟨.value (.func 59), #[.tmp 2], #[52]⟩, 3)]) (b := [(6, 1), (5, 2)]) (by kernel_rfl) ?_
    refine OpK.asCall rfl call59 rfl ((c59 w n hn).mono ?_)
    rintro en w1 ⟨r1, he1, hr1, hw1⟩
    subst hw1
    rw [hk] at hr1
    subst hr1
    refine ⟨_, he1, ?_⟩
    refine CWL.block ?_
    simp only [flat, List.cons_append, List.nil_append, List.append_nil]
    refine CWL.reg (ops := [(.binOp .eql 3 (.tmp 12) (.const (Go.Value.int Go.IntKind.i64 5)) 3, 4)]) (b := [(7, 1), (8, 1)]) (by kernel_rfl) ?_
    refine OpK.cmp rfl rfl rfl ?_
    refine CWL.condF rfl ?_
    simp only [flat, List.cons_append, List.nil_append, List.append_nil]
    refine CWL.reg (ops := [(.binOp .eql 3 (.tmp 12) (.const (Go.Value.int Go.IntKind.i64 4)) 3, 4)]) (b := [(34, 1), (35, 1)]) (by kernel_rfl) ?_
    refine OpK.cmp rfl rfl rfl ?_
    refine CWL.condF rfl ?_
    simp only [flat, List.cons_append, List.nil_append, List.append_nil]
    refine CWL.reg (ops := [(.binOp .eql 3 (.tmp 12) (.const (Go.Value.int Go.IntKind.i64 3)) 3, 4)]) (b := [(56, 1), (57, 1)]) (by kernel_rfl) ?_
    refine OpK.cmp rfl rfl rfl ?_
    refine CWL.condF rfl ?_
    simp only [flat, List.cons_append, List.nil_append, List.append_nil]
    refine CWL.reg (ops := [(.binOp .eql 3 (.tmp 12) (.const (Go.Value.int Go.IntKind.i64 2)) 3, 4)]) (b := [(73, 1), (74, 1)]) (by kernel_rfl) ?_
    refine OpK.cmp rfl rfl rfl ?_
    refine CWL.condT rfl ?_
    simp only [flat, List.cons_append, List.nil_append, List.append_nil]
    refine CWL.reg (ops := [(.binOp .and 52 (.tmp 2) (.const (Go.Value.int Go.IntKind.u32 127)) 52, 52), (.binOp .or 52 (.tmp 1) (.const (Go.Value.int Go.IntKind.u32 128)) 52, 52), (.convert 52 5 (.tmp 3), 5), (.binOp .shr 52 (.tmp 2) (.const (Go.Value.int Go.IntKind.u64 7)) 86, 52), (.convert 52 5 (.tmp 7), 5), (.buildSlice 22 2 #[(0, .tmp 5), (1, .tmp 9)], 22), (.call ⟨.builtin .append, #[.tmp 0, .tmp 11], #[22, 22]⟩, 22)]) (b := [(4, 13), (84, 13), (83, 11), (82, 9), (81, 7), (80, 2), (79, 5), (78, 3), (77, 1), (76, 2), (75, 0)]) (by kernel_rfl) ?_
    refine OpK.and rfl rfl ?_
    refine OpK.or rfl rfl ?_
    refine OpK.convInt (k' := .u8) (by kernel_rfl) (by kernel_rfl) rfl ?_
    refine OpK.shr rfl rfl (by decide) ?_
    refine OpK.convInt (k' := .u8) (by kernel_rfl) (by kernel_rfl) rfl ?_
    refine OpK.buildS (by simp only [List.map_toArray, List.map_cons, List.map_nil]; exact run_bs2 (by kernel_rfl) u8 _ _) ?_
    refine OpK.run rfl hr ?_
    refine CWL.ret ?_
    exact ⟨_, rfl, hg⟩
  · skip
    have hk : uvLen n = 3 := by unfold uvLen; repeat' split <;> try omega
    have hc : (uvar n).map bv = [.int .u8 (IntKind.u8.wrap (bits .or .u32 (bits .and .u32 (n : Int) 127) 128)), .int .u8 (IntKind.u8.wrap (bits .or .u32 (bits .and .u32 ((n : Int) / 2 ^ min ((7 : Int).toNat) IntKind.u32.bits) 127) 128)), .int .u8 (IntKind.u8.wrap ((n : Int) / 2 ^ min ((14 : Int).toNat) IntKind.u32.bits))] := by
      rw [uv3 h h']
      simp only [List.map_cons, List.map_nil]
      rw [← grpL n 14 (by omega), ← grp n 7 hn, ← grp0 n hn]
      rfl
    have hlen : (uvar n).length = 3 := by rw [uv3 h h']; rfl
    rw [hc, hlen] at hr
    refine Calls.of_CW Tryz.func32 rfl (by decide +kernel) (Nat.le_of_ble_eq_true (by kernel_rfl)) (CW.of_flat ?_)
    simp only [flat, List.cons_append, List.nil_append, List.append_nil]
    refine CWL.reg (ops := [(.assign (.const (Go.Value.slice none 0 0)), 22)]) (b := [(4, 1)]) (by kernel_rfl) ?_
    refine OpK.assign ?_
    refine CWL.reg (ops := [(.call ⟨.value (.func 59), #[.tmp 2], #[52]⟩, 3)]) (b := [(6, 1), (5, 2)]) (by kernel_rfl) ?_
    refine OpK.asCall rfl call59 rfl ((c59 w n hn).mono ?_)
    rintro en w1 ⟨r1, he1, hr1, hw1⟩
    subst hw1
    rw [hk] at hr1
    subst hr1
    refine ⟨_, he1, ?_⟩
    refine CWL.block ?_
    simp only [flat, List.cons_append, List.nil_append, List.append_nil]
    refine CWL.reg (ops := [(.binOp .eql 3 (.tmp 12) (.const (Go.Value.int Go.IntKind.i64 5)) 3, 4)]) (b := [(7, 1), (8, 1)]) (by kernel_rfl) ?_
    refine OpK.cmp rfl rfl rfl ?_
    refine CWL.condF rfl ?_
    simp only [flat, List.cons_append, List.nil_append, List.append_nil]
    refine CWL.reg (ops := [(.binOp .eql 3 (.tmp 12) (.const (Go.Value.int Go.IntKind.i64 4)) 3, 4)]) (b := [(34, 1), (35, 1)]) (by kernel_rfl) ?_
    refine OpK.cmp rfl rfl rfl ?_
    refine CWL.condF rfl ?_
    simp only [flat, List.cons_append, List.nil_append, List.append_nil]
    refine CWL.reg (ops := [(.binOp .eql 3 (.tmp 12) (.const (Go.Value.int Go.IntKind.i64 3)) 3, 4)]) (b := [(56, 1), (57, 1)]) (by kernel_rfl) ?_
    refine OpK.cmp rfl rfl rfl ?_
    refine CWL.condT rfl ?_
    simp only [flat, List.cons_append, List.nil_append, List.append_nil]
    refine CWL.reg (ops := [(.binOp .and 52 (.tmp 2) (.const (Go.Value.int Go.IntKind.u32 127)) 52, 52), (.binOp .or 52 (.tmp 1) (.const (Go.Value.int Go.IntKind.u32 128)) 52, 52), (.convert 52 5 (.tmp 3), 5), (.binOp .shr 52 (.tmp 2) (.const (Go.Value.int Go.IntKind.u64 7)) 86, 52), (.binOp .and 52 (.tmp 7) (.const (Go.Value.int Go.IntKind.u32 127)) 52, 52), (.binOp .or 52 (.tmp 9) (.const (Go.Value.int Go.IntKind.u32 128)) 52, 52), (.convert 52 5 (.tmp 11), 5), (.binOp .shr 52 (.tmp 2) (.const (Go.Value.int Go.IntKind.u64 14)) 86, 52), (.convert 52 5 (.tmp 15), 5), (.buildSlice 22 3 #[(0, .tmp 5), (1, .tmp 13), (2, .tmp 17)], 22), (.call ⟨.builtin .append, #[.tmp 0, .tmp 19], #[22, 22]⟩, 22)]) (b := [(4, 21), (72, 21), (71, 19), (70, 17), (69, 15), (68, 2), (67, 13), (66, 11), (65, 9), (64, 7), (63, 2), (62, 5), (61, 3), (60, 1), (59, 2), (58, 0)]) (by kernel_rfl) ?_
    refine OpK.and rfl rfl ?_
    refine OpK.or rfl rfl ?_
    refine OpK.convInt (k' := .u8) (by kernel_rfl) (by kernel_rfl) rfl ?_
    refine OpK.shr rfl rfl (by decide) ?_
    refine OpK.and rfl rfl ?_
    refine OpK.or rfl rfl ?_
    refine OpK.convInt (k' := .u8) (by kernel_rfl) (by kernel_rfl) rfl ?_
    refine OpK.shr rfl rfl (by decide) ?_
    refine OpK.convInt (k' := .u8) (by kernel_rfl) (by kernel_rfl) rfl ?_
    refine OpK.buildS (by simp only [List.map_toArray, List.map_cons, List.map_nil]; exact run_bs3 (by kernel_rfl) u8 _ _ _) ?_
    refine OpK.run rfl hr ?_
    refine CWL.ret ?_
    exact ⟨_, rfl, hg⟩
  · skip
    have hk : uvLen n = 4 := by unfold uvLen; repeat' split <;> try omega
    have hc : (uvar n).map bv = [.int .u8 (IntKind.u8.wrap (bits .or .u32 (bits .and .u32 (n : Int) 127) 128)), .int .u8 (IntKind.u8.wrap (bits .or .u32 (bits .and .u32 ((n : Int) / 2 ^ min ((7 : Int).toNat) IntKind.u32.bits) 127) 128)), .int .u8 (IntKind.u8.wrap (bits .or .u32 (bits .and .u32 ((n : Int) / 2 ^ min ((14 : Int).toNat) IntKind.u32.bits) 127) 128)), .int .u8 (IntKind.u8.wrap ((n : Int) / 2 ^ min ((21 : Int).toNat) IntKind.u32.bits))] := by
      rw [uv4 h h']
      simp only [List.map_cons, List.map_nil]
      rw [← grpL n 21 (by omega), ← grp n 14 hn, ← grp n 7 hn, ← grp0 n hn]
      rfl
    have hlen : (uvar n).length = 4 := by rw [uv4 h h']; rfl
    rw [hc, hlen] at hr
    refine Calls.of_CW Tryz.func32 rfl (by decide +kernel) (Nat.le_of_ble_eq_true (by kernel_rfl)) (CW.of_flat ?_)
    simp only [flat, List.cons_append, List.nil_append, List.append_nil]
    refine CWL.reg (ops := [(.assign (.const (Go.Value.slice none 0 0)), 22)]) (b := [(4, 1)]) (by kernel_rfl) ?_
    refine OpK.assign ?_
    refine CWL.reg (ops := [(.call ⟨.value (.func 59), #[.tmp 2], #[52]⟩, 3)]) (b := [(6, 1), (5, 2)]) (by kernel_rfl) ?_
    refine OpK.asCall rfl call59 rfl ((c59 w n hn).mono ?_)
    rintro en w1 ⟨r1, he1, hr1, hw1⟩
    subst hw1
    rw [hk] at hr1
    subst hr1
    refine ⟨_, he1, ?_⟩
    refine CWL.block ?_
    simp only [flat, List.cons_append, List.nil_append, List.append_nil]
    refine CWL.reg (ops := [(.binOp .eql 3 (.tmp 12) (.const (Go.Value.int Go.IntKind.i64 5)) 3, 4)]) (b := [(7, 1), (8, 1)]) (by kernel_rfl) ?_
    refine OpK.cmp rfl rfl rfl ?_
    refine CWL.condF rfl ?_
    simp only [flat, List.cons_append, List.nil_append, List.append_nil]
    refine CWL.reg (ops := [(.binOp .eql 3 (.tmp 12) (.const (Go.Value.int Go.IntKind.i64 4)) 3, 4)]) (b := [(34, 1), (35, 1)]) (by kernel_rfl) ?_
    refine OpK.cmp rfl rfl rfl ?_
    refine CWL.condT rfl ?_
    simp only [flat, List.cons_append, List.nil_append, List.append_nil]
    refine CWL.reg (ops := [(.binOp .and 52 (.tmp 2) (.const (Go.Value.int Go.IntKind.u32 127)) 52, 52), (.binOp .or 52 (.tmp 1) (.const (Go.Value.int Go.IntKind.u32 128)) 52, 52), (.convert 52 5 (.tmp 3), 5), (.binOp .shr 52 (.tmp 2) (.const (Go.Value.int Go.IntKind.u64 7)) 86, 52), (.binOp .and 52 (.tmp 7) (.const (Go.Value.int Go.IntKind.u32 127)) 52, 52), (.binOp .or 52 (.tmp 9) (.const (Go.Value.int Go.IntKind.u32 128)) 52, 52), (.convert 52 5 (.tmp 11), 5), (.binOp .shr 52 (.tmp 2) (.const (Go.Value.int Go.IntKind.u64 14)) 86, 52), (.binOp .and 52 (.tmp 15) (.const (Go.Value.int Go.IntKind.u32 127)) 52, 52), (.binOp .or 52 (.tmp 17) (.const (Go.Value.int Go.IntKind.u32 128)) 52, 52), (.convert 52 5 (.tmp 19), 5), (.binOp .shr 52 (.tmp 2) (.const (Go.Value.int Go.IntKind.u64 21)) 86, 52), (.convert 52 5 (.tmp 23), 5), (.buildSlice 22 4 #[(0, .tmp 5), (1, .tmp 13), (2, .tmp 21), (3, .tmp 25)], 22), (.call ⟨.builtin .append, #[.tmp 0, .tmp 27], #[22, 22]⟩, 22)]) (b := [(4, 29), (55, 29), (54, 27), (53, 25), (52, 23), (51, 2), (50, 21), (49, 19), (48, 17), (47, 15), (46, 2), (45, 13), (44, 11), (43, 9), (42, 7), (41, 2), (40, 5), (39, 3), (38, 1), (37, 2), (36, 0)]) (by kernel_rfl) ?_
    refine OpK.and rfl rfl ?_
    refine OpK.or rfl rfl ?_
    refine OpK.convInt (k' := .u8) (by kernel_rfl) (by kernel_rfl) rfl ?_
    refine OpK.shr rfl rfl (by decide) ?_
    refine OpK.and rfl rfl ?_
    refine OpK.or rfl rfl ?_
    refine OpK.convInt (k' := .u8) (by kernel_rfl) (by kernel_rfl) rfl ?_
    refine OpK.shr rfl rfl (by decide) ?_
    refine OpK.and rfl rfl ?_
    refine OpK.or rfl rfl ?_
    refine OpK.convInt (k' := .u8) (by kernel_rfl) (by kernel_rfl) rfl ?_
    refine OpK.shr rfl rfl (by decide) ?_
    refine OpK.convInt (k' := .u8) (by kernel_rfl) (by kernel_rfl) rfl ?_
    refine OpK.buildS (by simp only [List.map_toArray, List.map_cons, List.map_nil]; exact run_bs4 (by kernel_rfl) u8 _ _ _ _) ?_
    refine OpK.run rfl hr ?_
    refine CWL.ret ?_
    exact ⟨_, rfl, hg⟩
  · skip
    have hk : uvLen n = 5 := by unfold uvLen; repeat' split <;> try omega
    have hc : (uvar n).map bv = [.int .u8 (IntKind.u8.wrap (bits .or .u32 (bits .and .u32 (n : Int) 127) 128)), .int .u8 (IntKind.u8.wrap (bits .or .u32 (bits .and .u32 ((n : Int) / 2 ^ min ((7 : Int).toNat) IntKind.u32.bits) 127) 128)), .int .u8 (IntKind.u8.wrap (bits .or .u32 (bits .and .u32 ((n : Int) / 2 ^ min ((14 : Int).toNat) IntKind.u32.bits) 127) 128)), .int .u8 (IntKind.u8.wrap (bits .or .u32 (bits .and .u32 ((n : Int) / 2 ^ min ((21 : Int).toNat) IntKind.u32.bits) 127) 128)), .int .u8 (IntKind.u8.wrap ((n : Int) / 2 ^ min ((28 : Int).toNat) IntKind.u32.bits))] := by
      rw [uv5 h hn]
      simp only [List.map_cons, List.map_nil]
      rw [← grpL n 28 (by omega), ← grp n 21 hn, ← grp n 14 hn, ← grp n 7 hn, ← grp0 n hn]
      rfl
    have hlen : (uvar n).length = 5 := by rw [uv5 h hn]; rfl
    rw [hc, hlen] at hr
    refine Calls.of_CW Tryz.func32 rfl (by decide +kernel) (Nat.le_of_ble_eq_true (by kernel_rfl)) (CW.of_flat ?_)
    simp only [flat, List.cons_append, List.nil_append, List.append_nil]
    refine CWL.reg (ops := [(.assign (.const (Go.Value.slice none 0 0)), 22)]) (b := [(4, 1)]) (by kernel_rfl) ?_
    refine OpK.assign ?_
    refine CWL.reg (ops := [(.call ⟨.value (.func 59), #[.tmp 2], #[52]⟩, 3)]) (b := [(6, 1), (5, 2)]) (by kernel_rfl) ?_
    refine OpK.asCall rfl call59 rfl ((c59 w n hn).mono ?_)
    rintro en w1 ⟨r1, he1, hr1, hw1⟩
    subst hw1
    rw [hk] at hr1
    subst hr1
    refine ⟨_, he1, ?_⟩
    refine CWL.block ?_
    simp only [flat, List.cons_append, List.nil_append, List.append_nil]
    refine CWL.reg (ops := [(.binOp .eql 3 (.tmp 12) (.const (Go.Value.int Go.IntKind.i64 5)) 3, 4)]) (b := [(7, 1), (8, 1)]) (by kernel_rfl) ?_
    refine OpK.cmp rfl rfl rfl ?_
    refine CWL.condT rfl ?_
    simp only [flat, List.cons_append, List.nil_append, List.append_nil]
    refine CWL.reg (ops := [(.binOp .and 52 (.tmp 2) (.const (Go.Value.int Go.IntKind.u32 127)) 52, 52), (.binOp .or 52 (.tmp 1) (.const (Go.Value.int Go.IntKind.u32 128)) 52, 52), (.convert 52 5 (.tmp 3), 5), (.binOp .shr 52 (.tmp 2) (.const (Go.Value.int Go.IntKind.u64 7)) 86, 52), (.binOp .and 52 (.tmp 7) (.const (Go.Value.int Go.IntKind.u32 127)) 52, 52), (.binOp .or 52 (.tmp 9) (.const (Go.Value.int Go.IntKind.u32 128)) 52, 52), (.convert 52 5 (.tmp 11), 5), (.binOp .shr 52 (.tmp 2) (.const (Go.Value.int Go.IntKind.u64 14)) 86, 52), (.binOp .and 52 (.tmp 15) (.const (Go.Value.int Go.IntKind.u32 127)) 52, 52), (.binOp .or 52 (.tmp 17) (.const (Go.Value.int Go.IntKind.u32 128)) 52, 52), (.convert 52 5 (.tmp 19), 5), (.binOp .shr 52 (.tmp 2) (.const (Go.Value.int Go.IntKind.u64 21)) 86, 52), (.binOp .and 52 (.tmp 23) (.const (Go.Value.int Go.IntKind.u32 127)) 52, 52), (.binOp .or 52 (.tmp 25) (.const (Go.Value.int Go.IntKind.u32 128)) 52, 52), (.convert 52 5 (.tmp 27), 5), (.binOp .shr 52 (.tmp 2) (.const (Go.Value.int Go.IntKind.u64 28)) 86, 52), (.convert 52 5 (.tmp 31), 5), (.buildSlice 22 5 #[(0, .tmp 5), (1, .tmp 13), (2, .tmp 21), (3, .tmp 29), (4, .tmp 33)], 22), (.call ⟨.builtin .append, #[.tmp 0, .tmp 35], #[22, 22]⟩, 22)]) (b := [(4, 37), (33, 37), (32, 35), (31, 33), (30, 31), (29, 2), (28, 29), (27, 27), (26, 25), (25, 23), (24, 2), (23, 21), (22, 19), (21, 17), (20, 15), (19, 2), (18, 13), (17, 11), (16, 9), (15, 7), (14, 2), (13, 5), (12, 3), (11, 1), (10, 2), (9, 0)]) (by kernel_rfl) ?_
    refine OpK.and rfl rfl ?_
    refine OpK.or rfl rfl ?_
    refine OpK.convInt (k' := .u8) (by kernel_rfl) (by kernel_rfl) rfl ?_
    refine OpK.shr rfl rfl (by decide) ?_
    refine OpK.and rfl rfl ?_
    refine OpK.or rfl rfl ?_
    refine OpK.convInt (k' := .u8) (by kernel_rfl) (by kernel_rfl) rfl ?_
    refine OpK.shr rfl rfl (by decide) ?_
    refine OpK.and rfl rfl ?_
    refine OpK.or rfl rfl ?_
    refine OpK.convInt (k' := .u8) (by kernel_rfl) (by kernel_rfl) rfl ?_
    refine OpK.shr rfl rfl (by decide) ?_
    refine OpK.and rfl rfl ?_
    refine OpK.or rfl rfl ?_
    refine OpK.convInt (k' := .u8) (by kernel_rfl) (by kernel_rfl) rfl ?_
    refine OpK.shr rfl rfl (by decide) ?_
    refine OpK.convInt (k' := .u8) (by kernel_rfl) (by kernel_rfl) rfl ?_
    refine OpK.buildS (by simp only [List.map_toArray, List.map_cons, List.map_nil]; exact run_bs5 (by kernel_rfl) u8 _ _ _ _ _) ?_
    refine OpK.run rfl hr ?_
    refine CWL.ret ?_
    exact ⟨_, rfl, hg⟩

theorem ok32 (full : Bool) : ApOk Tryz.prog 5 full 32 .uv := by
  intro w n d bs hn hd hl
  exact c32 w n _ rfl hn d bs hd hl

theorem call35 : Callable Tryz.prog 35 := ⟨Tryz.f35, Tryz.func35, by kernel_rfl, by kernel_rfl⟩
set_option maxHeartbeats 4000000 in
theorem ok35 (full : Bool) : ApOk Tryz.prog 5 full 35 (.len false) := by
  intro w n d bs hd hl
  refine Calls.of_CW Tryz.func35 rfl (by decide +kernel) (Nat.le_of_ble_eq_true (by kernel_rfl)) (CW.of_flat ?_)
  simp only [flat, List.cons_append, List.nil_append, List.append_nil]
  refine CWL.reg (ops := [(.assign (.const (Go.Value.slice none 0 0)), 22)]) (b := [(4, 1)]) (by kernel_rfl) ?_
  refine OpK.assign ?_
  refine CWL.reg (ops := [(.convert 3 21 (.tmp 2), 21), (.call ⟨.value (.func 29), #[.tmp 0, .tmp 1], #[22, 21]⟩, 22)]) (b := [(4, 3), (8, 3), (7, 1), (6, 2), (5, 0)]) (by kernel_rfl) ?_
  refine OpK.convInt (k' := .i32) (by kernel_rfl) (by kernel_rfl) rfl ?_
  refine OpK.asCall rfl call29 rfl ((c29 w (IntKind.i32.wrap (n : Int)) d bs hd hl).mono ?_)
  rintro en w1 ⟨d1, he1, hg1⟩
  refine ⟨d1, he1, ?_⟩
  rw [be4_i32] at hg1
  refine CWL.ret ?_
  exact ⟨_, rfl, hg1⟩

theorem call34 : Callable Tryz.prog 34 := ⟨Tryz.f34, Tryz.func34, by kernel_rfl, by kernel_rfl⟩
set_option maxHeartbeats 4000000 in
theorem ok34 (full : Bool) : ApOk Tryz.prog 5 full 34 (.len true) := by
  intro w n d bs hd hl
  refine Calls.of_CW Tryz.func34 rfl (by decide +kernel) (Nat.le_of_ble_eq_true (by kernel_rfl)) (CW.of_flat ?_)
  simp only [flat, List.cons_append, List.nil_append, List.append_nil]
  refine CWL.reg (ops := [(.assign (.const (Go.Value.slice none 0 0)), 22)]) (b := [(4, 1)]) (by kernel_rfl) ?_
  refine OpK.assign ?_
  refine CWL.reg (ops := [(.convert 3 52 (.tmp 2), 52), (.binOp .add 52 (.const (Go.Value.int Go.IntKind.u32 1)) (.tmp 1) 52, 52), (.call ⟨.value (.func 32), #[.tmp 0, .tmp 3], #[22, 52]⟩, 22)]) (b := [(4, 5), (9, 5), (8, 3), (7, 1), (6, 2), (5, 0)]) (by kernel_rfl) ?_
  refine OpK.convInt (k' := .u32) (by kernel_rfl) (by kernel_rfl) rfl ?_
  refine OpK.arith rfl rfl rfl ?_
  refine OpK.asCall rfl call32 rfl ((c32 w (word (n + 1)) _ (word_succ _) (word_lt _) d bs hd hl).mono ?_)
  rintro en w1 ⟨d1, he1, hg1⟩
  refine ⟨d1, he1, ?_⟩
  refine CWL.ret ?_
  exact ⟨_, rfl, hg1⟩

theorem call38 : Callable Tryz.prog 38 := ⟨Tryz.f38, Tryz.func38, by kernel_rfl, by kernel_rfl⟩
set_option maxHeartbeats 4000000 in
theorem ok38 (full : Bool) : ApOk Tryz.prog 5 full 38 (.nlen false) := by
  intro w n b d bs hd hl
  cases b
  · skip
    refine Calls.of_CW Tryz.func38 rfl (by decide +kernel) (Nat.le_of_ble_eq_true (by kernel_rfl)) (CW.of_flat ?_)
    simp only [flat, List.cons_append, List.nil_append, List.append_nil]
    refine CWL.reg (ops := [(.assign (.const (Go.Value.slice none 0 0)), 22)]) (b := [(6, 1)]) (by kernel_rfl) ?_
    refine OpK.assign ?_
    refine CWL.reg (ops := []) (b := [(7, 4)]) (by kernel_rfl) ?_
    refine CWL.condF rfl ?_
    simp only [flat, List.cons_append, List.nil_append, List.append_nil]
    refine CWL.reg (ops := [(.convert 3 21 (.tmp 2), 21), (.call ⟨.value (.func 29), #[.tmp 0, .tmp 1], #[22, 21]⟩, 22)]) (b := [(6, 3), (13, 3), (12, 1), (11, 2), (10, 0)]) (by kernel_rfl) ?_
    refine OpK.convInt (k' := .i32) (by kernel_rfl) (by kernel_rfl) rfl ?_
    refine OpK.asCall rfl call29 rfl ((c29 w (IntKind.i32.wrap (n : Int)) d bs hd hl).mono ?_)
    rintro en w1 ⟨d1, he1, hg1⟩
    refine ⟨d1, he1, ?_⟩
    rw [be4_i32] at hg1
    refine CWL.ret ?_
    exact ⟨_, rfl, hg1⟩
  · skip
    refine Calls.of_CW Tryz.func38 rfl (by decide +kernel) (Nat.le_of_ble_eq_true (by kernel_rfl)) (CW.of_flat ?_)
    simp only [flat, List.cons_append, List.nil_append, List.append_nil]
    refine CWL.reg (ops := [(.assign (.const (Go.Value.slice none 0 0)), 22)]) (b := [(6, 1)]) (by kernel_rfl) ?_
    refine OpK.assign ?_
    refine CWL.reg (ops := []) (b := [(7, 4)]) (by kernel_rfl) ?_
    refine CWL.condT rfl ?_
    simp only [flat, List.cons_append, List.nil_append, List.append_nil]
    refine CWL.reg (ops := [(.call ⟨.value (.func 29), #[.tmp 0, .const (Go.Value.int Go.IntKind.i32 (-1))], #[22, 21]⟩, 22)]) (b := [(6, 1), (9, 1), (8, 0)]) (by kernel_rfl) ?_
    refine OpK.asCall rfl call29 rfl ((c29 w (-1) d bs hd hl).mono ?_)
    rintro en w1 ⟨d1, he1, hg1⟩
    refine ⟨d1, he1, ?_⟩
    refine CWL.ret ?_
    exact ⟨_, rfl, hg1⟩

theorem call37 : Callable Tryz.prog 37 := ⟨Tryz.f37, Tryz.func37, by kernel_rfl, by kernel_rfl⟩
set_option maxHeartbeats 4000000 in
theorem ok37 (full : Bool) : ApOk Tryz.prog 5 full 37 (.nlen true) := by
  intro w n b d bs hd hl
  cases b
  · skip
    refine Calls.of_CW Tryz.func37 rfl (by decide +kernel) (Nat.le_of_ble_eq_true (by kernel_rfl)) (CW.of_flat ?_)
    simp only [flat, List.cons_append, List.nil_append, List.append_nil]
    refine CWL.reg (ops := [(.assign (.const (Go.Value.slice none 0 0)), 22)]) (b := [(6, 1)]) (by kernel_rfl) ?_
    refine OpK.assign ?_
    refine CWL.reg (ops := []) (b := [(7, 4)]) (by kernel_rfl) ?_
    refine CWL.condF rfl ?_
    simp only [flat, List.cons_append, List.nil_append, List.append_nil]
    refine CWL.reg (ops := [(.convert 3 52 (.tmp 2), 52), (.binOp .add 52 (.const (Go.Value.int Go.IntKind.u32 1)) (.tmp 1) 52, 52), (.call ⟨.value (.func 32), #[.tmp 0, .tmp 3], #[22, 52]⟩, 22)]) (b := [(6, 5), (14, 5), (13, 3), (12, 1), (11, 2), (10, 0)]) (by kernel_rfl) ?_
    refine OpK.convInt (k' := .u32) (by kernel_rfl) (by kernel_rfl) rfl ?_
    refine OpK.arith rfl rfl rfl ?_
    refine OpK.asCall rfl call32 rfl ((c32 w (word (n + 1)) _ (word_succ _) (word_lt _) d bs hd hl).mono ?_)
    rintro en w1 ⟨d1, he1, hg1⟩
    refine ⟨d1, he1, ?_⟩
    refine CWL.ret ?_
    exact ⟨_, rfl, hg1⟩
  · skip
    refine Calls.of_CW Tryz.func37 rfl (by decide +kernel) (Nat.le_of_ble_eq_true (by kernel_rfl)) (CW.of_flat ?_)
    simp only [flat, List.cons_append, List.nil_append, List.append_nil]
    refine CWL.reg (ops := [(.assign (.const (Go.Value.slice none 0 0)), 22)]) (b := [(6, 1)]) (by kernel_rfl) ?_
    refine OpK.assign ?_
    refine CWL.reg (ops := []) (b := [(7, 4)]) (by kernel_rfl) ?_
    refine CWL.condT rfl ?_
    simp only [flat, List.cons_append, List.nil_append, List.append_nil]
    refine CWL.reg (ops := [(.call ⟨.value (.func 32), #[.tmp 0, .const (Go.Value.int Go.IntKind.u32 0)], #[22, 52]⟩, 22)]) (b := [(6, 1), (9, 1), (8, 0)]) (by kernel_rfl) ?_
    refine OpK.asCall rfl call32 rfl ((c32 w 0 _ rfl (by decide) d bs hd hl).mono ?_)
    rintro en w1 ⟨d1, he1, hg1⟩
    refine ⟨d1, he1, ?_⟩
    refine CWL.ret ?_
    exact ⟨_, rfl, hg1⟩

theorem call33 : Callable Tryz.prog 33 := ⟨Tryz.f33, Tryz.func33, by kernel_rfl, by kernel_rfl⟩
theorem undm : Tryz.prog.underlying 57 = some (.map 52 22) := by kernel_rfl
set_option maxHeartbeats 4000000 in
theorem ok33 (full : Bool) : ApOk Tryz.prog 5 full 33 .tlen := by
  intro w S g o v hf0 hi
  obtain ⟨cs, hr, ha⟩ := hi
  cases v <;> simp only [Rep] at hr
  rename_i l
  have key : Calls Tryz.prog 33 #[.pointer (some ⟨g, o, none⟩)] w fun en w' => ∃ r, en = .returned r ∧ r = .int .i64 ((V.tags l).tagsOf.length : Int) ∧ w' = w := by
    rcases hr with ⟨rfl, rfl⟩ | ⟨r, es, clk, rfl, hS, hm, hnd, h2⟩
    · skip
      refine Calls.of_CW Tryz.func33 rfl (by decide +kernel) (Nat.le_of_ble_eq_true (by kernel_rfl)) (CW.of_flat ?_)
      simp only [flat, List.cons_append, List.nil_append, List.append_nil]
      refine CWL.reg (ops := [(.assign (.const (Go.Value.int Go.IntKind.i64 0)), 3)]) (b := [(2, 1)]) (by kernel_rfl) ?_
      refine OpK.assign ?_
      refine CWL.reg (ops := [(.nilCheck (.tmp 0), 0), (.fieldAddr 59 (.tmp 1) 0, 0), (.load 57 (.tmp 3), 57), (.call ⟨.builtin .len, #[.tmp 5], #[57]⟩, 3)]) (b := [(2, 7), (7, 7), (6, 5), (5, 3), (4, 1), (3, 0)]) (by kernel_rfl) ?_
      refine OpK.nilCheck rfl ?_
      refine OpK.fieldAddr (off := 0) (by kernel_rfl) rfl ?_
      refine OpK.load (by kernel_rfl) rfl (ha 0 _ rfl) ?_
      refine OpK.lenMap0 undm rfl ?_
      refine CWL.ret ?_
      exact ⟨_, rfl, rfl, rfl⟩
    · skip
      refine Calls.of_CW Tryz.func33 rfl (by decide +kernel) (Nat.le_of_ble_eq_true (by kernel_rfl)) (CW.of_flat ?_)
      simp only [flat, List.cons_append, List.nil_append, List.append_nil]
      refine CWL.reg (ops := [(.assign (.const (Go.Value.int Go.IntKind.i64 0)), 3)]) (b := [(2, 1)]) (by kernel_rfl) ?_
      refine OpK.assign ?_
      refine CWL.reg (ops := [(.nilCheck (.tmp 0), 0), (.fieldAddr 59 (.tmp 1) 0, 0), (.load 57 (.tmp 3), 57), (.call ⟨.builtin .len, #[.tmp 5], #[57]⟩, 3)]) (b := [(2, 7), (7, 7), (6, 5), (5, 3), (4, 1), (3, 0)]) (by kernel_rfl) ?_
      refine OpK.nilCheck rfl ?_
      refine OpK.fieldAddr (off := 0) (by kernel_rfl) rfl ?_
      refine OpK.load (by kernel_rfl) rfl (ha 0 _ rfl) ?_
      refine OpK.lenMap undm rfl hm ?_
      refine CWL.ret ?_
      exact ⟨_, rfl, congrArg (fun n : Nat => Value.int .i64 (n : Int)) (show es.size = l.length by rw [← h2.len]; simp), rfl⟩
  exact key.mono fun en w' ⟨r, h1, h2, h3⟩ => ⟨by rw [h1, h2], h3⟩

theorem call60 : Callable Tryz.prog 60 := ⟨Tryz.f60, Tryz.func60, by kernel_rfl, by kernel_rfl⟩
set_option maxHeartbeats 4000000 in
theorem each0 (w : World) (g o : Nat) (m fv : Value) (hc : w.cell? ⟨g, o + 0, none⟩ = some m) (hm : m = .map none ∨ ∃ r clk, m = .map (some r) ∧ w.heap[r]? = some (.map #[] clk)) : Calls Tryz.prog 60 #[.pointer (some ⟨g, o, none⟩), fv] w fun en w' => ∃ r, en = .returned r ∧ w' = w := by
  rcases hm with rfl | ⟨r, clk, rfl, hm⟩
  · skip
    refine Calls.of_CW Tryz.func60 rfl (by decide +kernel) (Nat.le_of_ble_eq_true (by kernel_rfl)) (CW.of_flat ?_)
    simp only [flat, List.cons_append, List.nil_append, List.append_nil]
    refine CWL.reg (ops := [(.nilCheck (.tmp 0), 0), (.fieldAddr 59 (.tmp 1) 0, 0), (.load 57 (.tmp 3), 57), (.call ⟨.builtin .len, #[.tmp 5], #[57]⟩, 3), (.binOp .eql 3 (.tmp 7) (.const (Go.Value.int Go.IntKind.i64 0)) 3, 4)]) (b := [(13, 9), (12, 7), (11, 5), (10, 3), (9, 1), (8, 0)]) (by kernel_rfl) ?_
    refine OpK.nilCheck rfl ?_
    refine OpK.fieldAddr (off := 0) (by kernel_rfl) rfl ?_
    refine OpK.load (by kernel_rfl) rfl hc ?_
    refine OpK.lenMap0 undm rfl ?_
    refine OpK.cmp rfl rfl rfl ?_
    refine CWL.condT rfl ?_
    simp only [flat, List.cons_append, List.nil_append, List.append_nil]
    refine CWL.ret ?_
    exact ⟨_, rfl, rfl⟩
  · skip
    refine Calls.of_CW Tryz.func60 rfl (by decide +kernel) (Nat.le_of_ble_eq_true (by kernel_rfl)) (CW.of_flat ?_)
    simp only [flat, List.cons_append, List.nil_append, List.append_nil]
    refine CWL.reg (ops := [(.nilCheck (.tmp 0), 0), (.fieldAddr 59 (.tmp 1) 0, 0), (.load 57 (.tmp 3), 57), (.call ⟨.builtin .len, #[.tmp 5], #[57]⟩, 3), (.binOp .eql 3 (.tmp 7) (.const (Go.Value.int Go.IntKind.i64 0)) 3, 4)]) (b := [(13, 9), (12, 7), (11, 5), (10, 3), (9, 1), (8, 0)]) (by kernel_rfl) ?_
    refine OpK.nilCheck rfl ?_
    refine OpK.fieldAddr (off := 0) (by kernel_rfl) rfl ?_
    refine OpK.load (by kernel_rfl) rfl hc ?_
    refine OpK.lenMap undm rfl hm ?_
    refine OpK.cmp rfl rfl rfl ?_
    refine CWL.condT rfl ?_
    simp only [flat, List.cons_append, List.nil_append, List.append_nil]
    refine CWL.ret ?_
    exact ⟨_, rfl, rfl⟩
theorem call39 : Callable Tryz.prog 39 := ⟨Tryz.f39, Tryz.func39, by kernel_rfl, by kernel_rfl⟩

set_option maxHeartbeats 4000000 in
theorem ok390 : ApOk Tryz.prog 5 false 39 .teach := by
  intro w S g o v d bs hf hi hS hd hcl hl
  obtain ⟨cs, hr, ha⟩ := hi
  cases v <;> simp only [Rep] at hr
  rename_i l
  have hl0 : l = [] := by rcases hf with h | h; cases h; exact h
  subst hl0
  have hm : ∃ m, cs = [m] ∧ (m = .map none ∨ ∃ r clk, m = .map (some r) ∧ w.heap[r]? = some (.map #[] clk) ∧ r < w.heap.size) := by
    rcases hr with ⟨rfl, _⟩ | ⟨r, es, clk, rfl, hSr, hm, _, h2⟩
    · exact ⟨_, rfl, .inl rfl⟩
    · refine ⟨_, rfl, .inr ⟨r, clk, rfl, ?_, (hcl r hSr).1⟩⟩
      have : es = #[] := by apply Array.ext'; have := h2.len; simpa using this
      rw [hm, this]
  obtain ⟨m, rfl, hm⟩ := hm
  have hc0 := ha 0 m rfl
  obtain ⟨ad, cp, rfl⟩ : ∃ ad cp, d = .slice ad bs.length cp := by obtain ⟨a, c, h, _⟩ := hd.len; exact ⟨a, c, h⟩
  refine Calls.of_CW Tryz.func39 rfl (by decide +kernel) (Nat.le_of_ble_eq_true (by kernel_rfl)) (CW.of_flat ?_)
  simp only [flat, List.cons_append, List.nil_append, List.append_nil]
  refine CWL.reg (ops := [(.box 22 (.tmp 2), 0), (.assign (.const (Go.Value.slice none 0 0)), 22)]) (b := [(4, 3), (3, 1)]) (by kernel_rfl) ?_
  refine OpK.box ?_
  refine OpK.assign ?_
  refine CWL.reg (ops := [(.makeFunc (.func 61) #[] #[.tmp 6], 93), (.call ⟨.value (.func 60), #[.tmp 0, .tmp 1], #[99, 93]⟩, 0)]) (b := [(7, 3), (6, 1), (5, 0)]) (by kernel_rfl) ?_
  refine OpK.makeFunc ?_
  refine OpK.asCall rfl call60 rfl ((each0 _ g o m _ ((cell_old w _ (hcl g hS).1).trans hc0) (by rcases hm with rfl | ⟨r, clk, rfl, h1, h2⟩; exact .inl rfl; exact .inr ⟨r, clk, rfl, (alloc_old w _ r h2).trans h1⟩)).mono ?_)
  rintro en w1 ⟨r1, he1, rfl⟩
  refine ⟨_, he1, ?_⟩
  refine CWL.reg (ops := [(.load 22 (.tmp 6), 22)]) (b := [(4, 1), (8, 1)]) (by kernel_rfl) ?_
  refine OpK.load (by kernel_rfl) rfl (cell_new w _ _) ?_
  refine CWL.ret ?_
  exact ⟨_, rfl, by rw [show encEach (V.tags []).tagsOf = [] from rfl, List.append_nil]; exact (Grew.refl hd).alloc _⟩

def tab : List (Nat × Ap) := [(31, .val false .bool), (29, .val false .i32), (30, .val false .i64), (36, .val false .uuid), (35, .len false), (34, .len true), (38, .nlen false), (37, .nlen true), (32, .uv), (33, .tlen), (39, .teach)]
end Go.Proofs.YtkgelojkhmjhkaaGreatDoor.Snd
