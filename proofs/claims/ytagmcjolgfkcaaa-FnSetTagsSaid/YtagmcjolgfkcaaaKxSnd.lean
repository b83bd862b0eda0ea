/- What the functions of the package that write a value, or a count, do: each writes the octets that the plain functions say, behind the slice that it is given. -/
import Derived.Test.YtagmcjolgfkcaaaKxDraw
import Derived.Test.YtagmcjolgfkcaaaKxAgain2
import Derived.Test.YtagmcjolgfkcaaaProg
namespace Go.Proofs.Ytagmcjolgfkcaaa.Snd
open Go.Kx Go.RowKit Go.Proofs
set_option maxRecDepth 100000
set_option linter.unusedSimpArgs false
set_option linter.unusedVariables false

theorem u8 : U8 Try.prog 5 := by unfold U8; kernel_rfl
theorem und : Try.prog.underlying 27 = some (.slice 5) := by kernel_rfl
theorem unds : Try.prog.underlying 9 = some .string := by kernel_rfl

theorem tab8 (j : Nat) (h : j < 256) : (match (.const (Go.Value.string {data := List.toArray (List.append (List.append [0, 1, 2, 2, 3, 3, 3, 3, 4, 4, 4, 4, 4, 4, 4, 4, 5, 5, 5, 5, 5, 5, 5, 5, 5, 5, 5, 5, 5, 5, 5, 5, 6, 6, 6, 6, 6, 6, 6, 6, 6, 6, 6, 6, 6, 6, 6, 6, 6, 6, 6, 6, 6, 6, 6, 6, 6, 6, 6, 6, 6, 6, 6, 6] [7, 7, 7, 7, 7, 7, 7, 7, 7, 7, 7, 7, 7, 7, 7, 7, 7, 7, 7, 7, 7, 7, 7, 7, 7, 7, 7, 7, 7, 7, 7, 7, 7, 7, 7, 7, 7, 7, 7, 7, 7, 7, 7, 7, 7, 7, 7, 7, 7, 7, 7, 7, 7, 7, 7, 7, 7, 7, 7, 7, 7, 7, 7, 7]) (List.append [8, 8, 8, 8, 8, 8, 8, 8, 8, 8, 8, 8, 8, 8, 8, 8, 8, 8, 8, 8, 8, 8, 8, 8, 8, 8, 8, 8, 8, 8, 8, 8, 8, 8, 8, 8, 8, 8, 8, 8, 8, 8, 8, 8, 8, 8, 8, 8, 8, 8, 8, 8, 8, 8, 8, 8, 8, 8, 8, 8, 8, 8, 8, 8] [8, 8, 8, 8, 8, 8, 8, 8, 8, 8, 8, 8, 8, 8, 8, 8, 8, 8, 8, 8, 8, 8, 8, 8, 8, 8, 8, 8, 8, 8, 8, 8, 8, 8, 8, 8, 8, 8, 8, 8, 8, 8, 8, 8, 8, 8, 8, 8, 8, 8, 8, 8, 8, 8, 8, 8, 8, 8, 8, 8, 8, 8, 8, 8]))}) : Operand) with | .const (.string s) => s[j]? | _ => none) = some (UInt8.ofNat (bl8 j)) := by
  have k : ∀ j : Fin 256, (match (.const (Go.Value.string {data := List.toArray (List.append (List.append [0, 1, 2, 2, 3, 3, 3, 3, 4, 4, 4, 4, 4, 4, 4, 4, 5, 5, 5, 5, 5, 5, 5, 5, 5, 5, 5, 5, 5, 5, 5, 5, 6, 6, 6, 6, 6, 6, 6, 6, 6, 6, 6, 6, 6, 6, 6, 6, 6, 6, 6, 6, 6, 6, 6, 6, 6, 6, 6, 6, 6, 6, 6, 6] [7, 7, 7, 7, 7, 7, 7, 7, 7, 7, 7, 7, 7, 7, 7, 7, 7, 7, 7, 7, 7, 7, 7, 7, 7, 7, 7, 7, 7, 7, 7, 7, 7, 7, 7, 7, 7, 7, 7, 7, 7, 7, 7, 7, 7, 7, 7, 7, 7, 7, 7, 7, 7, 7, 7, 7, 7, 7, 7, 7, 7, 7, 7, 7]) (List.append [8, 8, 8, 8, 8, 8, 8, 8, 8, 8, 8, 8, 8, 8, 8, 8, 8, 8, 8, 8, 8, 8, 8, 8, 8, 8, 8, 8, 8, 8, 8, 8, 8, 8, 8, 8, 8, 8, 8, 8, 8, 8, 8, 8, 8, 8, 8, 8, 8, 8, 8, 8, 8, 8, 8, 8, 8, 8, 8, 8, 8, 8, 8, 8] [8, 8, 8, 8, 8, 8, 8, 8, 8, 8, 8, 8, 8, 8, 8, 8, 8, 8, 8, 8, 8, 8, 8, 8, 8, 8, 8, 8, 8, 8, 8, 8, 8, 8, 8, 8, 8, 8, 8, 8, 8, 8, 8, 8, 8, 8, 8, 8, 8, 8, 8, 8, 8, 8, 8, 8, 8, 8, 8, 8, 8, 8, 8, 8]))}) : Operand) with | .const (.string s) => s[j.1]? | _ => none) = some (UInt8.ofNat (bl8 j.1)) := by decide +kernel
  exact k ⟨j, h⟩

theorem call30 : Callable Try.prog 30 := ⟨Try.f30, Try.func30, by kernel_rfl, by kernel_rfl⟩
set_option maxHeartbeats 4000000 in
theorem c30 (w : World) (n : Nat) (hn : n < 4294967296) : Calls Try.prog 30 #[.int .u32 n] w fun en w' => ∃ r, en = .returned r ∧ r = .int .i64 (bl32 n : Int) ∧ w' = w := by
  by_cases h1 : 65536 ≤ n
  · by_cases h2 : 256 ≤ n / 65536
    · skip
      have hb : bl32 n = 24 + bl8 (n / 65536 / 256) := by unfold bl32; rw [if_pos h1, if_pos h2]
      refine Calls.of_CW Try.func30 rfl (by decide +kernel) (Nat.le_of_ble_eq_true (by kernel_rfl)) (CW.of_flat ?_)
      simp only [flat, List.cons_append, List.nil_append, List.append_nil]
      refine CWL.reg (ops := [(.assign (.const (Go.Value.int Go.IntKind.i64 0)), 3)]) (b := [(2, 1)]) (by kernel_rfl) ?_
      refine OpK.assign ?_
      refine CWL.reg (ops := [(.binOp .geq 33 (.tmp 0) (.const (Go.Value.int Go.IntKind.u32 65536)) 33, 4)]) (b := [(4, 1), (3, 0)]) (by kernel_rfl) ?_
      refine OpK.cmp rfl rfl rfl ?_
      refine CWL.condT (congrArg Value.bool (decide_eq_true (by omega))) ?_
      simp only [flat, List.cons_append, List.nil_append, List.append_nil]
      refine CWL.reg (ops := [(.binOp .shr 33 (.tmp 0) (.const (Go.Value.int Go.IntKind.u64 16)) 51, 33)]) (b := [(0, 1), (6, 1), (5, 0)]) (by kernel_rfl) ?_
      refine OpK.shr rfl rfl (by decide) ?_
      refine CWL.reg (ops := [(.assign (.const (Go.Value.int Go.IntKind.i64 16)), 3)]) (b := [(2, 1)]) (by kernel_rfl) ?_
      refine OpK.assign ?_
      refine CWL.reg (ops := [(.binOp .geq 33 (.tmp 0) (.const (Go.Value.int Go.IntKind.u32 256)) 33, 4)]) (b := [(8, 1), (7, 0)]) (by kernel_rfl) ?_
      refine OpK.cmp rfl rfl rfl ?_
      refine CWL.condT (congrArg Value.bool (decide_eq_true (by rw [show (2 : Int) ^ min ((16 : Int).toNat) IntKind.u32.bits = 65536 from rfl]; omega))) ?_
      simp only [flat, List.cons_append, List.nil_append, List.append_nil]
      refine CWL.reg (ops := [(.binOp .shr 33 (.tmp 0) (.const (Go.Value.int Go.IntKind.u64 8)) 51, 33)]) (b := [(0, 1), (10, 1), (9, 0)]) (by kernel_rfl) ?_
      refine OpK.shr rfl rfl (by decide) ?_
      refine CWL.reg (ops := [(.binOp .add 3 (.tmp 4) (.const (Go.Value.int Go.IntKind.i64 8)) 3, 3)]) (b := [(2, 1), (12, 1), (11, 4)]) (by kernel_rfl) ?_
      refine OpK.arith rfl rfl rfl ?_
      refine CWL.reg (ops := [(.convert 33 5 (.tmp 0), 5), (.index 9 (.const (Go.Value.string {data := List.toArray (List.append (List.append [0, 1, 2, 2, 3, 3, 3, 3, 4, 4, 4, 4, 4, 4, 4, 4, 5, 5, 5, 5, 5, 5, 5, 5, 5, 5, 5, 5, 5, 5, 5, 5, 6, 6, 6, 6, 6, 6, 6, 6, 6, 6, 6, 6, 6, 6, 6, 6, 6, 6, 6, 6, 6, 6, 6, 6, 6, 6, 6, 6, 6, 6, 6, 6] [7, 7, 7, 7, 7, 7, 7, 7, 7, 7, 7, 7, 7, 7, 7, 7, 7, 7, 7, 7, 7, 7, 7, 7, 7, 7, 7, 7, 7, 7, 7, 7, 7, 7, 7, 7, 7, 7, 7, 7, 7, 7, 7, 7, 7, 7, 7, 7, 7, 7, 7, 7, 7, 7, 7, 7, 7, 7, 7, 7, 7, 7, 7, 7]) (List.append [8, 8, 8, 8, 8, 8, 8, 8, 8, 8, 8, 8, 8, 8, 8, 8, 8, 8, 8, 8, 8, 8, 8, 8, 8, 8, 8, 8, 8, 8, 8, 8, 8, 8, 8, 8, 8, 8, 8, 8, 8, 8, 8, 8, 8, 8, 8, 8, 8, 8, 8, 8, 8, 8, 8, 8, 8, 8, 8, 8, 8, 8, 8, 8] [8, 8, 8, 8, 8, 8, 8, 8, 8, 8, 8, 8, 8, 8, 8, 8, 8, 8, 8, 8, 8, 8, 8, 8, 8, 8, 8, 8, 8, 8, 8, 8, 8, 8, 8, 8, 8, 8, 8, 8, 8, 8, 8, 8, 8, 8, 8, 8, 8, 8, 8, 8, 8, 8, 8, 8, 8, 8, 8, 8, 8, 8, 8, 8]))})) (.tmp 1), 5), (.convert 5 3 (.tmp 3), 3), (.binOp .add 3 (.tmp 4) (.tmp 5) 3, 3)]) (b := [(2, 7), (18, 7), (17, 5), (16, 3), (15, 1), (14, 0), (13, 4)]) (by kernel_rfl) ?_
      refine OpK.convInt (k' := .u8) (by kernel_rfl) (by kernel_rfl) rfl ?_
      refine OpK.indexStr (by kernel_rfl) rfl (congrArg (Value.int .u8) (show _ = ((n / 65536 / 256 : Nat) : Int) by rw [show (2 : Int) ^ min ((16 : Int).toNat) IntKind.u32.bits = 65536 from rfl, show (2 : Int) ^ min ((8 : Int).toNat) IntKind.u32.bits = 256 from rfl]; rw [IntKind.wrap_u8]; omega)) (tab8 (n / 65536 / 256) (by omega)) ?_
      refine OpK.convInt (k' := .i64) (by kernel_rfl) (by kernel_rfl) rfl ?_
      refine OpK.arith rfl rfl rfl ?_
      refine CWL.ret ?_
      refine ⟨_, rfl, ?_, rfl⟩
      rw [hb]
      exact len_fin 24 (n / 65536 / 256) (by decide)
    · skip
      have hb : bl32 n = 16 + bl8 (n / 65536) := by unfold bl32; rw [if_pos h1, if_neg h2]
      refine Calls.of_CW Try.func30 rfl (by decide +kernel) (Nat.le_of_ble_eq_true (by kernel_rfl)) (CW.of_flat ?_)
      simp only [flat, List.cons_append, List.nil_append, List.append_nil]
      refine CWL.reg (ops := [(.assign (.const (Go.Value.int Go.IntKind.i64 0)), 3)]) (b := [(2, 1)]) (by kernel_rfl) ?_
      refine OpK.assign ?_
      refine CWL.reg (ops := [(.binOp .geq 33 (.tmp 0) (.const (Go.Value.int Go.IntKind.u32 65536)) 33, 4)]) (b := [(4, 1), (3, 0)]) (by kernel_rfl) ?_
      refine OpK.cmp rfl rfl rfl ?_
      refine CWL.condT (congrArg Value.bool (decide_eq_true (by omega))) ?_
      simp only [flat, List.cons_append, List.nil_append, List.append_nil]
      refine CWL.reg (ops := [(.binOp .shr 33 (.tmp 0) (.const (Go.Value.int Go.IntKind.u64 16)) 51, 33)]) (b := [(0, 1), (6, 1), (5, 0)]) (by kernel_rfl) ?_
      refine OpK.shr rfl rfl (by decide) ?_
      refine CWL.reg (ops := [(.assign (.const (Go.Value.int Go.IntKind.i64 16)), 3)]) (b := [(2, 1)]) (by kernel_rfl) ?_
      refine OpK.assign ?_
      refine CWL.reg (ops := [(.binOp .geq 33 (.tmp 0) (.const (Go.Value.int Go.IntKind.u32 256)) 33, 4)]) (b := [(8, 1), (7, 0)]) (by kernel_rfl) ?_
      refine OpK.cmp rfl rfl rfl ?_
      refine CWL.condF (congrArg Value.bool (decide_eq_false (by rw [show (2 : Int) ^ min ((16 : Int).toNat) IntKind.u32.bits = 65536 from rfl]; omega))) ?_
      simp only [flat, List.cons_append, List.nil_append, List.append_nil]
      refine CWL.reg (ops := [(.convert 33 5 (.tmp 0), 5), (.index 9 (.const (Go.Value.string {data := List.toArray (List.append (List.append [0, 1, 2, 2, 3, 3, 3, 3, 4, 4, 4, 4, 4, 4, 4, 4, 5, 5, 5, 5, 5, 5, 5, 5, 5, 5, 5, 5, 5, 5, 5, 5, 6, 6, 6, 6, 6, 6, 6, 6, 6, 6, 6, 6, 6, 6, 6, 6, 6, 6, 6, 6, 6, 6, 6, 6, 6, 6, 6, 6, 6, 6, 6, 6] [7, 7, 7, 7, 7, 7, 7, 7, 7, 7, 7, 7, 7, 7, 7, 7, 7, 7, 7, 7, 7, 7, 7, 7, 7, 7, 7, 7, 7, 7, 7, 7, 7, 7, 7, 7, 7, 7, 7, 7, 7, 7, 7, 7, 7, 7, 7, 7, 7, 7, 7, 7, 7, 7, 7, 7, 7, 7, 7, 7, 7, 7, 7, 7]) (List.append [8, 8, 8, 8, 8, 8, 8, 8, 8, 8, 8, 8, 8, 8, 8, 8, 8, 8, 8, 8, 8, 8, 8, 8, 8, 8, 8, 8, 8, 8, 8, 8, 8, 8, 8, 8, 8, 8, 8, 8, 8, 8, 8, 8, 8, 8, 8, 8, 8, 8, 8, 8, 8, 8, 8, 8, 8, 8, 8, 8, 8, 8, 8, 8] [8, 8, 8, 8, 8, 8, 8, 8, 8, 8, 8, 8, 8, 8, 8, 8, 8, 8, 8, 8, 8, 8, 8, 8, 8, 8, 8, 8, 8, 8, 8, 8, 8, 8, 8, 8, 8, 8, 8, 8, 8, 8, 8, 8, 8, 8, 8, 8, 8, 8, 8, 8, 8, 8, 8, 8, 8, 8, 8, 8, 8, 8, 8, 8]))})) (.tmp 1), 5), (.convert 5 3 (.tmp 3), 3), (.binOp .add 3 (.tmp 4) (.tmp 5) 3, 3)]) (b := [(2, 7), (18, 7), (17, 5), (16, 3), (15, 1), (14, 0), (13, 4)]) (by kernel_rfl) ?_
      refine OpK.convInt (k' := .u8) (by kernel_rfl) (by kernel_rfl) rfl ?_
      refine OpK.indexStr (by kernel_rfl) rfl (congrArg (Value.int .u8) (show _ = ((n / 65536 : Nat) : Int) by rw [show (2 : Int) ^ min ((16 : Int).toNat) IntKind.u32.bits = 65536 from rfl]; rw [IntKind.wrap_u8]; omega)) (tab8 (n / 65536) (by omega)) ?_
      refine OpK.convInt (k' := .i64) (by kernel_rfl) (by kernel_rfl) rfl ?_
      refine OpK.arith rfl rfl rfl ?_
      refine CWL.ret ?_
      refine ⟨_, rfl, ?_, rfl⟩
      rw [hb]
      exact len_fin 16 (n / 65536) (by decide)
  · by_cases h2 : 256 ≤ n
    · skip
      have hb : bl32 n = 8 + bl8 (n / 256) := by unfold bl32; rw [if_neg h1, if_pos h2]
      refine Calls.of_CW Try.func30 rfl (by decide +kernel) (Nat.le_of_ble_eq_true (by kernel_rfl)) (CW.of_flat ?_)
      simp only [flat, List.cons_append, List.nil_append, List.append_nil]
      refine CWL.reg (ops := [(.assign (.const (Go.Value.int Go.IntKind.i64 0)), 3)]) (b := [(2, 1)]) (by kernel_rfl) ?_
      refine OpK.assign ?_
      refine CWL.reg (ops := [(.binOp .geq 33 (.tmp 0) (.const (Go.Value.int Go.IntKind.u32 65536)) 33, 4)]) (b := [(4, 1), (3, 0)]) (by kernel_rfl) ?_
      refine OpK.cmp rfl rfl rfl ?_
      refine CWL.condF (congrArg Value.bool (decide_eq_false (by omega))) ?_
      simp only [flat, List.cons_append, List.nil_append, List.append_nil]
      refine CWL.reg (ops := [(.binOp .geq 33 (.tmp 0) (.const (Go.Value.int Go.IntKind.u32 256)) 33, 4)]) (b := [(8, 1), (7, 0)]) (by kernel_rfl) ?_
      refine OpK.cmp rfl rfl rfl ?_
      refine CWL.condT (congrArg Value.bool (decide_eq_true (by omega))) ?_
      simp only [flat, List.cons_append, List.nil_append, List.append_nil]
      refine CWL.reg (ops := [(.binOp .shr 33 (.tmp 0) (.const (Go.Value.int Go.IntKind.u64 8)) 51, 33)]) (b := [(0, 1), (10, 1), (9, 0)]) (by kernel_rfl) ?_
      refine OpK.shr rfl rfl (by decide) ?_
      refine CWL.reg (ops := [(.binOp .add 3 (.tmp 4) (.const (Go.Value.int Go.IntKind.i64 8)) 3, 3)]) (b := [(2, 1), (12, 1), (11, 4)]) (by kernel_rfl) ?_
      refine OpK.arith rfl rfl rfl ?_
      refine CWL.reg (ops := [(.convert 33 5 (.tmp 0), 5), (.index 9 (.const (Go.Value.string {data := List.toArray (List.append (List.append [0, 1, 2, 2, 3, 3, 3, 3, 4, 4, 4, 4, 4, 4, 4, 4, 5, 5, 5, 5, 5, 5, 5, 5, 5, 5, 5, 5, 5, 5, 5, 5, 6, 6, 6, 6, 6, 6, 6, 6, 6, 6, 6, 6, 6, 6, 6, 6, 6, 6, 6, 6, 6, 6, 6, 6, 6, 6, 6, 6, 6, 6, 6, 6] [7, 7, 7, 7, 7, 7, 7, 7, 7, 7, 7, 7, 7, 7, 7, 7, 7, 7, 7, 7, 7, 7, 7, 7, 7, 7, 7, 7, 7, 7, 7, 7, 7, 7, 7, 7, 7, 7, 7, 7, 7, 7, 7, 7, 7, 7, 7, 7, 7, 7, 7, 7, 7, 7, 7, 7, 7, 7, 7, 7, 7, 7, 7, 7]) (List.append [8, 8, 8, 8, 8, 8, 8, 8, 8, 8, 8, 8, 8, 8, 8, 8, 8, 8, 8, 8, 8, 8, 8, 8, 8, 8, 8, 8, 8, 8, 8, 8, 8, 8, 8, 8, 8, 8, 8, 8, 8, 8, 8, 8, 8, 8, 8, 8, 8, 8, 8, 8, 8, 8, 8, 8, 8, 8, 8, 8, 8, 8, 8, 8] [8, 8, 8, 8, 8, 8, 8, 8, 8, 8, 8, 8, 8, 8, 8, 8, 8, 8, 8, 8, 8, 8, 8, 8, 8, 8, 8, 8, 8, 8, 8, 8, 8, 8, 8, 8, 8, 8, 8, 8, 8, 8, 8, 8, 8, 8, 8, 8, 8, 8, 8, 8, 8, 8, 8, 8, 8, 8, 8, 8, 8, 8, 8, 8]))})) (.tmp 1), 5), (.convert 5 3 (.tmp 3), 3), (.binOp .add 3 (.tmp 4) (.tmp 5) 3, 3)]) (b := [(2, 7), (18, 7), (17, 5), (16, 3), (15, 1), (14, 0), (13, 4)]) (by kernel_rfl) ?_
      refine OpK.convInt (k' := .u8) (by kernel_rfl) (by kernel_rfl) rfl ?_
      refine OpK.indexStr (by kernel_rfl) rfl (congrArg (Value.int .u8) (show _ = ((n / 256 : Nat) : Int) by rw [show (2 : Int) ^ min ((8 : Int).toNat) IntKind.u32.bits = 256 from rfl]; rw [IntKind.wrap_u8]; omega)) (tab8 (n / 256) (by omega)) ?_
      refine OpK.convInt (k' := .i64) (by kernel_rfl) (by kernel_rfl) rfl ?_
      refine OpK.arith rfl rfl rfl ?_
      refine CWL.ret ?_
      refine ⟨_, rfl, ?_, rfl⟩
      rw [hb]
      exact len_fin 8 (n / 256) (by decide)
    · skip
      have hb : bl32 n = 0 + bl8 (n) := by unfold bl32; rw [if_neg h1, if_neg h2]; simp
      refine Calls.of_CW Try.func30 rfl (by decide +kernel) (Nat.le_of_ble_eq_true (by kernel_rfl)) (CW.of_flat ?_)
      simp only [flat, List.cons_append, List.nil_append, List.append_nil]
      refine CWL.reg (ops := [(.assign (.const (Go.Value.int Go.IntKind.i64 0)), 3)]) (b := [(2, 1)]) (by kernel_rfl) ?_
      refine OpK.assign ?_
      refine CWL.reg (ops := [(.binOp .geq 33 (.tmp 0) (.const (Go.Value.int Go.IntKind.u32 65536)) 33, 4)]) (b := [(4, 1), (3, 0)]) (by kernel_rfl) ?_
      refine OpK.cmp rfl rfl rfl ?_
      refine CWL.condF (congrArg Value.bool (decide_eq_false (by omega))) ?_
      simp only [flat, List.cons_append, List.nil_append, List.append_nil]
      refine CWL.reg (ops := [(.binOp .geq 33 (.tmp 0) (.const (Go.Value.int Go.IntKind.u32 256)) 33, 4)]) (b := [(8, 1), (7, 0)]) (by kernel_rfl) ?_
      refine OpK.cmp rfl rfl rfl ?_
      refine CWL.condF (congrArg Value.bool (decide_eq_false (by omega))) ?_
      simp only [flat, List.cons_append, List.nil_append, List.append_nil]
      refine CWL.reg (ops := [(.convert 33 5 (.tmp 0), 5), (.index 9 (.const (Go.Value.string {data := List.toArray (List.append (List.append [0, 1, 2, 2, 3, 3, 3, 3, 4, 4, 4, 4, 4, 4, 4, 4, 5, 5, 5, 5, 5, 5, 5, 5, 5, 5, 5, 5, 5, 5, 5, 5, 6, 6, 6, 6, 6, 6, 6, 6, 6, 6, 6, 6, 6, 6, 6, 6, 6, 6, 6, 6, 6, 6, 6, 6, 6, 6, 6, 6, 6, 6, 6, 6] [7, 7, 7, 7, 7, 7, 7, 7, 7, 7, 7, 7, 7, 7, 7, 7, 7, 7, 7, 7, 7, 7, 7, 7, 7, 7, 7, 7, 7, 7, 7, 7, 7, 7, 7, 7, 7, 7, 7, 7, 7, 7, 7, 7, 7, 7, 7, 7, 7, 7, 7, 7, 7, 7, 7, 7, 7, 7, 7, 7, 7, 7, 7, 7]) (List.append [8, 8, 8, 8, 8, 8, 8, 8, 8, 8, 8, 8, 8, 8, 8, 8, 8, 8, 8, 8, 8, 8, 8, 8, 8, 8, 8, 8, 8, 8, 8, 8, 8, 8, 8, 8, 8, 8, 8, 8, 8, 8, 8, 8, 8, 8, 8, 8, 8, 8, 8, 8, 8, 8, 8, 8, 8, 8, 8, 8, 8, 8, 8, 8] [8, 8, 8, 8, 8, 8, 8, 8, 8, 8, 8, 8, 8, 8, 8, 8, 8, 8, 8, 8, 8, 8, 8, 8, 8, 8, 8, 8, 8, 8, 8, 8, 8, 8, 8, 8, 8, 8, 8, 8, 8, 8, 8, 8, 8, 8, 8, 8, 8, 8, 8, 8, 8, 8, 8, 8, 8, 8, 8, 8, 8, 8, 8, 8]))})) (.tmp 1), 5), (.convert 5 3 (.tmp 3), 3), (.binOp .add 3 (.tmp 4) (.tmp 5) 3, 3)]) (b := [(2, 7), (18, 7), (17, 5), (16, 3), (15, 1), (14, 0), (13, 4)]) (by kernel_rfl) ?_
      refine OpK.convInt (k' := .u8) (by kernel_rfl) (by kernel_rfl) rfl ?_
      refine OpK.indexStr (by kernel_rfl) rfl (congrArg (Value.int .u8) (show _ = ((n : Nat) : Int) by rw [IntKind.wrap_u8]; omega)) (tab8 (n) (by omega)) ?_
      refine OpK.convInt (k' := .i64) (by kernel_rfl) (by kernel_rfl) rfl ?_
      refine OpK.arith rfl rfl rfl ?_
      refine CWL.ret ?_
      refine ⟨_, rfl, ?_, rfl⟩
      rw [hb]
      exact len_fin 0 (n) (by decide)

theorem tabU (j : Nat) (h : j ≤ 32) : (match (.const (Go.Value.string {data := List.toArray (List.append (List.append [1, 1, 1, 1, 1, 1, 1, 1, 2, 2, 2, 2, 2, 2, 2, 3, 3, 3, 3, 3, 3, 3, 4, 4, 4, 4, 4, 4, 4, 5, 5, 5, 5, 5, 5, 5, 6, 6, 6, 6, 6, 6, 6, 7, 7, 7, 7, 7, 7, 7, 8, 8, 8, 8, 8, 8, 8, 9, 9, 9, 9, 9, 9, 9] [10, 0, 0, 0, 0, 0, 0, 0, 0, 0, 0, 0, 0, 0, 0, 0, 0, 0, 0, 0, 0, 0, 0, 0, 0, 0, 0, 0, 0, 0, 0, 0, 0, 0, 0, 0, 0, 0, 0, 0, 0, 0, 0, 0, 0, 0, 0, 0, 0, 0, 0, 0, 0, 0, 0, 0, 0, 0, 0, 0, 0, 0, 0, 0]) (List.append [0, 0, 0, 0, 0, 0, 0, 0, 0, 0, 0, 0, 0, 0, 0, 0, 0, 0, 0, 0, 0, 0, 0, 0, 0, 0, 0, 0, 0, 0, 0, 0, 0, 0, 0, 0, 0, 0, 0, 0, 0, 0, 0, 0, 0, 0, 0, 0, 0, 0, 0, 0, 0, 0, 0, 0, 0, 0, 0, 0, 0, 0, 0, 0] [0, 0, 0, 0, 0, 0, 0, 0, 0, 0, 0, 0, 0, 0, 0, 0, 0, 0, 0, 0, 0, 0, 0, 0, 0, 0, 0, 0, 0, 0, 0, 0, 0, 0, 0, 0, 0, 0, 0, 0, 0, 0, 0, 0, 0, 0, 0, 0, 0, 0, 0, 0, 0, 0, 0, 0, 0, 0, 0, 0, 0, 0, 0, 0]))}) : Operand) with | .const (.string s) => s[j]? | _ => none) = some (UInt8.ofNat (utab j)) := by
  have k : ∀ j : Fin 33, (match (.const (Go.Value.string {data := List.toArray (List.append (List.append [1, 1, 1, 1, 1, 1, 1, 1, 2, 2, 2, 2, 2, 2, 2, 3, 3, 3, 3, 3, 3, 3, 4, 4, 4, 4, 4, 4, 4, 5, 5, 5, 5, 5, 5, 5, 6, 6, 6, 6, 6, 6, 6, 7, 7, 7, 7, 7, 7, 7, 8, 8, 8, 8, 8, 8, 8, 9, 9, 9, 9, 9, 9, 9] [10, 0, 0, 0, 0, 0, 0, 0, 0, 0, 0, 0, 0, 0, 0, 0, 0, 0, 0, 0, 0, 0, 0, 0, 0, 0, 0, 0, 0, 0, 0, 0, 0, 0, 0, 0, 0, 0, 0, 0, 0, 0, 0, 0, 0, 0, 0, 0, 0, 0, 0, 0, 0, 0, 0, 0, 0, 0, 0, 0, 0, 0, 0, 0]) (List.append [0, 0, 0, 0, 0, 0, 0, 0, 0, 0, 0, 0, 0, 0, 0, 0, 0, 0, 0, 0, 0, 0, 0, 0, 0, 0, 0, 0, 0, 0, 0, 0, 0, 0, 0, 0, 0, 0, 0, 0, 0, 0, 0, 0, 0, 0, 0, 0, 0, 0, 0, 0, 0, 0, 0, 0, 0, 0, 0, 0, 0, 0, 0, 0] [0, 0, 0, 0, 0, 0, 0, 0, 0, 0, 0, 0, 0, 0, 0, 0, 0, 0, 0, 0, 0, 0, 0, 0, 0, 0, 0, 0, 0, 0, 0, 0, 0, 0, 0, 0, 0, 0, 0, 0, 0, 0, 0, 0, 0, 0, 0, 0, 0, 0, 0, 0, 0, 0, 0, 0, 0, 0, 0, 0, 0, 0, 0, 0]))}) : Operand) with | .const (.string s) => s[j.1]? | _ => none) = some (UInt8.ofNat (utab j.1)) := by decide +kernel
  exact k ⟨j, by omega⟩

theorem call24 : Callable Try.prog 24 := ⟨Try.f24, Try.func24, by kernel_rfl, by kernel_rfl⟩
set_option maxHeartbeats 4000000 in
theorem c24 (w : World) (n : Nat) (hn : n < 4294967296) : Calls Try.prog 24 #[.int .u32 n] w fun en w' => ∃ r, en = .returned r ∧ r = .int .i64 (uvLen n : Int) ∧ w' = w := by
  refine Calls.of_CW Try.func24 rfl (by decide +kernel) (Nat.le_of_ble_eq_true (by kernel_rfl)) (CW.of_flat ?_)
  simp only [flat, List.cons_append, List.nil_append, List.append_nil]
  refine CWL.reg (ops := [(.assign (.const (Go.Value.int Go.IntKind.i64 0)), 3)]) (b := [(2, 1)]) (by kernel_rfl) ?_
  refine OpK.assign ?_
  refine CWL.reg (ops := [(.call ⟨.value (.func 30), #[.tmp 0], #[33]⟩, 3), (.convert 3 5 (.tmp 1), 5), (.index 9 (.const (Go.Value.string {data := List.toArray (List.append (List.append [1, 1, 1, 1, 1, 1, 1, 1, 2, 2, 2, 2, 2, 2, 2, 3, 3, 3, 3, 3, 3, 3, 4, 4, 4, 4, 4, 4, 4, 5, 5, 5, 5, 5, 5, 5, 6, 6, 6, 6, 6, 6, 6, 7, 7, 7, 7, 7, 7, 7, 8, 8, 8, 8, 8, 8, 8, 9, 9, 9, 9, 9, 9, 9] [10, 0, 0, 0, 0, 0, 0, 0, 0, 0, 0, 0, 0, 0, 0, 0, 0, 0, 0, 0, 0, 0, 0, 0, 0, 0, 0, 0, 0, 0, 0, 0, 0, 0, 0, 0, 0, 0, 0, 0, 0, 0, 0, 0, 0, 0, 0, 0, 0, 0, 0, 0, 0, 0, 0, 0, 0, 0, 0, 0, 0, 0, 0, 0]) (List.append [0, 0, 0, 0, 0, 0, 0, 0, 0, 0, 0, 0, 0, 0, 0, 0, 0, 0, 0, 0, 0, 0, 0, 0, 0, 0, 0, 0, 0, 0, 0, 0, 0, 0, 0, 0, 0, 0, 0, 0, 0, 0, 0, 0, 0, 0, 0, 0, 0, 0, 0, 0, 0, 0, 0, 0, 0, 0, 0, 0, 0, 0, 0, 0] [0, 0, 0, 0, 0, 0, 0, 0, 0, 0, 0, 0, 0, 0, 0, 0, 0, 0, 0, 0, 0, 0, 0, 0, 0, 0, 0, 0, 0, 0, 0, 0, 0, 0, 0, 0, 0, 0, 0, 0, 0, 0, 0, 0, 0, 0, 0, 0, 0, 0, 0, 0, 0, 0, 0, 0, 0, 0, 0, 0, 0, 0, 0, 0]))})) (.tmp 3), 5), (.convert 5 3 (.tmp 5), 3)]) (b := [(2, 7), (7, 7), (6, 5), (5, 3), (4, 1), (3, 0)]) (by kernel_rfl) ?_
  refine OpK.asCall rfl call30 rfl ((c30 w n hn).mono ?_)
  rintro en w1 ⟨r1, he1, hr1, hw1⟩
  subst hw1
  subst hr1
  refine ⟨_, he1, ?_⟩
  refine OpK.convInt (k' := .u8) (by kernel_rfl) (by kernel_rfl) rfl ?_
  refine OpK.indexStr (by kernel_rfl) rfl (congrArg (Value.int .u8) (u8_nat (Nat.lt_of_le_of_lt bl32_le (by decide)))) (tabU (bl32 n) bl32_le) ?_
  refine OpK.convInt (k' := .i64) (by kernel_rfl) (by kernel_rfl) rfl ?_
  refine CWL.ret ?_
  exact ⟨_, rfl, ulen_val hn, rfl⟩

theorem call21 : Callable Try.prog 21 := ⟨Try.f21, Try.func21, by kernel_rfl, by kernel_rfl⟩
set_option maxHeartbeats 8000000 in
theorem c21 (w : World) (n : Nat) (m : Int) (hm : m = n) (hn : n < 4294967296) (d : Value) (bs : List UInt8) (hd : Own 5 w d bs) (hl : bs.length + (uvar n).length ≤ Lim) : Calls Try.prog 21 #[d, .int .u32 m] w fun en w' => ∃ d', en = .returned d' ∧ Grew 5 w d w' d' (bs ++ uvar n) := by
  subst hm
  have hcase : n < 128 ∨ (128 ≤ n ∧ n < 16384) ∨ (16384 ≤ n ∧ n < 2097152) ∨ (2097152 ≤ n ∧ n < 268435456) ∨ 268435456 ≤ n := by omega
  obtain ⟨v', w', hr, hg⟩ := append_lit (ty := 27) und u8 hd (uvar n) hl
  rcases hcase with h | ⟨h, h'⟩ | ⟨h, h'⟩ | ⟨h, h'⟩ | h
  · skip
    have hk : uvLen n = 1 := by unfold uvLen; repeat' split <;> try omega
    have hc : (uvar n).map bv = [.int .u8 (IntKind.u8.wrap (n : Int))] := by
      rw [uv1 h]
      simp only [List.map_cons, List.map_nil]
      rw [← grpL0 n h]
    have hlen : (uvar n).length = 1 := by rw [uv1 h]; rfl
    rw [hc, hlen] at hr
    refine Calls.of_CW Try.func21 rfl (by decide +kernel) (Nat.le_of_ble_eq_true (by kernel_rfl)) (CW.of_flat ?_)
    simp only [flat, List.cons_append, List.nil_append, List.append_nil]
    refine CWL.reg (ops := [(.assign (.const (Go.Value.slice none 0 0)), 27)]) (b := [(4, 1)]) (by kernel_rfl) ?_
    refine OpK.assign ?_
    refine CWL.reg (ops := [(.call ⟨.value (.func 24), #[.tmp 2], #[33]⟩, 3)]) (b := [(6, 1), (5, 2)]) (by kernel_rfl) ?_
    refine OpK.asCall rfl call24 rfl ((c24 w n hn).mono ?_)
    rintro en w1 ⟨r1, he1, hr1, hw1⟩
    subst hw1
    rw [hk] at hr1
    subst hr1
    refine ⟨_, he1, ?_⟩
    refine CWL.block ?_
    simp only [flat, List.cons_append, List.nil_append, List.append_nil]
    refine CWL.reg (ops := [(.binOp .eql 3 (.tmp 12) (.const (Go.Value.int Go.IntKind.i64 5)) 3, 4)]) (b := [(7, 1), (8, 1)]) (by kernel_rfl) ?_
    refine OpK.cmp rfl rfl rfl ?_
    refine CWL.condF rfl ?_
    simp only [flat, List.cons_append, List.nil_append, List.append_nil]
    refine CWL.reg (ops := [(.binOp .eql 3 (.tmp 12) (.const (Go.Value.int Go.IntKind.i64 4)) 3, 4)]) (b := [(34, 1), (35, 1)]) (by kernel_rfl) ?_
    refine OpK.cmp rfl rfl rfl ?_
    refine CWL.condF rfl ?_
    simp only [flat, List.cons_append, List.nil_append, List.append_nil]
    refine CWL.reg (ops := [(.binOp .eql 3 (.tmp 12) (.const (Go.Value.int Go.IntKind.i64 3)) 3, 4)]) (b := [(56, 1), (57, 1)]) (by kernel_rfl) ?_
    refine OpK.cmp rfl rfl rfl ?_
    refine CWL.condF rfl ?_
    simp only [flat, List.cons_append, List.nil_append, List.append_nil]
    refine CWL.reg (ops := [(.binOp .eql 3 (.tmp 12) (.const (Go.Value.int Go.IntKind.i64 2)) 3, 4)]) (b := [(73, 1), (74, 1)]) (by kernel_rfl) ?_
    refine OpK.cmp rfl rfl rfl ?_
    refine CWL.condF rfl ?_
    simp only [flat, List.cons_append, List.nil_append, List.append_nil]
    refine CWL.reg (ops := [(.binOp .eql 3 (.tmp 12) (.const (Go.Value.int Go.IntKind.i64 1)) 3, 4)]) (b := [(85, 1), (86, 1)]) (by kernel_rfl) ?_
    refine OpK.cmp rfl rfl rfl ?_
    refine CWL.condT rfl ?_
    simp only [flat, List.cons_append, List.nil_append, List.append_nil]
    refine CWL.reg (ops := [(.convert 33 5 (.tmp 2), 5), (.buildSlice 27 1 #[(0, .tmp 1)], 27), (.call ⟨.builtin .append, #[.tmp 0, .tmp 3], #[27, 27]⟩, 27)]) (b := [(4, 5), (91, 5), (90, 3), (89, 1), (88, 2), (87, 0)]) (by kernel_rfl) ?_
    refine OpK.convInt (k' := .u8) (by kernel_rfl) (by kernel_rfl) rfl ?_
    refine OpK.buildS (by simp only [List.map_toArray, List.map_cons, List.map_nil]; exact run_bs1 (by kernel_rfl) u8 _) ?_
    refine OpK.run rfl hr ?_
    refine CWL.ret ?_
    exact ⟨_, rfl, hg⟩
  · skip
    have hk : uvLen n = 2 := by unfold uvLen; repeat' split <;> try omega
    have hc : (uvar n).map bv = [.int .u8 (IntKind.u8.wrap (bits .or .u32 (bits .and .u32 (n : Int) 127) 128)), .int .u8 (IntKind.u8.wrap ((n : Int) / 2 ^ min ((7 : Int).toNat) IntKind.u32.bits))] := by
      rw [uv2 h h']
      simp only [List.map_cons, List.map_nil]
      rw [← grpL n 7 (by omega), ← grp0 n hn]
      rfl
    have hlen : (uvar n).length = 2 := by rw [uv2 h h']; rfl
    rw [hc, hlen] at hr
    refine Calls.of_CW Try.func21 rfl (by decide +kernel) (Nat.le_of_ble_eq_true (by kernel_rfl)) (CW.of_flat ?_)
    simp only [flat, List.cons_append, List.nil_append, List.append_nil]
    refine CWL.reg (ops := [(.assign (.const (Go.Value.slice none 0 0)), 27)]) (b := [(4, 1)]) (by kernel_rfl) ?_
    refine OpK.assign ?_
    refine CWL.reg (ops := [(.call ⟨.value (.func 24), #[.tmp 2], #[33]⟩, 3)]) (b := [(6, 1), (5, 2)]) (by kernel_rfl) ?_
    refine OpK.asCall rfl call24 rfl ((c24 w n hn).mono ?_)
    rintro en w1 ⟨r1, he1, hr1, hw1⟩
    subst hw1
    rw [hk] at hr1
    subst hr1
    refine ⟨_, he1, ?_⟩
    refine CWL.block ?_
    simp only [flat, List.cons_append, List.nil_append, List.append_nil]
    refine CWL.reg (ops := [(.binOp .eql 3 (.tmp 12) (.const (Go.Value.int Go.IntKind.i64 5)) 3, 4)]) (b := [(7, 1), (8, 1)]) (by kernel_rfl) ?_
    refine OpK.cmp rfl rfl rfl ?_
    refine CWL.condF rfl ?_
    simp only [flat, List.cons_append, List.nil_append, List.append_nil]
    refine CWL.reg (ops := [(.binOp .eql 3 (.tmp 12) (.const (Go.Value.int Go.IntKind.i64 4)) 3, 4)]) (b := [(34, 1), (35, 1)]) (by kernel_rfl) ?_
    refine OpK.cmp rfl rfl rfl ?_
    refine CWL.condF rfl ?_
    simp only [flat, List.cons_append, List.nil_append, List.append_nil]
    refine CWL.reg (ops := [(.binOp .eql 3 (.tmp 12) (.const (Go.Value.int Go.IntKind.i64 3)) 3, 4)]) (b := [(56, 1), (57, 1)]) (by kernel_rfl) ?_
    refine OpK.cmp rfl rfl rfl ?_
    refine CWL.condF rfl ?_
    simp only [flat, List.cons_append, List.nil_append, List.append_nil]
    refine CWL.reg (ops := [(.binOp .eql 3 (.tmp 12) (.const (Go.Value.int Go.IntKind.i64 2)) 3, 4)]) (b := [(73, 1), (74, 1)]) (by kernel_rfl) ?_
    refine OpK.cmp rfl rfl rfl ?_
    refine CWL.condT rfl ?_
    simp only [flat, List.cons_append, List.nil_append, List.append_nil]
    refine CWL.reg (ops := [(.binOp .and 33 (.tmp 2) (.const (Go.Value.int Go.IntKind.u32 127)) 33, 33), (.binOp .or 33 (.tmp 1) (.const (Go.Value.int Go.IntKind.u32 128)) 33, 33), (.convert 33 5 (.tmp 3), 5), (.binOp .shr 33 (.tmp 2) (.const (Go.Value.int Go.IntKind.u64 7)) 51, 33), (.convert 33 5 (.tmp 7), 5), (.buildSlice 27 2 #[(0, .tmp 5), (1, .tmp 9)], 27), (.call ⟨.builtin .append, #[.tmp 0, .tmp 11], #[27, 27]⟩, 27)]) (b := [(4, 13), (84, 13), (83, 11), (82, 9), (81, 7), (80, 2), (79, 5), (78, 3), (77, 1), (76, 2), (75, 0)]) (by kernel_rfl) ?_
    refine OpK.and rfl rfl ?_
    refine OpK.or rfl rfl ?_
    refine OpK.convInt (k' := .u8) (by kernel_rfl) (by kernel_rfl) rfl ?_
    refine OpK.shr rfl rfl (by decide) ?_
    refine OpK.convInt (k' := .u8) (by kernel_rfl) (by kernel_rfl) rfl ?_
    refine OpK.buildS (by simp only [List.map_toArray, List.map_cons, List.map_nil]; exact run_bs2 (by kernel_rfl) u8 _ _) ?_
    refine OpK.run rfl hr ?_
    refine CWL.ret ?_
    exact ⟨_, rfl, hg⟩
  · skip
    have hk : uvLen n = 3 := by unfold uvLen; repeat' split <;> try omega
    have hc : (uvar n).map bv = [.int .u8 (IntKind.u8.wrap (bits .or .u32 (bits .and .u32 (n : Int) 127) 128)), .int .u8 (IntKind.u8.wrap (bits .or .u32 (bits .and .u32 ((n : Int) / 2 ^ min ((7 : Int).toNat) IntKind.u32.bits) 127) 128)), .int .u8 (IntKind.u8.wrap ((n : Int) / 2 ^ min ((14 : Int).toNat) IntKind.u32.bits))] := by
      rw [uv3 h h']
      simp only [List.map_cons, List.map_nil]
      rw [← grpL n 14 (by omega), ← grp n 7 hn, ← grp0 n hn]
      rfl
    have hlen : (uvar n).length = 3 := by rw [uv3 h h']; rfl
    rw [hc, hlen] at hr
    refine Calls.of_CW Try.func21 rfl (by decide +kernel) (Nat.le_of_ble_eq_true (by kernel_rfl)) (CW.of_flat ?_)
    simp only [flat, List.cons_append, List.nil_append, List.append_nil]
    refine CWL.reg (ops := [(.assign (.const (Go.Value.slice none 0 0)), 27)]) (b := [(4, 1)]) (by kernel_rfl) ?_
    refine OpK.assign ?_
    refine CWL.reg (ops := [(.call ⟨.value (.func 24), #[.tmp 2], #[33]⟩, 3)]) (b := [(6, 1), (5, 2)]) (by kernel_rfl) ?_
    refine OpK.asCall rfl call24 rfl ((c24 w n hn).mono ?_)
    rintro en w1 ⟨r1, he1, hr1, hw1⟩
    subst hw1
    rw [hk] at hr1
    subst hr1
    refine ⟨_, he1, ?_⟩
    refine CWL.block ?_
    simp only [flat, List.cons_append, List.nil_append, List.append_nil]
    refine CWL.reg (ops := [(.binOp .eql 3 (.tmp 12) (.const (Go.Value.int Go.IntKind.i64 5)) 3, 4)]) (b := [(7, 1), (8, 1)]) (by kernel_rfl) ?_
    refine OpK.cmp rfl rfl rfl ?_
    refine CWL.condF rfl ?_
    simp only [flat, List.cons_append, List.nil_append, List.append_nil]
    refine CWL.reg (ops := [(.binOp .eql 3 (.tmp 12) (.const (Go.Value.int Go.IntKind.i64 4)) 3, 4)]) (b := [(34, 1), (35, 1)]) (by kernel_rfl) ?_
    refine OpK.cmp rfl rfl rfl ?_
    refine CWL.condF rfl ?_
    simp only [flat, List.cons_append, List.nil_append, List.append_nil]
    refine CWL.reg (ops := [(.binOp .eql 3 (.tmp 12) (.const (Go.Value.int Go.IntKind.i64 3)) 3, 4)]) (b := [(56, 1), (57, 1)]) (by kernel_rfl) ?_
    refine OpK.cmp rfl rfl rfl ?_
    refine CWL.condT rfl ?_
    simp only [flat, List.cons_append, List.nil_append, List.append_nil]
    refine CWL.reg (ops := [(.binOp .and 33 (.tmp 2) (.const (Go.Value.int Go.IntKind.u32 127)) 33, 33), (.binOp .or 33 (.tmp 1) (.const (Go.Value.int Go.IntKind.u32 128)) 33, 33), (.convert 33 5 (.tmp 3), 5), (.binOp .shr 33 (.tmp 2) (.const (Go.Value.int Go.IntKind.u64 7)) 51, 33), (.binOp .and 33 (.tmp 7) (.const (Go.Value.int Go.IntKind.u32 127)) 33, 33), (.binOp .or 33 (.tmp 9) (.const (Go.Value.int Go.IntKind.u32 128)) 33, 33), (.convert 33 5 (.tmp 11), 5), (.binOp .shr 33 (.tmp 2) (.const (Go.Value.int Go.IntKind.u64 14)) 51, 33), (.convert 33 5 (.tmp 15), 5), (.buildSlice 27 3 #[(0, .tmp 5), (1, .tmp 13), (2, .tmp 17)], 27), (.call ⟨.builtin .append, #[.tmp 0, .tmp 19], #[27, 27]⟩, 27)]) (b := [(4, 21), (72, 21), (71, 19), (70, 17), (69, 15), (68, 2), (67, 13), (66, 11), (65, 9), (64, 7), (63, 2), (62, 5), (61, 3), (60, 1), (59, 2), (58, 0)]) (by kernel_rfl) ?_
    refine OpK.and rfl rfl ?_
    refine OpK.or rfl rfl ?_
    refine OpK.convInt (k' := .u8) (by kernel_rfl) (by kernel_rfl) rfl ?_
    refine OpK.shr rfl rfl (by decide) ?_
    refine OpK.and rfl rfl ?_
    refine OpK.or rfl rfl ?_
    refine OpK.convInt (k' := .u8) (by kernel_rfl) (by kernel_rfl) rfl ?_
    refine OpK.shr rfl rfl (by decide) ?_
    refine OpK.convInt (k' := .u8) (by kernel_rfl) (by kernel_rfl) rfl ?_
    refine OpK.buildS (by simp only [List.map_toArray, List.map_cons, List.map_nil]; exact run_bs3 (by kernel_rfl) u8 _ _ _) ?_
    refine OpK.run rfl hr ?_
    refine CWL.ret ?_
    exact ⟨_, rfl, hg⟩
  · skip
    have hk : uvLen n = 4 := by unfold uvLen; repeat' split <;> try omega
    have hc : (uvar n).map bv = [.int .u8 (IntKind.u8.wrap (bits .or .u32 (bits .and .u32 (n : Int) 127) 128)), .int .u8 (IntKind.u8.wrap (bits .or .u32 (bits .and .u32 ((n : Int) / 2 ^ min ((7 : Int).toNat) IntKind.u32.bits) 127) 128)), .int .u8 (IntKind.u8.wrap (bits .or .u32 (bits .and .u32 ((n : Int) / 2 ^ min ((14 : Int).toNat) IntKind.u32.bits) 127) 128)), .int .u8 (IntKind.u8.wrap ((n : Int) / 2 ^ min ((21 : Int).toNat) IntKind.u32.bits))] := by
      rw [uv4 h h']
      simp only [List.map_cons, List.map_nil]
      rw [← grpL n 21 (by omega), ← grp n 14 hn, ← grp n 7 hn, ← grp0 n hn]
      rfl
    have hlen : (uvar n).length = 4 := by rw [uv4 h h']; rfl
    rw [hc, hlen] at hr
    refine Calls.of_CW Try.func21 rfl (by decide +kernel) (Nat.le_of_ble_eq_true (by kernel_rfl)) (CW.of_flat ?_)
    simp only [flat, List.cons_append, List.nil_append, List.append_nil]
    refine CWL.reg (ops := [(.assign (.const (Go.Value.slice none 0 0)), 27)]) (b := [(4, 1)]) (by kernel_rfl) ?_
    refine OpK.assign ?_
    refine CWL.reg (ops := [(.call ⟨.value (.func 24), #[.tmp 2], #[33]⟩, 3)]) (b := [(6, 1), (5, 2)]) (by kernel_rfl) ?_
    refine OpK.asCall rfl call24 rfl ((c24 w n hn).mono ?_)
    rintro en w1 ⟨r1, he1, hr1, hw1⟩
    subst hw1
    rw [hk] at hr1
    subst hr1
    refine ⟨_, he1, ?_⟩
    refine CWL.block ?_
    simp only [flat, List.cons_append, List.nil_append, List.append_nil]
    refine CWL.reg (ops := [(.binOp .eql 3 (.tmp 12) (.const (Go.Value.int Go.IntKind.i64 5)) 3, 4)]) (b := [(7, 1), (8, 1)]) (by kernel_rfl) ?_
    refine OpK.cmp rfl rfl rfl ?_
    refine CWL.condF rfl ?_
    simp only [flat, List.cons_append, List.nil_append, List.append_nil]
    refine CWL.reg (ops := [(.binOp .eql 3 (.tmp 12) (.const (Go.Value.int Go.IntKind.i64 4)) 3, 4)]) (b := [(34, 1), (35, 1)]) (by kernel_rfl) ?_
    refine OpK.cmp rfl rfl rfl ?_
    refine CWL.condT rfl ?_
    simp only [flat, List.cons_append, List.nil_append, List.append_nil]
    refine CWL.reg (ops := [(.binOp .and 33 (.tmp 2) (.const (Go.Value.int Go.IntKind.u32 127)) 33, 33), (.binOp .or 33 (.tmp 1) (.const (Go.Value.int Go.IntKind.u32 128)) 33, 33), (.convert 33 5 (.tmp 3), 5), (.binOp .shr 33 (.tmp 2) (.const (Go.Value.int Go.IntKind.u64 7)) 51, 33), (.binOp .and 33 (.tmp 7) (.const (Go.Value.int Go.IntKind.u32 127)) 33, 33), (.binOp .or 33 (.tmp 9) (.const (Go.Value.int Go.IntKind.u32 128)) 33, 33), (.convert 33 5 (.tmp 11), 5), (.binOp .shr 33 (.tmp 2) (.const (Go.Value.int Go.IntKind.u64 14)) 51, 33), (.binOp .and 33 (.tmp 15) (.const (Go.Value.int Go.IntKind.u32 127)) 33, 33), (.binOp .or 33 (.tmp 17) (.const (Go.Value.int Go.IntKind.u32 128)) 33, 33), (.convert 33 5 (.tmp 19), 5), (.binOp .shr 33 (.tmp 2) (.const (Go.Value.int Go.IntKind.u64 21)) 51, 33), (.convert 33 5 (.tmp 23), 5), (.buildSlice 27 4 #[(0, .tmp 5), (1, .tmp 13), (2, .tmp 21), (3, .tmp 25)], 27), (.call ⟨.builtin .append, #[.tmp 0, .tmp 27], #[27, 27]⟩, 27)]) (b := [(4, 29), (55, 29), (54, 27), (53, 25), (52, 23), (51, 2), (50, 21), (49, 19), (48, 17), (47, 15), (46, 2), (45, 13), (44, 11), (43, 9), (42, 7), (41, 2), (40, 5), (39, 3), (38, 1), (37, 2), (36, 0)]) (by kernel_rfl) ?_
    refine OpK.and rfl rfl ?_
    refine OpK.or rfl rfl ?_
    refine OpK.convInt (k' := .u8) (by kernel_rfl) (by kernel_rfl) rfl ?_
    refine OpK.shr rfl rfl (by decide) ?_
    refine OpK.and rfl rfl ?_
    refine OpK.or rfl rfl ?_
    refine OpK.convInt (k' := .u8) (by kernel_rfl) (by kernel_rfl) rfl ?_
    refine OpK.shr rfl rfl (by decide) ?_
    refine OpK.and rfl rfl ?_
    refine OpK.or rfl rfl ?_
    refine OpK.convInt (k' := .u8) (by kernel_rfl) (by kernel_rfl) rfl ?_
    refine OpK.shr rfl rfl (by decide) ?_
    refine OpK.convInt (k' := .u8) (by kernel_rfl) (by kernel_rfl) rfl ?_
    refine OpK.buildS (by simp only [List.map_toArray, List.map_cons, List.map_nil]; exact run_bs4 (by kernel_rfl) u8 _ _ _ _) ?_
    refine OpK.run rfl hr ?_
    refine CWL.ret ?_
    exact ⟨_, rfl, hg⟩
  · skip
    have hk : uvLen n = 5 := by unfold uvLen; repeat' split <;> try omega
    have hc : (uvar n).map bv = [.int .u8 (IntKind.u8.wrap (bits .or .u32 (bits .and .u32 (n : Int) 127) 128)), .int .u8 (IntKind.u8.wrap (bits .or .u32 (bits .and .u32 ((n : Int) / 2 ^ min ((7 : Int).toNat) IntKind.u32.bits) 127) 128)), .int .u8 (IntKind.u8.wrap (bits .or .u32 (bits .and .u32 ((n : Int) / 2 ^ min ((14 : Int).toNat) IntKind.u32.bits) 127) 128)), .int .u8 (IntKind.u8.wrap (bits .or .u32 (bits .and .u32 ((n : Int) / 2 ^ min ((21 : Int).toNat) IntKind.u32.bits) 127) 128)), .int .u8 (IntKind.u8.wrap ((n : Int) / 2 ^ min ((28 : Int).toNat) IntKind.u32.bits))] := by
      rw [uv5 h hn]
      simp only [List.map_cons, List.map_nil]
      rw [← grpL n 28 (by omega), ← grp n 21 hn, ← grp n 14 hn, ← grp n 7 hn, ← grp0 n hn]
      rfl
    have hlen : (uvar n).length = 5 := by rw [uv5 h hn]; rfl
    rw [hc, hlen] at hr
    refine Calls.of_CW Try.func21 rfl (by decide +kernel) (Nat.le_of_ble_eq_true (by kernel_rfl)) (CW.of_flat ?_)
    simp only [flat, List.cons_append, List.nil_append, List.append_nil]
    refine CWL.reg (ops := [(.assign (.const (Go.Value.slice none 0 0)), 27)]) (b := [(4, 1)]) (by kernel_rfl) ?_
    refine OpK.assign ?_
    refine CWL.reg (ops := [(.call ⟨.value (.func 24), #[.tmp 2], #[33]⟩, 3)]) (b := [(6, 1), (5, 2)]) (by kernel_rfl) ?_
    refine OpK.asCall rfl call24 rfl ((c24 w n hn).mono ?_)
    rintro en w1 ⟨r1, he1, hr1, hw1⟩
    subst hw1
    rw [hk] at hr1
    subst hr1
    refine ⟨_, he1, ?_⟩
    refine CWL.block ?_
    simp only [flat, List.cons_append, List.nil_append, List.append_nil]
    refine CWL.reg (ops := [(.binOp .eql 3 (.tmp 12) (.const (Go.Value.int Go.IntKind.i64 5)) 3, 4)]) (b := [(7, 1), (8, 1)]) (by kernel_rfl) ?_
    refine OpK.cmp rfl rfl rfl ?_
    refine CWL.condT rfl ?_
    simp only [flat, List.cons_append, List.nil_append, List.append_nil]
    refine CWL.reg (ops := [(.binOp .and 33 (.tmp 2) (.const (Go.Value.int Go.IntKind.u32 127)) 33, 33), (.binOp .or 33 (.tmp 1) (.const (Go.Value.int Go.IntKind.u32 128)) 33, 33), (.convert 33 5 (.tmp 3), 5), (.binOp .shr 33 (.tmp 2) (.const (Go.Value.int Go.IntKind.u64 7)) 51, 33), (.binOp .and 33 (.tmp 7) (.const (Go.Value.int Go.IntKind.u32 127)) 33, 33), (.binOp .or 33 (.tmp 9) (.const (Go.Value.int Go.IntKind.u32 128)) 33, 33), (.convert 33 5 (.tmp 11), 5), (.binOp .shr 33 (.tmp 2) (.const (Go.Value.int Go.IntKind.u64 14)) 51, 33), (.binOp .and 33 (.tmp 15) (.const (Go.Value.int Go.IntKind.u32 127)) 33, 33), (.binOp .or 33 (.tmp 17) (.const (Go.Value.int Go.IntKind.u32 128)) 33, 33), (.convert 33 5 (.tmp 19), 5), (.binOp .shr 33 (.tmp 2) (.const (Go.Value.int Go.IntKind.u64 21)) 51, 33), (.binOp .and 33 (.tmp 23) (.const (Go.Value.int Go.IntKind.u32 127)) 33, 33), (.binOp .or 33 (.tmp 25) (.const (Go.Value.int Go.IntKind.u32 128)) 33, 33), (.convert 33 5 (.tmp 27), 5), (.binOp .shr 33 (.tmp 2) (.const (Go.Value.int Go.IntKind.u64 28)) 51, 33), (.convert 33 5 (.tmp 31), 5), (.buildSlice 27 5 #[(0, .tmp 5), (1, .tmp 13), (2, .tmp 21), (3, .tmp 29), (4, .tmp 33)], 27), (.call ⟨.builtin .append, #[.tmp 0, .tmp 35], #[27, 27]⟩, 27)]) (b := [(4, 37), (33, 37), (32, 35), (31, 33), (30, 31), (29, 2), (28, 29), (27, 27), (26, 25), (25, 23), (24, 2), (23, 21), (22, 19), (21, 17), (20, 15), (19, 2), (18, 13), (17, 11), (16, 9), (15, 7), (14, 2), (13, 5), (12, 3), (11, 1), (10, 2), (9, 0)]) (by kernel_rfl) ?_
    refine OpK.and rfl rfl ?_
    refine OpK.or rfl rfl ?_
    refine OpK.convInt (k' := .u8) (by kernel_rfl) (by kernel_rfl) rfl ?_
    refine OpK.shr rfl rfl (by decide) ?_
    refine OpK.and rfl rfl ?_
    refine OpK.or rfl rfl ?_
    refine OpK.convInt (k' := .u8) (by kernel_rfl) (by kernel_rfl) rfl ?_
    refine OpK.shr rfl rfl (by decide) ?_
    refine OpK.and rfl rfl ?_
    refine OpK.or rfl rfl ?_
    refine OpK.convInt (k' := .u8) (by kernel_rfl) (by kernel_rfl) rfl ?_
    refine OpK.shr rfl rfl (by decide) ?_
    refine OpK.and rfl rfl ?_
    refine OpK.or rfl rfl ?_
    refine OpK.convInt (k' := .u8) (by kernel_rfl) (by kernel_rfl) rfl ?_
    refine OpK.shr rfl rfl (by decide) ?_
    refine OpK.convInt (k' := .u8) (by kernel_rfl) (by kernel_rfl) rfl ?_
    refine OpK.buildS (by simp only [List.map_toArray, List.map_cons, List.map_nil]; exact run_bs5 (by kernel_rfl) u8 _ _ _ _ _) ?_
    refine OpK.run rfl hr ?_
    refine CWL.ret ?_
    exact ⟨_, rfl, hg⟩

theorem ok21 (full : Bool) : ApOk Try.prog 5 full 21 .uv := by
  intro w n d bs hn hd hl
  exact c21 w n _ rfl hn d bs hd hl

theorem call14 : Callable Try.prog 14 := ⟨Try.f14, Try.func14, by kernel_rfl, by kernel_rfl⟩
theorem undm : Try.prog.underlying 39 = some (.map 33 27) := by kernel_rfl
set_option maxHeartbeats 4000000 in
theorem ok14 (full : Bool) : ApOk Try.prog 5 full 14 .tlen := by
  intro w S g o v hf0 hi
  obtain ⟨cs, hr, ha⟩ := hi
  cases v <;> simp only [Rep] at hr
  rename_i l
  have key : Calls Try.prog 14 #[.pointer (some ⟨g, o, none⟩)] w fun en w' => ∃ r, en = .returned r ∧ r = .int .i64 ((V.tags l).tagsOf.length : Int) ∧ w' = w := by
    rcases hr with ⟨rfl, rfl⟩ | ⟨r, es, clk, rfl, hS, hm, hnd, h2⟩
    · skip
      refine Calls.of_CW Try.func14 rfl (by decide +kernel) (Nat.le_of_ble_eq_true (by kernel_rfl)) (CW.of_flat ?_)
      simp only [flat, List.cons_append, List.nil_append, List.append_nil]
      refine CWL.reg (ops := [(.assign (.const (Go.Value.int Go.IntKind.i64 0)), 3)]) (b := [(2, 1)]) (by kernel_rfl) ?_
      refine OpK.assign ?_
      refine CWL.reg (ops := [(.nilCheck (.tmp 0), 0), (.fieldAddr 41 (.tmp 1) 0, 0), (.load 39 (.tmp 3), 39), (.call ⟨.builtin .len, #[.tmp 5], #[39]⟩, 3)]) (b := [(2, 7), (7, 7), (6, 5), (5, 3), (4, 1), (3, 0)]) (by kernel_rfl) ?_
      refine OpK.nilCheck rfl ?_
      refine OpK.fieldAddr (off := 0) (by kernel_rfl) rfl ?_
      refine OpK.load (by kernel_rfl) rfl (ha 0 _ rfl) ?_
      refine OpK.lenMap0 undm rfl ?_
      refine CWL.ret ?_
      exact ⟨_, rfl, rfl, rfl⟩
    · skip
      refine Calls.of_CW Try.func14 rfl (by decide +kernel) (Nat.le_of_ble_eq_true (by kernel_rfl)) (CW.of_flat ?_)
      simp only [flat, List.cons_append, List.nil_append, List.append_nil]
      refine CWL.reg (ops := [(.assign (.const (Go.Value.int Go.IntKind.i64 0)), 3)]) (b := [(2, 1)]) (by kernel_rfl) ?_
      refine OpK.assign ?_
      refine CWL.reg (ops := [(.nilCheck (.tmp 0), 0), (.fieldAddr 41 (.tmp 1) 0, 0), (.load 39 (.tmp 3), 39), (.call ⟨.builtin .len, #[.tmp 5], #[39]⟩, 3)]) (b := [(2, 7), (7, 7), (6, 5), (5, 3), (4, 1), (3, 0)]) (by kernel_rfl) ?_
      refine OpK.nilCheck rfl ?_
      refine OpK.fieldAddr (off := 0) (by kernel_rfl) rfl ?_
      refine OpK.load (by kernel_rfl) rfl (ha 0 _ rfl) ?_
      refine OpK.lenMap undm rfl hm ?_
      refine CWL.ret ?_
      exact ⟨_, rfl, congrArg (fun n : Nat => Value.int .i64 (n : Int)) (show es.size = l.length by rw [← h2.len]; simp), rfl⟩
  exact key.mono fun en w' ⟨r, h1, h2, h3⟩ => ⟨by rw [h1, h2], h3⟩

theorem call18 : Callable Try.prog 18 := ⟨Try.f18, Try.func18, by kernel_rfl, by kernel_rfl⟩
set_option maxHeartbeats 4000000 in
theorem each0 (w : World) (g o : Nat) (m fv : Value) (hc : w.cell? ⟨g, o + 0, none⟩ = some m) (hm : m = .map none ∨ ∃ r clk, m = .map (some r) ∧ w.heap[r]? = some (.map #[] clk)) : Calls Try.prog 18 #[.pointer (some ⟨g, o, none⟩), fv] w fun en w' => ∃ r, en = .returned r ∧ w' = w := by
  rcases hm with rfl | ⟨r, clk, rfl, hm⟩
  · skip
    refine Calls.of_CW Try.func18 rfl (by decide +kernel) (Nat.le_of_ble_eq_true (by kernel_rfl)) (CW.of_flat ?_)
    simp only [flat, List.cons_append, List.nil_append, List.append_nil]
    refine CWL.reg (ops := [(.nilCheck (.tmp 0), 0), (.fieldAddr 41 (.tmp 1) 0, 0), (.load 39 (.tmp 3), 39), (.call ⟨.builtin .len, #[.tmp 5], #[39]⟩, 3), (.binOp .eql 3 (.tmp 7) (.const (Go.Value.int Go.IntKind.i64 0)) 3, 4)]) (b := [(13, 9), (12, 7), (11, 5), (10, 3), (9, 1), (8, 0)]) (by kernel_rfl) ?_
    refine OpK.nilCheck rfl ?_
    refine OpK.fieldAddr (off := 0) (by kernel_rfl) rfl ?_
    refine OpK.load (by kernel_rfl) rfl hc ?_
    refine OpK.lenMap0 undm rfl ?_
    refine OpK.cmp rfl rfl rfl ?_
    refine CWL.condT rfl ?_
    simp only [flat, List.cons_append, List.nil_append, List.append_nil]
    refine CWL.ret ?_
    exact ⟨_, rfl, rfl⟩
  · skip
    refine Calls.of_CW Try.func18 rfl (by decide +kernel) (Nat.le_of_ble_eq_true (by kernel_rfl)) (CW.of_flat ?_)
    simp only [flat, List.cons_append, List.nil_append, List.append_nil]
    refine CWL.reg (ops := [(.nilCheck (.tmp 0), 0), (.fieldAddr 41 (.tmp 1) 0, 0), (.load 39 (.tmp 3), 39), (.call ⟨.builtin .len, #[.tmp 5], #[39]⟩, 3), (.binOp .eql 3 (.tmp 7) (.const (Go.Value.int Go.IntKind.i64 0)) 3, 4)]) (b := [(13, 9), (12, 7), (11, 5), (10, 3), (9, 1), (8, 0)]) (by kernel_rfl) ?_
    refine OpK.nilCheck rfl ?_
    refine OpK.fieldAddr (off := 0) (by kernel_rfl) rfl ?_
    refine OpK.load (by kernel_rfl) rfl hc ?_
    refine OpK.lenMap undm rfl hm ?_
    refine OpK.cmp rfl rfl rfl ?_
    refine CWL.condT rfl ?_
    simp only [flat, List.cons_append, List.nil_append, List.append_nil]
    refine CWL.ret ?_
    exact ⟨_, rfl, rfl⟩
theorem call16 : Callable Try.prog 16 := ⟨Try.f16, Try.func16, by kernel_rfl, by kernel_rfl⟩

set_option maxHeartbeats 4000000 in
theorem ok160 : ApOk Try.prog 5 false 16 .teach := by
  intro w S g o v d bs hf hi hS hd hcl hl
  obtain ⟨cs, hr, ha⟩ := hi
  cases v <;> simp only [Rep] at hr
  rename_i l
  have hl0 : l = [] := by rcases hf with h | h; cases h; exact h
  subst hl0
  have hm : ∃ m, cs = [m] ∧ (m = .map none ∨ ∃ r clk, m = .map (some r) ∧ w.heap[r]? = some (.map #[] clk) ∧ r < w.heap.size) := by
    rcases hr with ⟨rfl, _⟩ | ⟨r, es, clk, rfl, hSr, hm, _, h2⟩
    · exact ⟨_, rfl, .inl rfl⟩
    · refine ⟨_, rfl, .inr ⟨r, clk, rfl, ?_, (hcl r hSr).1⟩⟩
      have : es = #[] := by apply Array.ext'; have := h2.len; simpa using this
      rw [hm, this]
  obtain ⟨m, rfl, hm⟩ := hm
  have hc0 := ha 0 m rfl
  obtain ⟨ad, cp, rfl⟩ : ∃ ad cp, d = .slice ad bs.length cp := by obtain ⟨a, c, h, _⟩ := hd.len; exact ⟨a, c, h⟩
  refine Calls.of_CW Try.func16 rfl (by decide +kernel) (Nat.le_of_ble_eq_true (by kernel_rfl)) (CW.of_flat ?_)
  simp only [flat, List.cons_append, List.nil_append, List.append_nil]
  refine CWL.reg (ops := [(.box 27 (.tmp 2), 0), (.assign (.const (Go.Value.slice none 0 0)), 27)]) (b := [(4, 3), (3, 1)]) (by kernel_rfl) ?_
  refine OpK.box ?_
  refine OpK.assign ?_
  refine CWL.reg (ops := [(.makeFunc (.func 20) #[] #[.tmp 6], 42), (.call ⟨.value (.func 18), #[.tmp 0, .tmp 1], #[48, 42]⟩, 0)]) (b := [(7, 3), (6, 1), (5, 0)]) (by kernel_rfl) ?_
  refine OpK.makeFunc ?_
  refine OpK.asCall rfl call18 rfl ((each0 _ g o m _ ((cell_old w _ (hcl g hS).1).trans hc0) (by rcases hm with rfl | ⟨r, clk, rfl, h1, h2⟩; exact .inl rfl; exact .inr ⟨r, clk, rfl, (alloc_old w _ r h2).trans h1⟩)).mono ?_)
  rintro en w1 ⟨r1, he1, rfl⟩
  refine ⟨_, he1, ?_⟩
  refine CWL.reg (ops := [(.load 27 (.tmp 6), 27)]) (b := [(4, 1), (8, 1)]) (by kernel_rfl) ?_
  refine OpK.load (by kernel_rfl) rfl (cell_new w _ _) ?_
  refine CWL.ret ?_
  exact ⟨_, rfl, by rw [show encEach (V.tags []).tagsOf = [] from rfl, List.append_nil]; exact (Grew.refl hd).alloc _⟩

def tab : List (Nat × Ap) := [(21, .uv), (14, .tlen), (16, .teach)]
theorem sound0 : Sound Try.prog 5 false tab := Sound.of_all u8 (all_cons ⟨call21, ok21 false⟩ (all_cons ⟨call14, ok14 false⟩ (all_cons ⟨call16, ok160⟩ all_nil)))
end Go.Proofs.Ytagmcjolgfkcaaa.Snd
