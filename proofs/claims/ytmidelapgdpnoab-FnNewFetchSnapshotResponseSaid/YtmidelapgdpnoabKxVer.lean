/- version: the rest of the first number by one more than the second one. -/
import Derived.Test.YtmidelapgdpnoabKxRun7
import Derived.Test.YtmidelapgdpnoabProg
namespace Go.Proofs.Ytmidelapgdpnoab.New
open Go.Kx Go.RowKit Go.Proofs
set_option maxRecDepth 100000
set_option linter.unusedSimpArgs false

theorem mixed : Try.prog.follows .mixedOrders = true := by kernel_rfl
theorem verOk : VerOk Try.prog 14 := by
  refine ⟨⟨Try.f14, Try.func14, by kernel_rfl, by kernel_rfl⟩, fun w n k hn hk => ?_⟩
  refine Calls.of_CW Try.func14 rfl (by decide +kernel) (Nat.le_of_ble_eq_true (by kernel_rfl)) (CW.of_flat ?_)
  simp only [flat, List.cons_append, List.nil_append, List.append_nil]
  refine CWL.reg (ops := [(.assign (.const (Go.Value.int Go.IntKind.i64 0)), 3)]) (b := [(4, 1)]) (by kernel_rfl) ?_
  refine OpK.assign ?_
  refine CWL.reg (ops := [(.convert 5 3 (.tmp 0), 3), (.binOp .add 3 (.tmp 2) (.const (Go.Value.int Go.IntKind.i64 1)) 3, 3), (.binOp .rem 3 (.tmp 1) (.tmp 3) 3, 3)]) (b := [(4, 5), (9, 5), (8, 3), (7, 2), (6, 1), (5, 0)]) (by kernel_rfl) ?_
  refine OpK.convInt (k' := .i64) (by kernel_rfl) (by kernel_rfl) rfl ?_
  refine OpK.arith rfl rfl rfl ?_
  refine OpK.rem (a := (n : Int)) (b := ((k + 1 : Nat) : Int)) (by omega) (by omega) (congrArg (Value.int .i64) (i64_nat n (by omega))) (congrArg (Value.int .i64) (by rw [show ((k : Int) + 1) = ((k + 1 : Nat) : Int) by omega]; exact i64_nat _ (by omega))) ?_
  refine CWL.ret ?_
  exact ⟨_, rfl, rfl, rfl⟩

end Go.Proofs.Ytmidelapgdpnoab.New
