/- The law FnNewAlterClientQuotasRequest, checked for each version. -/
import Derived.Test.YtmidelapgdpnoabKxVer
namespace Go.Proofs.Ytmidelapgdpnoab.New
open Go.Kx Go.RowKit Go.Proofs
set_option maxRecDepth 1000000
set_option maxHeartbeats 0

theorem chkAlterClientQuotasRequest0 : lawB Try.prog 14 (Try.f5.body.getD .skip) Try.f5 2 0 = true := by decide +kernel
theorem chkAlterClientQuotasRequest1 : lawB Try.prog 14 (Try.f5.body.getD .skip) Try.f5 2 1 = true := by decide +kernel

theorem lawAlterClientQuotasRequest (w : World) (n : Nat) (hn : n < 256) : Calls Try.prog 5 #[.int .u8 (n : Int)] w fun e w' => ∃ v, e = .returned v ∧ v = .bool true ∧ Below w.heap.size w w' := by
  refine law_true mixed verOk (fn := Try.f5) (c := Try.f5.body.getD .skip) (m := 2) Try.func5 (by rfl) (by decide +kernel) (Nat.le_of_ble_eq_true (by kernel_rfl)) (by decide) (fun r hr => ?_) w n hn
  match r, hr with
  | 0, _ => exact chkAlterClientQuotasRequest0
  | 1, _ => exact chkAlterClientQuotasRequest1

end Go.Proofs.Ytmidelapgdpnoab.New
