/- The law FnNewElectLeadersRequest, checked for each version. -/
import Derived.Test.YtmidelapgdpnoaaKxVer
namespace Go.Proofs.Ytmidelapgdpnoaa.New
open Go.Kx Go.RowKit Go.Proofs
set_option maxRecDepth 1000000
set_option maxHeartbeats 0

theorem chkElectLeadersRequest0 : lawB Try.prog 14 (Try.f8.body.getD .skip) Try.f8 3 0 = true := by decide +kernel
theorem chkElectLeadersRequest1 : lawB Try.prog 14 (Try.f8.body.getD .skip) Try.f8 3 1 = true := by decide +kernel
theorem chkElectLeadersRequest2 : lawB Try.prog 14 (Try.f8.body.getD .skip) Try.f8 3 2 = true := by decide +kernel

theorem lawElectLeadersRequest (w : World) (n : Nat) (hn : n < 256) : Calls Try.prog 8 #[.int .u8 (n : Int)] w fun e w' => ∃ v, e = .returned v ∧ v = .bool true ∧ Below w.heap.size w w' := by
  refine law_true mixed verOk (fn := Try.f8) (c := Try.f8.body.getD .skip) (m := 3) Try.func8 (by rfl) (by decide +kernel) (Nat.le_of_ble_eq_true (by kernel_rfl)) (by decide) (fun r hr => ?_) w n hn
  match r, hr with
  | 0, _ => exact chkElectLeadersRequest0
  | 1, _ => exact chkElectLeadersRequest1
  | 2, _ => exact chkElectLeadersRequest2

end Go.Proofs.Ytmidelapgdpnoaa.New
