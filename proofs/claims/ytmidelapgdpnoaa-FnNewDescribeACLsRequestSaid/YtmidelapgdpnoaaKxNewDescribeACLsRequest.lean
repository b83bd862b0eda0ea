/- The law FnNewDescribeACLsRequest, checked for each version. -/
import Derived.Test.YtmidelapgdpnoaaKxVer
namespace Go.Proofs.Ytmidelapgdpnoaa.New
open Go.Kx Go.RowKit Go.Proofs
set_option maxRecDepth 1000000
set_option maxHeartbeats 0

theorem chkDescribeACLsRequest0 : lawB Try.prog 14 (Try.f7.body.getD .skip) Try.f7 4 0 = true := by decide +kernel
theorem chkDescribeACLsRequest1 : lawB Try.prog 14 (Try.f7.body.getD .skip) Try.f7 4 1 = true := by decide +kernel
theorem chkDescribeACLsRequest2 : lawB Try.prog 14 (Try.f7.body.getD .skip) Try.f7 4 2 = true := by decide +kernel
theorem chkDescribeACLsRequest3 : lawB Try.prog 14 (Try.f7.body.getD .skip) Try.f7 4 3 = true := by decide +kernel

theorem lawDescribeACLsRequest (w : World) (n : Nat) (hn : n < 256) : Calls Try.prog 7 #[.int .u8 (n : Int)] w fun e w' => ∃ v, e = .returned v ∧ v = .bool true ∧ Below w.heap.size w w' := by
  refine law_true mixed verOk (fn := Try.f7) (c := Try.f7.body.getD .skip) (m := 4) Try.func7 (by rfl) (by decide +kernel) (Nat.le_of_ble_eq_true (by kernel_rfl)) (by decide) (fun r hr => ?_) w n hn
  match r, hr with
  | 0, _ => exact chkDescribeACLsRequest0
  | 1, _ => exact chkDescribeACLsRequest1
  | 2, _ => exact chkDescribeACLsRequest2
  | 3, _ => exact chkDescribeACLsRequest3

end Go.Proofs.Ytmidelapgdpnoaa.New
