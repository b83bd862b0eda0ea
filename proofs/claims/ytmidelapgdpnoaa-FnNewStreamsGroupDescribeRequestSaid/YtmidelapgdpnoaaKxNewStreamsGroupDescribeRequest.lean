/- The law FnNewStreamsGroupDescribeRequest, checked for each version. -/
import Derived.Test.YtmidelapgdpnoaaKxVer
namespace Go.Proofs.Ytmidelapgdpnoaa.New
open Go.Kx Go.RowKit Go.Proofs
set_option maxRecDepth 1000000
set_option maxHeartbeats 0

theorem chkStreamsGroupDescribeRequest0 : lawB Try.prog 14 (Try.f4.body.getD .skip) Try.f4 2 0 = true := by decide +kernel
theorem chkStreamsGroupDescribeRequest1 : lawB Try.prog 14 (Try.f4.body.getD .skip) Try.f4 2 1 = true := by decide +kernel

theorem lawStreamsGroupDescribeRequest (w : World) (n : Nat) (hn : n < 256) : Calls Try.prog 4 #[.int .u8 (n : Int)] w fun e w' => ∃ v, e = .returned v ∧ v = .bool true ∧ Below w.heap.size w w' := by
  refine law_true mixed verOk (fn := Try.f4) (c := Try.f4.body.getD .skip) (m := 2) Try.func4 (by rfl) (by decide +kernel) (Nat.le_of_ble_eq_true (by kernel_rfl)) (by decide) (fun r hr => ?_) w n hn
  match r, hr with
  | 0, _ => exact chkStreamsGroupDescribeRequest0
  | 1, _ => exact chkStreamsGroupDescribeRequest1

end Go.Proofs.Ytmidelapgdpnoaa.New
