/- The law FnNewDescribeLogDirsResponse, checked for each version. -/
import Derived.Test.YtmidelapgdpnoabKxVer
namespace Go.Proofs.Ytmidelapgdpnoab.New
open Go.Kx Go.RowKit Go.Proofs
set_option maxRecDepth 1000000
set_option maxHeartbeats 0

theorem chkDescribeLogDirsResponse0 : lawB Try.prog 14 (Try.f6.body.getD .skip) Try.f6 6 0 = true := by decide +kernel
theorem chkDescribeLogDirsResponse1 : lawB Try.prog 14 (Try.f6.body.getD .skip) Try.f6 6 1 = true := by decide +kernel
theorem chkDescribeLogDirsResponse2 : lawB Try.prog 14 (Try.f6.body.getD .skip) Try.f6 6 2 = true := by decide +kernel
theorem chkDescribeLogDirsResponse3 : lawB Try.prog 14 (Try.f6.body.getD .skip) Try.f6 6 3 = true := by decide +kernel
theorem chkDescribeLogDirsResponse4 : lawB Try.prog 14 (Try.f6.body.getD .skip) Try.f6 6 4 = true := by decide +kernel
theorem chkDescribeLogDirsResponse5 : lawB Try.prog 14 (Try.f6.body.getD .skip) Try.f6 6 5 = true := by decide +kernel

theorem lawDescribeLogDirsResponse (w : World) (n : Nat) (hn : n < 256) : Calls Try.prog 6 #[.int .u8 (n : Int)] w fun e w' => ∃ v, e = .returned v ∧ v = .bool true ∧ Below w.heap.size w w' := by
  refine law_true mixed verOk (fn := Try.f6) (c := Try.f6.body.getD .skip) (m := 6) Try.func6 (by rfl) (by decide +kernel) (Nat.le_of_ble_eq_true (by kernel_rfl)) (by decide) (fun r hr => ?_) w n hn
  match r, hr with
  | 0, _ => exact chkDescribeLogDirsResponse0
  | 1, _ => exact chkDescribeLogDirsResponse1
  | 2, _ => exact chkDescribeLogDirsResponse2
  | 3, _ => exact chkDescribeLogDirsResponse3
  | 4, _ => exact chkDescribeLogDirsResponse4
  | 5, _ => exact chkDescribeLogDirsResponse5

end Go.Proofs.Ytmidelapgdpnoab.New
