/- The law FnNewJoinGroupRequest, checked for each version. -/
import Derived.Test.YtmidelapgdpnoaaKxVer
namespace Go.Proofs.Ytmidelapgdpnoaa.New
open Go.Kx Go.RowKit Go.Proofs
set_option maxRecDepth 1000000
set_option maxHeartbeats 0

theorem chkJoinGroupRequest0 : lawB Try.prog 14 (Try.f9.body.getD .skip) Try.f9 10 0 = true := by decide +kernel
theorem chkJoinGroupRequest1 : lawB Try.prog 14 (Try.f9.body.getD .skip) Try.f9 10 1 = true := by decide +kernel
theorem chkJoinGroupRequest2 : lawB Try.prog 14 (Try.f9.body.getD .skip) Try.f9 10 2 = true := by decide +kernel
theorem chkJoinGroupRequest3 : lawB Try.prog 14 (Try.f9.body.getD .skip) Try.f9 10 3 = true := by decide +kernel
theorem chkJoinGroupRequest4 : lawB Try.prog 14 (Try.f9.body.getD .skip) Try.f9 10 4 = true := by decide +kernel
theorem chkJoinGroupRequest5 : lawB Try.prog 14 (Try.f9.body.getD .skip) Try.f9 10 5 = true := by decide +kernel
theorem chkJoinGroupRequest6 : lawB Try.prog 14 (Try.f9.body.getD .skip) Try.f9 10 6 = true := by decide +kernel
theorem chkJoinGroupRequest7 : lawB Try.prog 14 (Try.f9.body.getD .skip) Try.f9 10 7 = true := by decide +kernel
theorem chkJoinGroupRequest8 : lawB Try.prog 14 (Try.f9.body.getD .skip) Try.f9 10 8 = true := by decide +kernel
theorem chkJoinGroupRequest9 : lawB Try.prog 14 (Try.f9.body.getD .skip) Try.f9 10 9 = true := by decide +kernel

theorem lawJoinGroupRequest (w : World) (n : Nat) (hn : n < 256) : Calls Try.prog 9 #[.int .u8 (n : Int)] w fun e w' => ∃ v, e = .returned v ∧ v = .bool true ∧ Below w.heap.size w w' := by
  refine law_true mixed verOk (fn := Try.f9) (c := Try.f9.body.getD .skip) (m := 10) Try.func9 (by rfl) (by decide +kernel) (Nat.le_of_ble_eq_true (by kernel_rfl)) (by decide) (fun r hr => ?_) w n hn
  match r, hr with
  | 0, _ => exact chkJoinGroupRequest0
  | 1, _ => exact chkJoinGroupRequest1
  | 2, _ => exact chkJoinGroupRequest2
  | 3, _ => exact chkJoinGroupRequest3
  | 4, _ => exact chkJoinGroupRequest4
  | 5, _ => exact chkJoinGroupRequest5
  | 6, _ => exact chkJoinGroupRequest6
  | 7, _ => exact chkJoinGroupRequest7
  | 8, _ => exact chkJoinGroupRequest8
  | 9, _ => exact chkJoinGroupRequest9

end Go.Proofs.Ytmidelapgdpnoaa.New
