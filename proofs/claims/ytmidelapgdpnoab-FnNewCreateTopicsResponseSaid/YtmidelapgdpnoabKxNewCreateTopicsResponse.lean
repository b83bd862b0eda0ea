/- The law FnNewCreateTopicsResponse, checked for each version. -/
import Derived.Test.YtmidelapgdpnoabKxVer
namespace Go.Proofs.Ytmidelapgdpnoab.New
open Go.Kx Go.RowKit Go.Proofs
set_option maxRecDepth 1000000
set_option maxHeartbeats 0

theorem chkCreateTopicsResponse0 : lawB Try.prog 14 (Try.f8.body.getD .skip) Try.f8 8 0 = true := by decide +kernel
theorem chkCreateTopicsResponse1 : lawB Try.prog 14 (Try.f8.body.getD .skip) Try.f8 8 1 = true := by decide +kernel
theorem chkCreateTopicsResponse2 : lawB Try.prog 14 (Try.f8.body.getD .skip) Try.f8 8 2 = true := by decide +kernel
theorem chkCreateTopicsResponse3 : lawB Try.prog 14 (Try.f8.body.getD .skip) Try.f8 8 3 = true := by decide +kernel
theorem chkCreateTopicsResponse4 : lawB Try.prog 14 (Try.f8.body.getD .skip) Try.f8 8 4 = true := by decide +kernel
theorem chkCreateTopicsResponse5 : lawB Try.prog 14 (Try.f8.body.getD .skip) Try.f8 8 5 = true := by decide +kernel
theorem chkCreateTopicsResponse6 : lawB Try.prog 14 (Try.f8.body.getD .skip) Try.f8 8 6 = true := by decide +kernel
theorem chkCreateTopicsResponse7 : lawB Try.prog 14 (Try.f8.body.getD .skip) Try.f8 8 7 = true := by decide +kernel

theorem lawCreateTopicsResponse (w : World) (n : Nat) (hn : n < 256) : Calls Try.prog 8 #[.int .u8 (n : Int)] w fun e w' => ∃ v, e = .returned v ∧ v = .bool true ∧ Below w.heap.size w w' := by
  refine law_true mixed verOk (fn := Try.f8) (c := Try.f8.body.getD .skip) (m := 8) Try.func8 (by rfl) (by decide +kernel) (Nat.le_of_ble_eq_true (by kernel_rfl)) (by decide) (fun r hr => ?_) w n hn
  match r, hr with
  | 0, _ => exact chkCreateTopicsResponse0
  | 1, _ => exact chkCreateTopicsResponse1
  | 2, _ => exact chkCreateTopicsResponse2
  | 3, _ => exact chkCreateTopicsResponse3
  | 4, _ => exact chkCreateTopicsResponse4
  | 5, _ => exact chkCreateTopicsResponse5
  | 6, _ => exact chkCreateTopicsResponse6
  | 7, _ => exact chkCreateTopicsResponse7

end Go.Proofs.Ytmidelapgdpnoab.New
