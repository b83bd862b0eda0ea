/- The law FnNewListPartitionReassignmentsResponse, checked for each version. -/
import Derived.Test.YtmidelapgdpnoabKxVer
namespace Go.Proofs.Ytmidelapgdpnoab.New
open Go.Kx Go.RowKit Go.Proofs
set_option maxRecDepth 1000000
set_option maxHeartbeats 0

theorem chkListPartitionReassignmentsResponse0 : lawB Try.prog 14 (Try.f3.body.getD .skip) Try.f3 1 0 = true := by decide +kernel

theorem lawListPartitionReassignmentsResponse (w : World) (n : Nat) (hn : n < 256) : Calls Try.prog 3 #[.int .u8 (n : Int)] w fun e w' => ∃ v, e = .returned v ∧ v = .bool true ∧ Below w.heap.size w w' := by
  refine law_true mixed verOk (fn := Try.f3) (c := Try.f3.body.getD .skip) (m := 1) Try.func3 (by rfl) (by decide +kernel) (Nat.le_of_ble_eq_true (by kernel_rfl)) (by decide) (fun r hr => ?_) w n hn
  match r, hr with
  | 0, _ => exact chkListPartitionReassignmentsResponse0

end Go.Proofs.Ytmidelapgdpnoab.New
