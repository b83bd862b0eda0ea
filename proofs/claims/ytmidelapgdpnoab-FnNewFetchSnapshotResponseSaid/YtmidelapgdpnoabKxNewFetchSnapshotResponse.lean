/- The law FnNewFetchSnapshotResponse, checked for each version. -/
import Derived.Test.YtmidelapgdpnoabKxVer
namespace Go.Proofs.Ytmidelapgdpnoab.New
open Go.Kx Go.RowKit Go.Proofs
set_option maxRecDepth 1000000
set_option maxHeartbeats 0

theorem chkFetchSnapshotResponse0 : lawB Try.prog 14 (Try.f9.body.getD .skip) Try.f9 2 0 = true := by decide +kernel
theorem chkFetchSnapshotResponse1 : lawB Try.prog 14 (Try.f9.body.getD .skip) Try.f9 2 1 = true := by decide +kernel

theorem lawFetchSnapshotResponse (w : World) (n : Nat) (hn : n < 256) : Calls Try.prog 9 #[.int .u8 (n : Int)] w fun e w' => ∃ v, e = .returned v ∧ v = .bool true ∧ Below w.heap.size w w' := by
  refine law_true mixed verOk (fn := Try.f9) (c := Try.f9.body.getD .skip) (m := 2) Try.func9 (by rfl) (by decide +kernel) (Nat.le_of_ble_eq_true (by kernel_rfl)) (by decide) (fun r hr => ?_) w n hn
  match r, hr with
  | 0, _ => exact chkFetchSnapshotResponse0
  | 1, _ => exact chkFetchSnapshotResponse1

end Go.Proofs.Ytmidelapgdpnoab.New
