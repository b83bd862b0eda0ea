/- The law FnNewAlterUserSCRAMCredentialsResponse, checked for each version. -/
import Derived.Test.YtmidelapgdpnoaaKxVer
namespace Go.Proofs.Ytmidelapgdpnoaa.New
open Go.Kx Go.RowKit Go.Proofs
set_option maxRecDepth 1000000
set_option maxHeartbeats 0

theorem chkAlterUserSCRAMCredentialsResponse0 : lawB Try.prog 14 (Try.f6.body.getD .skip) Try.f6 1 0 = true := by decide +kernel

theorem lawAlterUserSCRAMCredentialsResponse (w : World) (n : Nat) (hn : n < 256) : Calls Try.prog 6 #[.int .u8 (n : Int)] w fun e w' => ∃ v, e = .returned v ∧ v = .bool true ∧ Below w.heap.size w w' := by
  refine law_true mixed verOk (fn := Try.f6) (c := Try.f6.body.getD .skip) (m := 1) Try.func6 (by rfl) (by decide +kernel) (Nat.le_of_ble_eq_true (by kernel_rfl)) (by decide) (fun r hr => ?_) w n hn
  match r, hr with
  | 0, _ => exact chkAlterUserSCRAMCredentialsResponse0

end Go.Proofs.Ytmidelapgdpnoaa.New
