/- The law FnNewProduceRequest, checked for each version. -/
import Derived.Test.YtmidelapgdpnoabKxVer
namespace Go.Proofs.Ytmidelapgdpnoab.New
open Go.Kx Go.RowKit Go.Proofs
set_option maxRecDepth 1000000
set_option maxHeartbeats 0

theorem chkProduceRequest0 : lawB Try.prog 14 (Try.f4.body.getD .skip) Try.f4 14 0 = true := by decide +kernel
theorem chkProduceRequest1 : lawB Try.prog 14 (Try.f4.body.getD .skip) Try.f4 14 1 = true := by decide +kernel
theorem chkProduceRequest2 : lawB Try.prog 14 (Try.f4.body.getD .skip) Try.f4 14 2 = true := by decide +kernel
theorem chkProduceRequest3 : lawB Try.prog 14 (Try.f4.body.getD .skip) Try.f4 14 3 = true := by decide +kernel
theorem chkProduceRequest4 : lawB Try.prog 14 (Try.f4.body.getD .skip) Try.f4 14 4 = true := by decide +kernel
theorem chkProduceRequest5 : lawB Try.prog 14 (Try.f4.body.getD .skip) Try.f4 14 5 = true := by decide +kernel
theorem chkProduceRequest6 : lawB Try.prog 14 (Try.f4.body.getD .skip) Try.f4 14 6 = true := by decide +kernel
theorem chkProduceRequest7 : lawB Try.prog 14 (Try.f4.body.getD .skip) Try.f4 14 7 = true := by decide +kernel
theorem chkProduceRequest8 : lawB Try.prog 14 (Try.f4.body.getD .skip) Try.f4 14 8 = true := by decide +kernel
theorem chkProduceRequest9 : lawB Try.prog 14 (Try.f4.body.getD .skip) Try.f4 14 9 = true := by decide +kernel
theorem chkProduceRequest10 : lawB Try.prog 14 (Try.f4.body.getD .skip) Try.f4 14 10 = true := by decide +kernel
theorem chkProduceRequest11 : lawB Try.prog 14 (Try.f4.body.getD .skip) Try.f4 14 11 = true := by decide +kernel
theorem chkProduceRequest12 : lawB Try.prog 14 (Try.f4.body.getD .skip) Try.f4 14 12 = true := by decide +kernel
theorem chkProduceRequest13 : lawB Try.prog 14 (Try.f4.body.getD .skip) Try.f4 14 13 = true := by decide +kernel

theorem lawProduceRequest (w : World) (n : Nat) (hn : n < 256) : Calls Try.prog 4 #[.int .u8 (n : Int)] w fun e w' => ∃ v, e = .returned v ∧ v = .bool true ∧ Below w.heap.size w w' := by
  refine law_true mixed verOk (fn := Try.f4) (c := Try.f4.body.getD .skip) (m := 14) Try.func4 (by rfl) (by decide +kernel) (Nat.le_of_ble_eq_true (by kernel_rfl)) (by decide) (fun r hr => ?_) w n hn
  match r, hr with
  | 0, _ => exact chkProduceRequest0
  | 1, _ => exact chkProduceRequest1
  | 2, _ => exact chkProduceRequest2
  | 3, _ => exact chkProduceRequest3
  | 4, _ => exact chkProduceRequest4
  | 5, _ => exact chkProduceRequest5
  | 6, _ => exact chkProduceRequest6
  | 7, _ => exact chkProduceRequest7
  | 8, _ => exact chkProduceRequest8
  | 9, _ => exact chkProduceRequest9
  | 10, _ => exact chkProduceRequest10
  | 11, _ => exact chkProduceRequest11
  | 12, _ => exact chkProduceRequest12
  | 13, _ => exact chkProduceRequest13

end Go.Proofs.Ytmidelapgdpnoab.New
