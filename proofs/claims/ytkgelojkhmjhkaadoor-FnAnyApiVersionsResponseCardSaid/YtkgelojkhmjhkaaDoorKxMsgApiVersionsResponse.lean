/- The message ApiVersionsResponse: its law. -/
import Derived.Test.YtkgelojkhmjhkaaDoorKxKnD
import Derived.Test.YtkgelojkhmjhkaaDoorKxKnT
import Derived.Test.YtkgelojkhmjhkaaDoorKxKnM
namespace Go.Proofs.YtkgelojkhmjhkaaDoor.ApiVersionsResponse
open Go.Kx Go.RowKit Go.Proofs
set_option maxRecDepth 100000
set_option linter.unusedSimpArgs false
set_option linter.unusedVariables false

def F : AgF := ⟨8, 10, 11, 12⟩
theorem cal8 : Callable Tryd.prog 8 := ⟨Tryd.f8, Tryd.func8, by kernel_rfl, by kernel_rfl⟩
theorem cal10 : Callable Tryd.prog 10 := ⟨Tryd.f10, Tryd.func10, by kernel_rfl, by kernel_rfl⟩
theorem cal11 : Callable Tryd.prog 11 := ⟨Tryd.f11, Tryd.func11, by kernel_rfl, by kernel_rfl⟩
theorem cal12 : Callable Tryd.prog 12 := ⟨Tryd.f12, Tryd.func12, by kernel_rfl, by kernel_rfl⟩
theorem cal14 : Callable Tryd.prog 14 := ⟨Tryd.f14, Tryd.func14, by kernel_rfl, by kernel_rfl⟩
theorem cal9 : Callable Tryd.prog 9 := ⟨Tryd.f9, Tryd.func9, by kernel_rfl, by kernel_rfl⟩
theorem cal4 : Callable Tryd.prog 4 := ⟨Tryd.f4, Tryd.func4, by kernel_rfl, by kernel_rfl⟩
theorem cal5 : Callable Tryd.prog 5 := ⟨Tryd.f5, Tryd.func5, by kernel_rfl, by kernel_rfl⟩
theorem cal3 : Callable Tryd.prog 3 := ⟨Tryd.f3, Tryd.func3, by kernel_rfl, by kernel_rfl⟩
set_option maxHeartbeats 4000000 in
theorem msg (hsort : SortIs Tryd.prog 57 58 55 53) : MsgE Tryd.prog 5 45 1 T sch (some 3) tab F 14 ps ps 5 where
  rd := rd
  u8 := (TgW.sound1 hsort).u8
  np := ⟨_, Tryd.func8, by kernel_rfl, cal8⟩
  sv := ⟨_, Tryd.func10, by kernel_rfl, cal10⟩
  rfn := ⟨_, Tryd.func11, by kernel_rfl, cal11, cal14⟩
  read := fun h0 hm hb hrep herr hgE hsrc hS => readIs hb hrep herr hgE hsrc hS
  at_ := ⟨cal12, fun h0 hm hi hg hver hl => writeIs hsort hi hg hver hl⟩
  ok := okSch
  start := fun ver => by kernel_rfl
  ver := fun ver => by kernel_rfl
  key := by decide
  most := by decide

theorem maxIs : MaxIs Tryd.prog 4 5 := chkMax_is (gE := 1) (eV := .nilIface) (rd _) Tryd.func4 (show chkMax Tryd.prog _ 8 9 = true by kernel_rfl) cal4 Tryd.func8 (show chkNp Tryd.prog tab _ T = some (45, ps) by kernel_rfl) cal8 Tryd.func9 (by kernel_rfl) cal9 (by decide)
def Fa : AnyF := ⟨4, 6, 5, 7⟩
theorem law (hsort : SortIs Tryd.prog 57 58 55 53) {w : World} {n : Nat} {src : Value} {l : List UInt8} {tE : TypeId} {vE : Value} (hn : n < 256) (hsrc : OctIs w (fun k => k < w.heap.size) l src) (herr : w.cell? ⟨1, 0, none⟩ = some (.iface tE vE)) (hgE : 1 < w.heap.size) :
    Calls Tryd.prog 3 #[.int .u8 (n : Int), src] w fun en w' => en = .returned (.bool true) ∧ Ch (fun _ => False) w w' :=
  chkAnyE_calls (msg hsort) (F := Fa) Tryd.func3 (by kernel_rfl) Seat.verIs maxIs (by decide) Seat.sameIs Tryd.func5 (by kernel_rfl) cal5 hn hsrc (fun _ h => h) herr hgE
end Go.Proofs.YtkgelojkhmjhkaaDoor.ApiVersionsResponse
