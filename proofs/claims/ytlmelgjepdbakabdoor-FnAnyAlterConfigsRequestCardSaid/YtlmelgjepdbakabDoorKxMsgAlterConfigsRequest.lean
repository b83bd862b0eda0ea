/- The message AlterConfigsRequest. -/
import Derived.Test.YtlmelgjepdbakabDoorKxEach
import Derived.Test.YtlmelgjepdbakabDoorKxSeat
import Derived.Test.YtlmelgjepdbakabDoorKxTgW
import Derived.Test.YtlmelgjepdbakabDoorKxSnd
namespace Go.Proofs.YtlmelgjepdbakabDoor.AlterConfigsRequest
open Go.Kx Go.RowKit Go.Proofs
set_option maxRecDepth 100000
set_option linter.unusedVariables false

def T73 : Ty := .cons (.int .i16) (.cons (.arr (.cons (.int .i8) (.cons (.str) (.cons (.arr (.cons (.str) (.cons (.nstr) (.cons (.tags) (.nil))))) (.cons (.tags) (.nil)))))) (.cons (.bool) (.cons (.tags) (.nil))))
def T109 : Ty := .cons (.int .i8) (.cons (.str) (.cons (.arr (.cons (.str) (.cons (.nstr) (.cons (.tags) (.nil))))) (.cons (.tags) (.nil))))
def T111 : Ty := .cons (.str) (.cons (.nstr) (.cons (.tags) (.nil)))
def T : Ty := .cons (.int .i16) (.cons (.arr (.cons (.int .i8) (.cons (.str) (.cons (.arr (.cons (.str) (.cons (.nstr) (.cons (.tags) (.nil))))) (.cons (.tags) (.nil)))))) (.cons (.bool) (.cons (.tags) (.nil))))
def sch : Sch := (.arrS .all 1 none ((zeroV (.cons (.int .i8) (.cons (.str) (.cons (.arr (.cons (.str) (.cons (.nstr) (.cons (.tags) (.nil))))) (.cons (.tags) (.nil)))))).puts []) (.val .all 0 .e8 (.val .all 1 .str (.arrS .all 2 none ((zeroV (.cons (.str) (.cons (.nstr) (.cons (.tags) (.nil))))).puts []) (.val .all 0 .str (.val .all 1 .nstr (.tags 2 .nil))) (.tags 3 .nil)))) (.val .all 2 .bool (.tags 3 .nil)))
def ps : List (Nat × V) := []
def tabD : List (Nat × Rf) := [(73, .dflt T73 []), (109, .dflt T109 []), (111, .dflt T111 [])]

theorem call73 : Callable Tryd.prog 73 := ⟨Tryd.f73, Tryd.func73, by kernel_rfl, by kernel_rfl⟩
theorem call109 : Callable Tryd.prog 109 := ⟨Tryd.f109, Tryd.func109, by kernel_rfl, by kernel_rfl⟩
theorem call111 : Callable Tryd.prog 111 := ⟨Tryd.f111, Tryd.func111, by kernel_rfl, by kernel_rfl⟩
theorem dfAll (eV : Value) : ∀ x ∈ tabD, Callable Tryd.prog x.1 ∧ RfOk Tryd.prog 1 eV x.1 x.2 := (all_cons ⟨call73, chkDf_ok Tryd.func73 (by kernel_rfl)⟩ (all_cons ⟨call109, chkDf_ok Tryd.func109 (by kernel_rfl)⟩ (all_cons ⟨call111, chkDf_ok Tryd.func111 (by kernel_rfl)⟩ all_nil)))
def tab : List (Nat × Rf) := tabD ++ Seat.tabR
theorem rd (eV : Value) : ∀ f a, rfAt tab f = some a → Callable Tryd.prog f ∧ RfOk Tryd.prog 1 eV f a := rfAt_all fun x hx => (List.mem_append.1 hx).elim (dfAll eV x) (Seat.rdAll eV x)
def F : AgF := ⟨31, 33, 34, 35⟩

theorem cal31 : Callable Tryd.prog 31 := ⟨Tryd.f31, Tryd.func31, by kernel_rfl, by kernel_rfl⟩
theorem cal33 : Callable Tryd.prog 33 := ⟨Tryd.f33, Tryd.func33, by kernel_rfl, by kernel_rfl⟩
theorem cal34 : Callable Tryd.prog 34 := ⟨Tryd.f34, Tryd.func34, by kernel_rfl, by kernel_rfl⟩
theorem cal35 : Callable Tryd.prog 35 := ⟨Tryd.f35, Tryd.func35, by kernel_rfl, by kernel_rfl⟩
theorem cal74 : Callable Tryd.prog 74 := ⟨Tryd.f74, Tryd.func74, by kernel_rfl, by kernel_rfl⟩
theorem cal32 : Callable Tryd.prog 32 := ⟨Tryd.f32, Tryd.func32, by kernel_rfl, by kernel_rfl⟩
theorem cal14 : Callable Tryd.prog 14 := ⟨Tryd.f14, Tryd.func14, by kernel_rfl, by kernel_rfl⟩
theorem cal15 : Callable Tryd.prog 15 := ⟨Tryd.f15, Tryd.func15, by kernel_rfl, by kernel_rfl⟩
theorem cal4 : Callable Tryd.prog 4 := ⟨Tryd.f4, Tryd.func4, by kernel_rfl, by kernel_rfl⟩
set_option maxHeartbeats 4000000 in
theorem msg (hsort : SortIs Tryd.prog 140 141 126 67) : Msg Tryd.prog 5 true 157 1 T sch (some 2) tab Snd.tab F 74 ps ps 2 where
  rdT := Seat.rdT
  rd := rd
  wr := TgW.sound1 hsort
  full := .inl rfl
  np := ⟨_, 70, Tryd.func31, by kernel_rfl, cal31⟩
  sv := ⟨_, Tryd.func33, by kernel_rfl, cal33⟩
  rfn := ⟨_, Tryd.func34, by kernel_rfl, cal34, cal74⟩
  read := ⟨_, Tryd.func74, fun eV fx h => by cases fx; kernel_rfl; kernel_rfl⟩
  at_ := ⟨_, Tryd.func35, by kernel_rfl, cal35⟩
  ok := okAll 2 (by decide +kernel)
  start := fun ver => by kernel_rfl
  ver := fun ver => by kernel_rfl
  key := by decide
  most := by decide

def Fa : AnyF := ⟨14, 12, 15, 13⟩
theorem maxIs : MaxIs Tryd.prog 14 2 := chkMax_is (gE := 1) (eV := .nilIface) (rd _) Tryd.func14 (show chkMax Tryd.prog _ 31 32 = true by kernel_rfl) cal14 Tryd.func31 (show chkNp Tryd.prog tab _ T = some (70, ps) by kernel_rfl) cal31 Tryd.func32 (by kernel_rfl) cal32 (by decide)
theorem law (hsort : SortIs Tryd.prog 140 141 126 67) {w : World} {n : Nat} {src : Value} {l : List UInt8} {tE : TypeId} {vE : Value} (hn : n < 256) (hsrc : OctIs w (fun k => k < w.heap.size) l src) (herr : w.cell? ⟨1, 0, none⟩ = some (.iface tE vE)) (hgE : 1 < w.heap.size) :
    Calls Tryd.prog 4 #[.int .u8 (n : Int), src] w fun en w' => en = .returned (.bool true) ∧ Ch (fun _ => False) w w' :=
  chkAny_calls (msg hsort) (F := Fa) Tryd.func4 (by kernel_rfl) Seat.verIs maxIs (by decide) Seat.sameIs Tryd.func15 (by kernel_rfl) cal15 hn hsrc (fun _ h => h) herr hgE
end Go.Proofs.YtlmelgjepdbakabDoor.AlterConfigsRequest
