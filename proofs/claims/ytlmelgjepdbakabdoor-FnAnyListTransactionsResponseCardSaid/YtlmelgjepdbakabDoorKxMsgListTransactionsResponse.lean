/- The message ListTransactionsResponse. -/
import Derived.Test.YtlmelgjepdbakabDoorKxEach
import Derived.Test.YtlmelgjepdbakabDoorKxSeat
import Derived.Test.YtlmelgjepdbakabDoorKxTgW
import Derived.Test.YtlmelgjepdbakabDoorKxSnd
namespace Go.Proofs.YtlmelgjepdbakabDoor.ListTransactionsResponse
open Go.Kx Go.RowKit Go.Proofs
set_option maxRecDepth 100000
set_option linter.unusedVariables false

def T61 : Ty := .cons (.int .i16) (.cons (.int .i32) (.cons (.int .i16) (.cons (.arr (.str)) (.cons (.arr (.cons (.str) (.cons (.int .i64) (.cons (.str) (.cons (.tags) (.nil)))))) (.cons (.tags) (.nil))))))
def T101 : Ty := .cons (.str) (.cons (.int .i64) (.cons (.str) (.cons (.tags) (.nil))))
def T : Ty := .cons (.int .i16) (.cons (.int .i32) (.cons (.int .i16) (.cons (.arr (.str)) (.cons (.arr (.cons (.str) (.cons (.int .i64) (.cons (.str) (.cons (.tags) (.nil)))))) (.cons (.tags) (.nil))))))
def sch : Sch := (.val .all 1 .i32 (.val .all 2 .i16 (.arrV .all 3 none .str (.arrS .all 4 none ((zeroV (.cons (.str) (.cons (.int .i64) (.cons (.str) (.cons (.tags) (.nil)))))).puts []) (.val .all 0 .str (.val .all 1 .i64 (.val .all 2 .str (.tags 3 .nil)))) (.tags 5 .nil)))))
def ps : List (Nat × V) := []
def tabD : List (Nat × Rf) := [(61, .dflt T61 []), (101, .dflt T101 [])]

theorem call61 : Callable Tryd.prog 61 := ⟨Tryd.f61, Tryd.func61, by kernel_rfl, by kernel_rfl⟩
theorem call101 : Callable Tryd.prog 101 := ⟨Tryd.f101, Tryd.func101, by kernel_rfl, by kernel_rfl⟩
theorem dfAll (eV : Value) : ∀ x ∈ tabD, Callable Tryd.prog x.1 ∧ RfOk Tryd.prog 1 eV x.1 x.2 := (all_cons ⟨call61, chkDf_ok Tryd.func61 (by kernel_rfl)⟩ (all_cons ⟨call101, chkDf_ok Tryd.func101 (by kernel_rfl)⟩ all_nil))
def tab : List (Nat × Rf) := tabD ++ Seat.tabR
theorem rd (eV : Value) : ∀ f a, rfAt tab f = some a → Callable Tryd.prog f ∧ RfOk Tryd.prog 1 eV f a := rfAt_all fun x hx => (List.mem_append.1 hx).elim (dfAll eV x) (Seat.rdAll eV x)
def F : AgF := ⟨26, 28, 29, 30⟩

theorem cal26 : Callable Tryd.prog 26 := ⟨Tryd.f26, Tryd.func26, by kernel_rfl, by kernel_rfl⟩
theorem cal28 : Callable Tryd.prog 28 := ⟨Tryd.f28, Tryd.func28, by kernel_rfl, by kernel_rfl⟩
theorem cal29 : Callable Tryd.prog 29 := ⟨Tryd.f29, Tryd.func29, by kernel_rfl, by kernel_rfl⟩
theorem cal30 : Callable Tryd.prog 30 := ⟨Tryd.f30, Tryd.func30, by kernel_rfl, by kernel_rfl⟩
theorem cal62 : Callable Tryd.prog 62 := ⟨Tryd.f62, Tryd.func62, by kernel_rfl, by kernel_rfl⟩
theorem cal27 : Callable Tryd.prog 27 := ⟨Tryd.f27, Tryd.func27, by kernel_rfl, by kernel_rfl⟩
theorem cal10 : Callable Tryd.prog 10 := ⟨Tryd.f10, Tryd.func10, by kernel_rfl, by kernel_rfl⟩
theorem cal11 : Callable Tryd.prog 11 := ⟨Tryd.f11, Tryd.func11, by kernel_rfl, by kernel_rfl⟩
theorem cal3 : Callable Tryd.prog 3 := ⟨Tryd.f3, Tryd.func3, by kernel_rfl, by kernel_rfl⟩
set_option maxHeartbeats 4000000 in
theorem msg (hsort : SortIs Tryd.prog 140 141 126 67) : Msg Tryd.prog 5 true 157 1 T sch (some 0) tab Snd.tab F 62 ps ps 2 where
  rdT := Seat.rdT
  rd := rd
  wr := TgW.sound1 hsort
  full := .inl rfl
  np := ⟨_, 56, Tryd.func26, by kernel_rfl, cal26⟩
  sv := ⟨_, Tryd.func28, by kernel_rfl, cal28⟩
  rfn := ⟨_, Tryd.func29, by kernel_rfl, cal29, cal62⟩
  read := ⟨_, Tryd.func62, fun eV fx h => by cases fx; kernel_rfl; kernel_rfl⟩
  at_ := ⟨_, Tryd.func30, by kernel_rfl, cal30⟩
  ok := okAll 2 (by decide +kernel)
  start := fun ver => by kernel_rfl
  ver := fun ver => by kernel_rfl
  key := by decide
  most := by decide

def Fa : AnyF := ⟨10, 12, 11, 13⟩
theorem maxIs : MaxIs Tryd.prog 10 2 := chkMax_is (gE := 1) (eV := .nilIface) (rd _) Tryd.func10 (show chkMax Tryd.prog _ 26 27 = true by kernel_rfl) cal10 Tryd.func26 (show chkNp Tryd.prog tab _ T = some (56, ps) by kernel_rfl) cal26 Tryd.func27 (by kernel_rfl) cal27 (by decide)
theorem law (hsort : SortIs Tryd.prog 140 141 126 67) {w : World} {n : Nat} {src : Value} {l : List UInt8} {tE : TypeId} {vE : Value} (hn : n < 256) (hsrc : OctIs w (fun k => k < w.heap.size) l src) (herr : w.cell? ⟨1, 0, none⟩ = some (.iface tE vE)) (hgE : 1 < w.heap.size) :
    Calls Tryd.prog 3 #[.int .u8 (n : Int), src] w fun en w' => en = .returned (.bool true) ∧ Ch (fun _ => False) w w' :=
  chkAny_calls (msg hsort) (F := Fa) Tryd.func3 (by kernel_rfl) Seat.verIs maxIs (by decide) Seat.sameIs Tryd.func11 (by kernel_rfl) cal11 hn hsrc (fun _ h => h) herr hgE
end Go.Proofs.YtlmelgjepdbakabDoor.ListTransactionsResponse
