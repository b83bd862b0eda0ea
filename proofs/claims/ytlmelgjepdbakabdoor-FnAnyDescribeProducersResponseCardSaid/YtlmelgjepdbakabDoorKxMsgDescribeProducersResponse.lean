/- The message DescribeProducersResponse. -/
import Derived.Test.YtlmelgjepdbakabDoorKxEach
import Derived.Test.YtlmelgjepdbakabDoorKxSeat
import Derived.Test.YtlmelgjepdbakabDoorKxTgW
import Derived.Test.YtlmelgjepdbakabDoorKxSnd
namespace Go.Proofs.YtlmelgjepdbakabDoor.DescribeProducersResponse
open Go.Kx Go.RowKit Go.Proofs
set_option maxRecDepth 100000
set_option linter.unusedVariables false

def T81 : Ty := .cons (.int .i16) (.cons (.int .i32) (.cons (.arr (.cons (.str) (.cons (.arr (.cons (.int .i32) (.cons (.int .i16) (.cons (.nstr) (.cons (.arr (.cons (.int .i64) (.cons (.int .i32) (.cons (.int .i32) (.cons (.int .i64) (.cons (.int .i32) (.cons (.int .i64) (.cons (.tags) (.nil))))))))) (.cons (.tags) (.nil))))))) (.cons (.tags) (.nil))))) (.cons (.tags) (.nil))))
def T118 : Ty := .cons (.str) (.cons (.arr (.cons (.int .i32) (.cons (.int .i16) (.cons (.nstr) (.cons (.arr (.cons (.int .i64) (.cons (.int .i32) (.cons (.int .i32) (.cons (.int .i64) (.cons (.int .i32) (.cons (.int .i64) (.cons (.tags) (.nil))))))))) (.cons (.tags) (.nil))))))) (.cons (.tags) (.nil)))
def T119 : Ty := .cons (.int .i32) (.cons (.int .i16) (.cons (.nstr) (.cons (.arr (.cons (.int .i64) (.cons (.int .i32) (.cons (.int .i32) (.cons (.int .i64) (.cons (.int .i32) (.cons (.int .i64) (.cons (.tags) (.nil))))))))) (.cons (.tags) (.nil)))))
def T120 : Ty := .cons (.int .i64) (.cons (.int .i32) (.cons (.int .i32) (.cons (.int .i64) (.cons (.int .i32) (.cons (.int .i64) (.cons (.tags) (.nil)))))))
def T : Ty := .cons (.int .i16) (.cons (.int .i32) (.cons (.arr (.cons (.str) (.cons (.arr (.cons (.int .i32) (.cons (.int .i16) (.cons (.nstr) (.cons (.arr (.cons (.int .i64) (.cons (.int .i32) (.cons (.int .i32) (.cons (.int .i64) (.cons (.int .i32) (.cons (.int .i64) (.cons (.tags) (.nil))))))))) (.cons (.tags) (.nil))))))) (.cons (.tags) (.nil))))) (.cons (.tags) (.nil))))
def sch : Sch := (.val .all 1 .i32 (.arrS .all 2 none ((zeroV (.cons (.str) (.cons (.arr (.cons (.int .i32) (.cons (.int .i16) (.cons (.nstr) (.cons (.arr (.cons (.int .i64) (.cons (.int .i32) (.cons (.int .i32) (.cons (.int .i64) (.cons (.int .i32) (.cons (.int .i64) (.cons (.tags) (.nil))))))))) (.cons (.tags) (.nil))))))) (.cons (.tags) (.nil))))).puts []) (.val .all 0 .str (.arrS .all 1 none ((zeroV (.cons (.int .i32) (.cons (.int .i16) (.cons (.nstr) (.cons (.arr (.cons (.int .i64) (.cons (.int .i32) (.cons (.int .i32) (.cons (.int .i64) (.cons (.int .i32) (.cons (.int .i64) (.cons (.tags) (.nil))))))))) (.cons (.tags) (.nil))))))).puts []) (.val .all 0 .i32 (.val .all 1 .i16 (.val .all 2 .nstr (.arrS .all 3 none ((zeroV (.cons (.int .i64) (.cons (.int .i32) (.cons (.int .i32) (.cons (.int .i64) (.cons (.int .i32) (.cons (.int .i64) (.cons (.tags) (.nil))))))))).puts [(2, .i (-1)), (3, .i (-1)), (5, .i (-1))]) (.val .all 0 .i64 (.val .all 1 .i32 (.val .all 2 .i32 (.val .all 3 .i64 (.val .all 4 .i32 (.val .all 5 .i64 (.tags 6 .nil))))))) (.tags 4 .nil))))) (.tags 2 .nil))) (.tags 3 .nil)))
def ps : List (Nat × V) := []
def tabD : List (Nat × Rf) := [(81, .dflt T81 []), (118, .dflt T118 []), (119, .dflt T119 []), (120, .dflt T120 [(2, .i (-1)), (3, .i (-1)), (5, .i (-1))])]

theorem call81 : Callable Tryd.prog 81 := ⟨Tryd.f81, Tryd.func81, by kernel_rfl, by kernel_rfl⟩
theorem call118 : Callable Tryd.prog 118 := ⟨Tryd.f118, Tryd.func118, by kernel_rfl, by kernel_rfl⟩
theorem call119 : Callable Tryd.prog 119 := ⟨Tryd.f119, Tryd.func119, by kernel_rfl, by kernel_rfl⟩
theorem call120 : Callable Tryd.prog 120 := ⟨Tryd.f120, Tryd.func120, by kernel_rfl, by kernel_rfl⟩
theorem dfAll (eV : Value) : ∀ x ∈ tabD, Callable Tryd.prog x.1 ∧ RfOk Tryd.prog 1 eV x.1 x.2 := (all_cons ⟨call81, chkDf_ok Tryd.func81 (by kernel_rfl)⟩ (all_cons ⟨call118, chkDf_ok Tryd.func118 (by kernel_rfl)⟩ (all_cons ⟨call119, chkDf_ok Tryd.func119 (by kernel_rfl)⟩ (all_cons ⟨call120, chkDf_ok Tryd.func120 (by kernel_rfl)⟩ all_nil))))
def tab : List (Nat × Rf) := tabD ++ Seat.tabR
theorem rd (eV : Value) : ∀ f a, rfAt tab f = some a → Callable Tryd.prog f ∧ RfOk Tryd.prog 1 eV f a := rfAt_all fun x hx => (List.mem_append.1 hx).elim (dfAll eV x) (Seat.rdAll eV x)
def F : AgF := ⟨41, 43, 44, 45⟩

theorem cal41 : Callable Tryd.prog 41 := ⟨Tryd.f41, Tryd.func41, by kernel_rfl, by kernel_rfl⟩
theorem cal43 : Callable Tryd.prog 43 := ⟨Tryd.f43, Tryd.func43, by kernel_rfl, by kernel_rfl⟩
theorem cal44 : Callable Tryd.prog 44 := ⟨Tryd.f44, Tryd.func44, by kernel_rfl, by kernel_rfl⟩
theorem cal45 : Callable Tryd.prog 45 := ⟨Tryd.f45, Tryd.func45, by kernel_rfl, by kernel_rfl⟩
theorem cal82 : Callable Tryd.prog 82 := ⟨Tryd.f82, Tryd.func82, by kernel_rfl, by kernel_rfl⟩
theorem cal42 : Callable Tryd.prog 42 := ⟨Tryd.f42, Tryd.func42, by kernel_rfl, by kernel_rfl⟩
theorem cal18 : Callable Tryd.prog 18 := ⟨Tryd.f18, Tryd.func18, by kernel_rfl, by kernel_rfl⟩
theorem cal19 : Callable Tryd.prog 19 := ⟨Tryd.f19, Tryd.func19, by kernel_rfl, by kernel_rfl⟩
theorem cal6 : Callable Tryd.prog 6 := ⟨Tryd.f6, Tryd.func6, by kernel_rfl, by kernel_rfl⟩
set_option maxHeartbeats 4000000 in
theorem msg (hsort : SortIs Tryd.prog 140 141 126 67) : Msg Tryd.prog 5 true 157 1 T sch (some 0) tab Snd.tab F 82 ps ps 0 where
  rdT := Seat.rdT
  rd := rd
  wr := TgW.sound1 hsort
  full := .inl rfl
  np := ⟨_, 92, Tryd.func41, by kernel_rfl, cal41⟩
  sv := ⟨_, Tryd.func43, by kernel_rfl, cal43⟩
  rfn := ⟨_, Tryd.func44, by kernel_rfl, cal44, cal82⟩
  read := ⟨_, Tryd.func82, fun eV fx h => by cases fx; kernel_rfl; kernel_rfl⟩
  at_ := ⟨_, Tryd.func45, by kernel_rfl, cal45⟩
  ok := okAll 0 (by decide +kernel)
  start := fun ver => by kernel_rfl
  ver := fun ver => by kernel_rfl
  key := by decide
  most := by decide

def Fa : AnyF := ⟨18, 12, 19, 13⟩
theorem maxIs : MaxIs Tryd.prog 18 0 := chkMax_is (gE := 1) (eV := .nilIface) (rd _) Tryd.func18 (show chkMax Tryd.prog _ 41 42 = true by kernel_rfl) cal18 Tryd.func41 (show chkNp Tryd.prog tab _ T = some (92, ps) by kernel_rfl) cal41 Tryd.func42 (by kernel_rfl) cal42 (by decide)
theorem law (hsort : SortIs Tryd.prog 140 141 126 67) {w : World} {n : Nat} {src : Value} {l : List UInt8} {tE : TypeId} {vE : Value} (hn : n < 256) (hsrc : OctIs w (fun k => k < w.heap.size) l src) (herr : w.cell? ⟨1, 0, none⟩ = some (.iface tE vE)) (hgE : 1 < w.heap.size) :
    Calls Tryd.prog 6 #[.int .u8 (n : Int), src] w fun en w' => en = .returned (.bool true) ∧ Ch (fun _ => False) w w' :=
  chkAny_calls (msg hsort) (F := Fa) Tryd.func6 (by kernel_rfl) Seat.verIs maxIs (by decide) Seat.sameIs Tryd.func19 (by kernel_rfl) cal19 hn hsrc (fun _ h => h) herr hgE
end Go.Proofs.YtlmelgjepdbakabDoor.DescribeProducersResponse
