/- The message ControlledShutdownRequest. -/
import Derived.Test.YtlmelgjepdbakaaDoorRKxEach
import Derived.Test.YtlmelgjepdbakaaDoorRKxSeat
import Derived.Test.YtlmelgjepdbakaaDoorRKxTgW
import Derived.Test.YtlmelgjepdbakaaDoorRKxSnd
namespace Go.Proofs.YtlmelgjepdbakaaDoorR.ControlledShutdownRequest
open Go.Kx Go.RowKit Go.Proofs
set_option maxRecDepth 100000
set_option linter.unusedVariables false

def T59 : Ty := .cons (.int .i16) (.cons (.int .i32) (.cons (.int .i64) (.cons (.tags) (.nil))))
def T : Ty := .cons (.int .i16) (.cons (.int .i32) (.cons (.int .i64) (.cons (.tags) (.nil))))
def sch : Sch := (.val .all 1 .i32 (.val (.ge 2) 2 .i64 (.tags 3 .nil)))
def ps : List (Nat × V) := [(2, .i (-1))]
def tabD : List (Nat × Rf) := [(59, .dflt T59 [(2, .i (-1))])]

theorem call59 : Callable Tryd.prog 59 := ⟨Tryd.f59, Tryd.func59, by kernel_rfl, by kernel_rfl⟩
theorem dfAll (eV : Value) : ∀ x ∈ tabD, Callable Tryd.prog x.1 ∧ RfOk Tryd.prog 1 eV x.1 x.2 := (all_cons ⟨call59, chkDf_ok Tryd.func59 (by kernel_rfl)⟩ all_nil)
def tab : List (Nat × Rf) := tabD ++ Seat.tabR
theorem rd (eV : Value) : ∀ f a, rfAt tab f = some a → Callable Tryd.prog f ∧ RfOk Tryd.prog 1 eV f a := rfAt_all fun x hx => (List.mem_append.1 hx).elim (dfAll eV x) (Seat.rdAll eV x)
def F : AgF := ⟨29, 31, 32, 33⟩

theorem cal29 : Callable Tryd.prog 29 := ⟨Tryd.f29, Tryd.func29, by kernel_rfl, by kernel_rfl⟩
theorem cal31 : Callable Tryd.prog 31 := ⟨Tryd.f31, Tryd.func31, by kernel_rfl, by kernel_rfl⟩
theorem cal32 : Callable Tryd.prog 32 := ⟨Tryd.f32, Tryd.func32, by kernel_rfl, by kernel_rfl⟩
theorem cal33 : Callable Tryd.prog 33 := ⟨Tryd.f33, Tryd.func33, by kernel_rfl, by kernel_rfl⟩
theorem cal60 : Callable Tryd.prog 60 := ⟨Tryd.f60, Tryd.func60, by kernel_rfl, by kernel_rfl⟩
theorem cal30 : Callable Tryd.prog 30 := ⟨Tryd.f30, Tryd.func30, by kernel_rfl, by kernel_rfl⟩
theorem cal13 : Callable Tryd.prog 13 := ⟨Tryd.f13, Tryd.func13, by kernel_rfl, by kernel_rfl⟩
theorem cal14 : Callable Tryd.prog 14 := ⟨Tryd.f14, Tryd.func14, by kernel_rfl, by kernel_rfl⟩
theorem cal4 : Callable Tryd.prog 4 := ⟨Tryd.f4, Tryd.func4, by kernel_rfl, by kernel_rfl⟩
set_option maxHeartbeats 4000000 in
theorem msg (hsort : SortIs Tryd.prog 129 130 88 79) : Msg Tryd.prog 5 true 106 1 T sch (some 3) tab Snd.tab F 60 ps ps 3 where
  rdT := Seat.rdT
  rd := rd
  wr := TgW.sound1 hsort
  full := .inl rfl
  np := ⟨_, 75, Tryd.func29, by kernel_rfl, cal29⟩
  sv := ⟨_, Tryd.func31, by kernel_rfl, cal31⟩
  rfn := ⟨_, Tryd.func32, by kernel_rfl, cal32, cal60⟩
  read := ⟨_, Tryd.func60, fun eV fx h => by cases fx; kernel_rfl; kernel_rfl⟩
  at_ := ⟨_, Tryd.func33, by kernel_rfl, cal33⟩
  ok := okAll 3 (by decide +kernel)
  start := fun ver => by kernel_rfl
  ver := fun ver => by kernel_rfl
  key := by decide
  most := by decide

def Fa : AnyF := ⟨13, 11, 14, 12⟩
theorem maxIs : MaxIs Tryd.prog 13 3 := chkMax_is (gE := 1) (eV := .nilIface) (rd _) Tryd.func13 (show chkMax Tryd.prog _ 29 30 = true by kernel_rfl) cal13 Tryd.func29 (show chkNp Tryd.prog tab _ T = some (75, ps) by kernel_rfl) cal29 Tryd.func30 (by kernel_rfl) cal30 (by decide)
theorem law (hsort : SortIs Tryd.prog 129 130 88 79) {w : World} {n : Nat} {src : Value} {l : List UInt8} {tE : TypeId} {vE : Value} (hn : n < 256) (hsrc : OctIs w (fun k => k < w.heap.size) l src) (herr : w.cell? ⟨1, 0, none⟩ = some (.iface tE vE)) (hgE : 1 < w.heap.size) :
    Calls Tryd.prog 4 #[.int .u8 (n : Int), src] w fun en w' => en = .returned (.bool true) ∧ Ch (fun _ => False) w w' :=
  chkAny_calls (msg hsort) (F := Fa) Tryd.func4 (by kernel_rfl) Seat.verIs maxIs (by decide) Seat.sameIs Tryd.func14 (by kernel_rfl) cal14 hn hsrc (fun _ h => h) herr hgE
end Go.Proofs.YtlmelgjepdbakaaDoorR.ControlledShutdownRequest
