/- The message PushTelemetryRequest. -/
import Derived.Test.YtlmelgjepdbakaaDoorRKxEach
import Derived.Test.YtlmelgjepdbakaaDoorRKxSeat
import Derived.Test.YtlmelgjepdbakaaDoorRKxTgW
import Derived.Test.YtlmelgjepdbakaaDoorRKxSnd
namespace Go.Proofs.YtlmelgjepdbakaaDoorR.PushTelemetryRequest
open Go.Kx Go.RowKit Go.Proofs
set_option maxRecDepth 100000
set_option linter.unusedVariables false

def T66 : Ty := .cons (.int .i16) (.cons (.uuid) (.cons (.int .i32) (.cons (.bool) (.cons (.int .i8) (.cons (.bytes) (.cons (.tags) (.nil)))))))
def T : Ty := .cons (.int .i16) (.cons (.uuid) (.cons (.int .i32) (.cons (.bool) (.cons (.int .i8) (.cons (.bytes) (.cons (.tags) (.nil)))))))
def sch : Sch := (.val .all 1 .uuid (.val .all 2 .i32 (.val .all 3 .bool (.val .all 4 .i8 (.val .all 5 .byt (.tags 6 .nil))))))
def ps : List (Nat × V) := []
def tabD : List (Nat × Rf) := [(66, .dflt T66 [])]

theorem call66 : Callable Tryd.prog 66 := ⟨Tryd.f66, Tryd.func66, by kernel_rfl, by kernel_rfl⟩
theorem dfAll (eV : Value) : ∀ x ∈ tabD, Callable Tryd.prog x.1 ∧ RfOk Tryd.prog 1 eV x.1 x.2 := (all_cons ⟨call66, chkDf_ok Tryd.func66 (by kernel_rfl)⟩ all_nil)
def tab : List (Nat × Rf) := tabD ++ Seat.tabR
theorem rd (eV : Value) : ∀ f a, rfAt tab f = some a → Callable Tryd.prog f ∧ RfOk Tryd.prog 1 eV f a := rfAt_all fun x hx => (List.mem_append.1 hx).elim (dfAll eV x) (Seat.rdAll eV x)
def F : AgF := ⟨34, 36, 37, 38⟩

theorem cal34 : Callable Tryd.prog 34 := ⟨Tryd.f34, Tryd.func34, by kernel_rfl, by kernel_rfl⟩
theorem cal36 : Callable Tryd.prog 36 := ⟨Tryd.f36, Tryd.func36, by kernel_rfl, by kernel_rfl⟩
theorem cal37 : Callable Tryd.prog 37 := ⟨Tryd.f37, Tryd.func37, by kernel_rfl, by kernel_rfl⟩
theorem cal38 : Callable Tryd.prog 38 := ⟨Tryd.f38, Tryd.func38, by kernel_rfl, by kernel_rfl⟩
theorem cal67 : Callable Tryd.prog 67 := ⟨Tryd.f67, Tryd.func67, by kernel_rfl, by kernel_rfl⟩
theorem cal35 : Callable Tryd.prog 35 := ⟨Tryd.f35, Tryd.func35, by kernel_rfl, by kernel_rfl⟩
theorem cal15 : Callable Tryd.prog 15 := ⟨Tryd.f15, Tryd.func15, by kernel_rfl, by kernel_rfl⟩
theorem cal16 : Callable Tryd.prog 16 := ⟨Tryd.f16, Tryd.func16, by kernel_rfl, by kernel_rfl⟩
theorem cal5 : Callable Tryd.prog 5 := ⟨Tryd.f5, Tryd.func5, by kernel_rfl, by kernel_rfl⟩
set_option maxHeartbeats 4000000 in
theorem msg (hsort : SortIs Tryd.prog 129 130 88 79) : Msg Tryd.prog 5 true 106 1 T sch (some 0) tab Snd.tab F 67 ps ps 0 where
  rdT := Seat.rdT
  rd := rd
  wr := TgW.sound1 hsort
  full := .inl rfl
  np := ⟨_, 82, Tryd.func34, by kernel_rfl, cal34⟩
  sv := ⟨_, Tryd.func36, by kernel_rfl, cal36⟩
  rfn := ⟨_, Tryd.func37, by kernel_rfl, cal37, cal67⟩
  read := ⟨_, Tryd.func67, fun eV fx h => by cases fx; kernel_rfl; kernel_rfl⟩
  at_ := ⟨_, Tryd.func38, by kernel_rfl, cal38⟩
  ok := okAll 0 (by decide +kernel)
  start := fun ver => by kernel_rfl
  ver := fun ver => by kernel_rfl
  key := by decide
  most := by decide

def Fa : AnyF := ⟨15, 11, 16, 12⟩
theorem maxIs : MaxIs Tryd.prog 15 0 := chkMax_is (gE := 1) (eV := .nilIface) (rd _) Tryd.func15 (show chkMax Tryd.prog _ 34 35 = true by kernel_rfl) cal15 Tryd.func34 (show chkNp Tryd.prog tab _ T = some (82, ps) by kernel_rfl) cal34 Tryd.func35 (by kernel_rfl) cal35 (by decide)
theorem law (hsort : SortIs Tryd.prog 129 130 88 79) {w : World} {n : Nat} {src : Value} {l : List UInt8} {tE : TypeId} {vE : Value} (hn : n < 256) (hsrc : OctIs w (fun k => k < w.heap.size) l src) (herr : w.cell? ⟨1, 0, none⟩ = some (.iface tE vE)) (hgE : 1 < w.heap.size) :
    Calls Tryd.prog 5 #[.int .u8 (n : Int), src] w fun en w' => en = .returned (.bool true) ∧ Ch (fun _ => False) w w' :=
  chkAny_calls (msg hsort) (F := Fa) Tryd.func5 (by kernel_rfl) Seat.verIs maxIs (by decide) Seat.sameIs Tryd.func16 (by kernel_rfl) cal16 hn hsrc (fun _ h => h) herr hgE
end Go.Proofs.YtlmelgjepdbakaaDoorR.PushTelemetryRequest
