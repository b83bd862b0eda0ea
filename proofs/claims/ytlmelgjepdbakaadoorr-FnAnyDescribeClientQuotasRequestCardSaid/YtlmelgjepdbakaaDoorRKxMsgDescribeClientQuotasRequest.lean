/- The message DescribeClientQuotasRequest. -/
import Derived.Test.YtlmelgjepdbakaaDoorRKxEach
import Derived.Test.YtlmelgjepdbakaaDoorRKxSeat
import Derived.Test.YtlmelgjepdbakaaDoorRKxTgW
import Derived.Test.YtlmelgjepdbakaaDoorRKxSnd
namespace Go.Proofs.YtlmelgjepdbakaaDoorR.DescribeClientQuotasRequest
open Go.Kx Go.RowKit Go.Proofs
set_option maxRecDepth 100000
set_option linter.unusedVariables false

def T82 : Ty := .cons (.int .i16) (.cons (.arr (.cons (.str) (.cons (.int .i8) (.cons (.nstr) (.cons (.tags) (.nil)))))) (.cons (.bool) (.cons (.tags) (.nil))))
def T123 : Ty := .cons (.str) (.cons (.int .i8) (.cons (.nstr) (.cons (.tags) (.nil))))
def T : Ty := .cons (.int .i16) (.cons (.arr (.cons (.str) (.cons (.int .i8) (.cons (.nstr) (.cons (.tags) (.nil)))))) (.cons (.bool) (.cons (.tags) (.nil))))
def sch : Sch := (.arrS .all 1 none ((zeroV (.cons (.str) (.cons (.int .i8) (.cons (.nstr) (.cons (.tags) (.nil)))))).puts []) (.val .all 0 .str (.val .all 1 .e8 (.val .all 2 .nstr (.tags 3 .nil)))) (.val .all 2 .bool (.tags 3 .nil)))
def ps : List (Nat × V) := []
def tabD : List (Nat × Rf) := [(82, .dflt T82 []), (123, .dflt T123 [])]

theorem call82 : Callable Tryd.prog 82 := ⟨Tryd.f82, Tryd.func82, by kernel_rfl, by kernel_rfl⟩
theorem call123 : Callable Tryd.prog 123 := ⟨Tryd.f123, Tryd.func123, by kernel_rfl, by kernel_rfl⟩
theorem dfAll (eV : Value) : ∀ x ∈ tabD, Callable Tryd.prog x.1 ∧ RfOk Tryd.prog 1 eV x.1 x.2 := (all_cons ⟨call82, chkDf_ok Tryd.func82 (by kernel_rfl)⟩ (all_cons ⟨call123, chkDf_ok Tryd.func123 (by kernel_rfl)⟩ all_nil))
def tab : List (Nat × Rf) := tabD ++ Seat.tabR
theorem rd (eV : Value) : ∀ f a, rfAt tab f = some a → Callable Tryd.prog f ∧ RfOk Tryd.prog 1 eV f a := rfAt_all fun x hx => (List.mem_append.1 hx).elim (dfAll eV x) (Seat.rdAll eV x)
def F : AgF := ⟨49, 51, 52, 53⟩

theorem cal49 : Callable Tryd.prog 49 := ⟨Tryd.f49, Tryd.func49, by kernel_rfl, by kernel_rfl⟩
theorem cal51 : Callable Tryd.prog 51 := ⟨Tryd.f51, Tryd.func51, by kernel_rfl, by kernel_rfl⟩
theorem cal52 : Callable Tryd.prog 52 := ⟨Tryd.f52, Tryd.func52, by kernel_rfl, by kernel_rfl⟩
theorem cal53 : Callable Tryd.prog 53 := ⟨Tryd.f53, Tryd.func53, by kernel_rfl, by kernel_rfl⟩
theorem cal83 : Callable Tryd.prog 83 := ⟨Tryd.f83, Tryd.func83, by kernel_rfl, by kernel_rfl⟩
theorem cal50 : Callable Tryd.prog 50 := ⟨Tryd.f50, Tryd.func50, by kernel_rfl, by kernel_rfl⟩
theorem cal22 : Callable Tryd.prog 22 := ⟨Tryd.f22, Tryd.func22, by kernel_rfl, by kernel_rfl⟩
theorem cal23 : Callable Tryd.prog 23 := ⟨Tryd.f23, Tryd.func23, by kernel_rfl, by kernel_rfl⟩
theorem cal8 : Callable Tryd.prog 8 := ⟨Tryd.f8, Tryd.func8, by kernel_rfl, by kernel_rfl⟩
set_option maxHeartbeats 4000000 in
theorem msg (hsort : SortIs Tryd.prog 129 130 88 79) : Msg Tryd.prog 5 true 106 1 T sch (some 1) tab Snd.tab F 83 ps ps 1 where
  rdT := Seat.rdT
  rd := rd
  wr := TgW.sound1 hsort
  full := .inl rfl
  np := ⟨_, 100, Tryd.func49, by kernel_rfl, cal49⟩
  sv := ⟨_, Tryd.func51, by kernel_rfl, cal51⟩
  rfn := ⟨_, Tryd.func52, by kernel_rfl, cal52, cal83⟩
  read := ⟨_, Tryd.func83, fun eV fx h => by cases fx; kernel_rfl; kernel_rfl⟩
  at_ := ⟨_, Tryd.func53, by kernel_rfl, cal53⟩
  ok := okAll 1 (by decide +kernel)
  start := fun ver => by kernel_rfl
  ver := fun ver => by kernel_rfl
  key := by decide
  most := by decide

def Fa : AnyF := ⟨22, 11, 23, 12⟩
theorem maxIs : MaxIs Tryd.prog 22 1 := chkMax_is (gE := 1) (eV := .nilIface) (rd _) Tryd.func22 (show chkMax Tryd.prog _ 49 50 = true by kernel_rfl) cal22 Tryd.func49 (show chkNp Tryd.prog tab _ T = some (100, ps) by kernel_rfl) cal49 Tryd.func50 (by kernel_rfl) cal50 (by decide)
theorem law (hsort : SortIs Tryd.prog 129 130 88 79) {w : World} {n : Nat} {src : Value} {l : List UInt8} {tE : TypeId} {vE : Value} (hn : n < 256) (hsrc : OctIs w (fun k => k < w.heap.size) l src) (herr : w.cell? ⟨1, 0, none⟩ = some (.iface tE vE)) (hgE : 1 < w.heap.size) :
    Calls Tryd.prog 8 #[.int .u8 (n : Int), src] w fun en w' => en = .returned (.bool true) ∧ Ch (fun _ => False) w w' :=
  chkAny_calls (msg hsort) (F := Fa) Tryd.func8 (by kernel_rfl) Seat.verIs maxIs (by decide) Seat.sameIs Tryd.func23 (by kernel_rfl) cal23 hn hsrc (fun _ h => h) herr hgE
end Go.Proofs.YtlmelgjepdbakaaDoorR.DescribeClientQuotasRequest
