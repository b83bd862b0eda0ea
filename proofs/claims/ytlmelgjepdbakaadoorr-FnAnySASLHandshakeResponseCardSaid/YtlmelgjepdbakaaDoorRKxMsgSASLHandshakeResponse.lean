/- The message SASLHandshakeResponse. -/
import Derived.Test.YtlmelgjepdbakaaDoorRKxSaid
import Derived.Test.YtlmelgjepdbakaaDoorRKxSeat
import Derived.Test.YtlmelgjepdbakaaDoorRKxSnd
namespace Go.Proofs.YtlmelgjepdbakaaDoorR.SASLHandshakeResponse
open Go.Kx Go.RowKit Go.Proofs
set_option maxRecDepth 100000
set_option linter.unusedVariables false

def T54 : Ty := .cons (.int .i16) (.cons (.int .i16) (.cons (.arr (.str)) (.nil)))
def T : Ty := .cons (.int .i16) (.cons (.int .i16) (.cons (.arr (.str)) (.nil)))
def sch : Sch := (.val .all 1 .i16 (.arrV .all 2 none .str .nil))
def ps : List (Nat × V) := []
def tabD : List (Nat × Rf) := [(54, .dflt T54 [])]

theorem call54 : Callable Tryd.prog 54 := ⟨Tryd.f54, Tryd.func54, by kernel_rfl, by kernel_rfl⟩
theorem dfAll (eV : Value) : ∀ x ∈ tabD, Callable Tryd.prog x.1 ∧ RfOk Tryd.prog 1 eV x.1 x.2 := (all_cons ⟨call54, chkDf_ok Tryd.func54 (by kernel_rfl)⟩ all_nil)
def tab : List (Nat × Rf) := tabD ++ Seat.tabR
theorem rd (eV : Value) : ∀ f a, rfAt tab f = some a → Callable Tryd.prog f ∧ RfOk Tryd.prog 1 eV f a := rfAt_all fun x hx => (List.mem_append.1 hx).elim (dfAll eV x) (Seat.rdAll eV x)
def F : AgF := ⟨24, 26, 27, 28⟩

theorem cal24 : Callable Tryd.prog 24 := ⟨Tryd.f24, Tryd.func24, by kernel_rfl, by kernel_rfl⟩
theorem cal26 : Callable Tryd.prog 26 := ⟨Tryd.f26, Tryd.func26, by kernel_rfl, by kernel_rfl⟩
theorem cal27 : Callable Tryd.prog 27 := ⟨Tryd.f27, Tryd.func27, by kernel_rfl, by kernel_rfl⟩
theorem cal28 : Callable Tryd.prog 28 := ⟨Tryd.f28, Tryd.func28, by kernel_rfl, by kernel_rfl⟩
theorem cal55 : Callable Tryd.prog 55 := ⟨Tryd.f55, Tryd.func55, by kernel_rfl, by kernel_rfl⟩
theorem cal25 : Callable Tryd.prog 25 := ⟨Tryd.f25, Tryd.func25, by kernel_rfl, by kernel_rfl⟩
theorem cal9 : Callable Tryd.prog 9 := ⟨Tryd.f9, Tryd.func9, by kernel_rfl, by kernel_rfl⟩
theorem cal10 : Callable Tryd.prog 10 := ⟨Tryd.f10, Tryd.func10, by kernel_rfl, by kernel_rfl⟩
theorem cal3 : Callable Tryd.prog 3 := ⟨Tryd.f3, Tryd.func3, by kernel_rfl, by kernel_rfl⟩
set_option maxHeartbeats 4000000 in
theorem msg : Msg Tryd.prog 5 false 106 1 T sch none tab Snd.tab F 55 ps ps 1 where
  rdT := Seat.rdT
  rd := rd
  wr := Snd.sound0
  full := .inr fun v => by unfold sch; simp [noTags]
  np := ⟨_, 69, Tryd.func24, by kernel_rfl, cal24⟩
  sv := ⟨_, Tryd.func26, by kernel_rfl, cal26⟩
  rfn := ⟨_, Tryd.func27, by kernel_rfl, cal27, cal55⟩
  read := ⟨_, Tryd.func55, fun eV fx h => by cases fx; kernel_rfl; exact absurd (h rfl) (by decide)⟩
  at_ := ⟨_, Tryd.func28, by kernel_rfl, cal28⟩
  ok := okAll 1 (by decide +kernel)
  start := fun ver => by kernel_rfl
  ver := fun ver => by kernel_rfl
  key := by decide
  most := by decide

def Fa : AnyF := ⟨9, 11, 10, 12⟩
theorem maxIs : MaxIs Tryd.prog 9 1 := chkMax_is (gE := 1) (eV := .nilIface) (rd _) Tryd.func9 (show chkMax Tryd.prog _ 24 25 = true by kernel_rfl) cal9 Tryd.func24 (show chkNp Tryd.prog tab _ T = some (69, ps) by kernel_rfl) cal24 Tryd.func25 (by kernel_rfl) cal25 (by decide)
theorem law {w : World} {n : Nat} {src : Value} {l : List UInt8} {tE : TypeId} {vE : Value} (hn : n < 256) (hsrc : OctIs w (fun k => k < w.heap.size) l src) (herr : w.cell? ⟨1, 0, none⟩ = some (.iface tE vE)) (hgE : 1 < w.heap.size) :
    Calls Tryd.prog 3 #[.int .u8 (n : Int), src] w fun en w' => en = .returned (.bool true) ∧ Ch (fun _ => False) w w' :=
  chkAny_calls msg (F := Fa) Tryd.func3 (by kernel_rfl) Seat.verIs maxIs (by decide) Seat.sameIs Tryd.func10 (by kernel_rfl) cal10 hn hsrc (fun _ h => h) herr hgE
end Go.Proofs.YtlmelgjepdbakaaDoorR.SASLHandshakeResponse
