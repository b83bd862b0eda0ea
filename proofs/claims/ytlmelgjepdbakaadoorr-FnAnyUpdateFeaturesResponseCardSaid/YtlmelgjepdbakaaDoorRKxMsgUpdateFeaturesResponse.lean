/- The message UpdateFeaturesResponse. -/
import Derived.Test.YtlmelgjepdbakaaDoorRKxEach
import Derived.Test.YtlmelgjepdbakaaDoorRKxSeat
import Derived.Test.YtlmelgjepdbakaaDoorRKxTgW
import Derived.Test.YtlmelgjepdbakaaDoorRKxSnd
namespace Go.Proofs.YtlmelgjepdbakaaDoorR.UpdateFeaturesResponse
open Go.Kx Go.RowKit Go.Proofs
set_option maxRecDepth 100000
set_option linter.unusedVariables false

def T77 : Ty := .cons (.int .i16) (.cons (.int .i32) (.cons (.int .i16) (.cons (.nstr) (.cons (.arr (.cons (.str) (.cons (.int .i16) (.cons (.nstr) (.cons (.tags) (.nil)))))) (.cons (.tags) (.nil))))))
def T122 : Ty := .cons (.str) (.cons (.int .i16) (.cons (.nstr) (.cons (.tags) (.nil))))
def T : Ty := .cons (.int .i16) (.cons (.int .i32) (.cons (.int .i16) (.cons (.nstr) (.cons (.arr (.cons (.str) (.cons (.int .i16) (.cons (.nstr) (.cons (.tags) (.nil)))))) (.cons (.tags) (.nil))))))
def sch : Sch := (.val .all 1 .i32 (.val .all 2 .i16 (.val .all 3 .nstr (.arrS (.rng 0 1) 4 none ((zeroV (.cons (.str) (.cons (.int .i16) (.cons (.nstr) (.cons (.tags) (.nil)))))).puts []) (.val .all 0 .str (.val .all 1 .i16 (.val .all 2 .nstr (.tags 3 .nil)))) (.tags 5 .nil)))))
def ps : List (Nat × V) := []
def tabD : List (Nat × Rf) := [(77, .dflt T77 []), (122, .dflt T122 [])]

theorem call77 : Callable Tryd.prog 77 := ⟨Tryd.f77, Tryd.func77, by kernel_rfl, by kernel_rfl⟩
theorem call122 : Callable Tryd.prog 122 := ⟨Tryd.f122, Tryd.func122, by kernel_rfl, by kernel_rfl⟩
theorem dfAll (eV : Value) : ∀ x ∈ tabD, Callable Tryd.prog x.1 ∧ RfOk Tryd.prog 1 eV x.1 x.2 := (all_cons ⟨call77, chkDf_ok Tryd.func77 (by kernel_rfl)⟩ (all_cons ⟨call122, chkDf_ok Tryd.func122 (by kernel_rfl)⟩ all_nil))
def tab : List (Nat × Rf) := tabD ++ Seat.tabR
theorem rd (eV : Value) : ∀ f a, rfAt tab f = some a → Callable Tryd.prog f ∧ RfOk Tryd.prog 1 eV f a := rfAt_all fun x hx => (List.mem_append.1 hx).elim (dfAll eV x) (Seat.rdAll eV x)
def F : AgF := ⟨44, 46, 47, 48⟩

theorem cal44 : Callable Tryd.prog 44 := ⟨Tryd.f44, Tryd.func44, by kernel_rfl, by kernel_rfl⟩
theorem cal46 : Callable Tryd.prog 46 := ⟨Tryd.f46, Tryd.func46, by kernel_rfl, by kernel_rfl⟩
theorem cal47 : Callable Tryd.prog 47 := ⟨Tryd.f47, Tryd.func47, by kernel_rfl, by kernel_rfl⟩
theorem cal48 : Callable Tryd.prog 48 := ⟨Tryd.f48, Tryd.func48, by kernel_rfl, by kernel_rfl⟩
theorem cal78 : Callable Tryd.prog 78 := ⟨Tryd.f78, Tryd.func78, by kernel_rfl, by kernel_rfl⟩
theorem cal45 : Callable Tryd.prog 45 := ⟨Tryd.f45, Tryd.func45, by kernel_rfl, by kernel_rfl⟩
theorem cal20 : Callable Tryd.prog 20 := ⟨Tryd.f20, Tryd.func20, by kernel_rfl, by kernel_rfl⟩
theorem cal21 : Callable Tryd.prog 21 := ⟨Tryd.f21, Tryd.func21, by kernel_rfl, by kernel_rfl⟩
theorem cal7 : Callable Tryd.prog 7 := ⟨Tryd.f7, Tryd.func7, by kernel_rfl, by kernel_rfl⟩
set_option maxHeartbeats 4000000 in
theorem msg (hsort : SortIs Tryd.prog 129 130 88 79) : Msg Tryd.prog 5 true 106 1 T sch (some 0) tab Snd.tab F 78 ps ps 2 where
  rdT := Seat.rdT
  rd := rd
  wr := TgW.sound1 hsort
  full := .inl rfl
  np := ⟨_, 93, Tryd.func44, by kernel_rfl, cal44⟩
  sv := ⟨_, Tryd.func46, by kernel_rfl, cal46⟩
  rfn := ⟨_, Tryd.func47, by kernel_rfl, cal47, cal78⟩
  read := ⟨_, Tryd.func78, fun eV fx h => by cases fx; kernel_rfl; kernel_rfl⟩
  at_ := ⟨_, Tryd.func48, by kernel_rfl, cal48⟩
  ok := okAll 2 (by decide +kernel)
  start := fun ver => by kernel_rfl
  ver := fun ver => by kernel_rfl
  key := by decide
  most := by decide

def Fa : AnyF := ⟨20, 11, 21, 12⟩
theorem maxIs : MaxIs Tryd.prog 20 2 := chkMax_is (gE := 1) (eV := .nilIface) (rd _) Tryd.func20 (show chkMax Tryd.prog _ 44 45 = true by kernel_rfl) cal20 Tryd.func44 (show chkNp Tryd.prog tab _ T = some (93, ps) by kernel_rfl) cal44 Tryd.func45 (by kernel_rfl) cal45 (by decide)
theorem law (hsort : SortIs Tryd.prog 129 130 88 79) {w : World} {n : Nat} {src : Value} {l : List UInt8} {tE : TypeId} {vE : Value} (hn : n < 256) (hsrc : OctIs w (fun k => k < w.heap.size) l src) (herr : w.cell? ⟨1, 0, none⟩ = some (.iface tE vE)) (hgE : 1 < w.heap.size) :
    Calls Tryd.prog 7 #[.int .u8 (n : Int), src] w fun en w' => en = .returned (.bool true) ∧ Ch (fun _ => False) w w' :=
  chkAny_calls (msg hsort) (F := Fa) Tryd.func7 (by kernel_rfl) Seat.verIs maxIs (by decide) Seat.sameIs Tryd.func21 (by kernel_rfl) cal21 hn hsrc (fun _ h => h) herr hgE
end Go.Proofs.YtlmelgjepdbakaaDoorR.UpdateFeaturesResponse
