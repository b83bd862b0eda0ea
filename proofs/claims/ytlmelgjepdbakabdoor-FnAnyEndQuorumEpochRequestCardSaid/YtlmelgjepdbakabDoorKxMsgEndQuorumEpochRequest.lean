/- The message EndQuorumEpochRequest. -/
import Derived.Test.YtlmelgjepdbakabDoorKxEach
import Derived.Test.YtlmelgjepdbakabDoorKxSeat
import Derived.Test.YtlmelgjepdbakabDoorKxTgW
import Derived.Test.YtlmelgjepdbakabDoorKxSnd
namespace Go.Proofs.YtlmelgjepdbakabDoor.EndQuorumEpochRequest
open Go.Kx Go.RowKit Go.Proofs
set_option maxRecDepth 100000
set_option linter.unusedVariables false

def T87 : Ty := .cons (.int .i16) (.cons (.nstr) (.cons (.arr (.cons (.str) (.cons (.arr (.cons (.int .i32) (.cons (.int .i32) (.cons (.int .i32) (.cons (.arr (.int .i32)) (.cons (.arr (.cons (.int .i32) (.cons (.uuid) (.cons (.tags) (.nil))))) (.cons (.tags) (.nil)))))))) (.cons (.tags) (.nil))))) (.cons (.arr (.cons (.str) (.cons (.str) (.cons (.int .u16) (.cons (.tags) (.nil)))))) (.cons (.tags) (.nil)))))
def T129 : Ty := .cons (.str) (.cons (.arr (.cons (.int .i32) (.cons (.int .i32) (.cons (.int .i32) (.cons (.arr (.int .i32)) (.cons (.arr (.cons (.int .i32) (.cons (.uuid) (.cons (.tags) (.nil))))) (.cons (.tags) (.nil)))))))) (.cons (.tags) (.nil)))
def T130 : Ty := .cons (.int .i32) (.cons (.int .i32) (.cons (.int .i32) (.cons (.arr (.int .i32)) (.cons (.arr (.cons (.int .i32) (.cons (.uuid) (.cons (.tags) (.nil))))) (.cons (.tags) (.nil))))))
def T131 : Ty := .cons (.int .i32) (.cons (.uuid) (.cons (.tags) (.nil)))
def T133 : Ty := .cons (.str) (.cons (.str) (.cons (.int .u16) (.cons (.tags) (.nil))))
def T : Ty := .cons (.int .i16) (.cons (.nstr) (.cons (.arr (.cons (.str) (.cons (.arr (.cons (.int .i32) (.cons (.int .i32) (.cons (.int .i32) (.cons (.arr (.int .i32)) (.cons (.arr (.cons (.int .i32) (.cons (.uuid) (.cons (.tags) (.nil))))) (.cons (.tags) (.nil)))))))) (.cons (.tags) (.nil))))) (.cons (.arr (.cons (.str) (.cons (.str) (.cons (.int .u16) (.cons (.tags) (.nil)))))) (.cons (.tags) (.nil)))))
def sch : Sch := (.val .all 1 .nstr (.arrS .all 2 none ((zeroV (.cons (.str) (.cons (.arr (.cons (.int .i32) (.cons (.int .i32) (.cons (.int .i32) (.cons (.arr (.int .i32)) (.cons (.arr (.cons (.int .i32) (.cons (.uuid) (.cons (.tags) (.nil))))) (.cons (.tags) (.nil)))))))) (.cons (.tags) (.nil))))).puts []) (.val .all 0 .str (.arrS .all 1 none ((zeroV (.cons (.int .i32) (.cons (.int .i32) (.cons (.int .i32) (.cons (.arr (.int .i32)) (.cons (.arr (.cons (.int .i32) (.cons (.uuid) (.cons (.tags) (.nil))))) (.cons (.tags) (.nil)))))))).puts []) (.val .all 0 .i32 (.val .all 1 .i32 (.val .all 2 .i32 (.arrV (.rng 0 0) 3 none .i32 (.arrS (.ge 1) 4 none ((zeroV (.cons (.int .i32) (.cons (.uuid) (.cons (.tags) (.nil))))).puts []) (.val .all 0 .i32 (.val .all 1 .uuid (.tags 2 .nil))) (.tags 5 .nil)))))) (.tags 2 .nil))) (.arrS (.ge 1) 3 none ((zeroV (.cons (.str) (.cons (.str) (.cons (.int .u16) (.cons (.tags) (.nil)))))).puts []) (.val .all 0 .str (.val .all 1 .str (.val .all 2 .u16 (.tags 3 .nil)))) (.tags 4 .nil))))
def ps : List (Nat × V) := []
def tabD : List (Nat × Rf) := [(87, .dflt T87 []), (129, .dflt T129 []), (130, .dflt T130 []), (131, .dflt T131 []), (133, .dflt T133 [])]

theorem call87 : Callable Tryd.prog 87 := ⟨Tryd.f87, Tryd.func87, by kernel_rfl, by kernel_rfl⟩
theorem call129 : Callable Tryd.prog 129 := ⟨Tryd.f129, Tryd.func129, by kernel_rfl, by kernel_rfl⟩
theorem call130 : Callable Tryd.prog 130 := ⟨Tryd.f130, Tryd.func130, by kernel_rfl, by kernel_rfl⟩
theorem call131 : Callable Tryd.prog 131 := ⟨Tryd.f131, Tryd.func131, by kernel_rfl, by kernel_rfl⟩
theorem call133 : Callable Tryd.prog 133 := ⟨Tryd.f133, Tryd.func133, by kernel_rfl, by kernel_rfl⟩
theorem dfAll (eV : Value) : ∀ x ∈ tabD, Callable Tryd.prog x.1 ∧ RfOk Tryd.prog 1 eV x.1 x.2 := (all_cons ⟨call87, chkDf_ok Tryd.func87 (by kernel_rfl)⟩ (all_cons ⟨call129, chkDf_ok Tryd.func129 (by kernel_rfl)⟩ (all_cons ⟨call130, chkDf_ok Tryd.func130 (by kernel_rfl)⟩ (all_cons ⟨call131, chkDf_ok Tryd.func131 (by kernel_rfl)⟩ (all_cons ⟨call133, chkDf_ok Tryd.func133 (by kernel_rfl)⟩ all_nil)))))
def tab : List (Nat × Rf) := tabD ++ Seat.tabR
theorem rd (eV : Value) : ∀ f a, rfAt tab f = some a → Callable Tryd.prog f ∧ RfOk Tryd.prog 1 eV f a := rfAt_all fun x hx => (List.mem_append.1 hx).elim (dfAll eV x) (Seat.rdAll eV x)
def F : AgF := ⟨56, 58, 59, 60⟩

theorem cal56 : Callable Tryd.prog 56 := ⟨Tryd.f56, Tryd.func56, by kernel_rfl, by kernel_rfl⟩
theorem cal58 : Callable Tryd.prog 58 := ⟨Tryd.f58, Tryd.func58, by kernel_rfl, by kernel_rfl⟩
theorem cal59 : Callable Tryd.prog 59 := ⟨Tryd.f59, Tryd.func59, by kernel_rfl, by kernel_rfl⟩
theorem cal60 : Callable Tryd.prog 60 := ⟨Tryd.f60, Tryd.func60, by kernel_rfl, by kernel_rfl⟩
theorem cal88 : Callable Tryd.prog 88 := ⟨Tryd.f88, Tryd.func88, by kernel_rfl, by kernel_rfl⟩
theorem cal57 : Callable Tryd.prog 57 := ⟨Tryd.f57, Tryd.func57, by kernel_rfl, by kernel_rfl⟩
theorem cal24 : Callable Tryd.prog 24 := ⟨Tryd.f24, Tryd.func24, by kernel_rfl, by kernel_rfl⟩
theorem cal25 : Callable Tryd.prog 25 := ⟨Tryd.f25, Tryd.func25, by kernel_rfl, by kernel_rfl⟩
theorem cal9 : Callable Tryd.prog 9 := ⟨Tryd.f9, Tryd.func9, by kernel_rfl, by kernel_rfl⟩
set_option maxHeartbeats 4000000 in
theorem msg (hsort : SortIs Tryd.prog 140 141 126 67) : Msg Tryd.prog 5 true 157 1 T sch (some 1) tab Snd.tab F 88 ps ps 1 where
  rdT := Seat.rdT
  rd := rd
  wr := TgW.sound1 hsort
  full := .inl rfl
  np := ⟨_, 136, Tryd.func56, by kernel_rfl, cal56⟩
  sv := ⟨_, Tryd.func58, by kernel_rfl, cal58⟩
  rfn := ⟨_, Tryd.func59, by kernel_rfl, cal59, cal88⟩
  read := ⟨_, Tryd.func88, fun eV fx h => by cases fx; kernel_rfl; kernel_rfl⟩
  at_ := ⟨_, Tryd.func60, by kernel_rfl, cal60⟩
  ok := okAll 1 (by decide +kernel)
  start := fun ver => by kernel_rfl
  ver := fun ver => by kernel_rfl
  key := by decide
  most := by decide

def Fa : AnyF := ⟨24, 12, 25, 13⟩
theorem maxIs : MaxIs Tryd.prog 24 1 := chkMax_is (gE := 1) (eV := .nilIface) (rd _) Tryd.func24 (show chkMax Tryd.prog _ 56 57 = true by kernel_rfl) cal24 Tryd.func56 (show chkNp Tryd.prog tab _ T = some (136, ps) by kernel_rfl) cal56 Tryd.func57 (by kernel_rfl) cal57 (by decide)
theorem law (hsort : SortIs Tryd.prog 140 141 126 67) {w : World} {n : Nat} {src : Value} {l : List UInt8} {tE : TypeId} {vE : Value} (hn : n < 256) (hsrc : OctIs w (fun k => k < w.heap.size) l src) (herr : w.cell? ⟨1, 0, none⟩ = some (.iface tE vE)) (hgE : 1 < w.heap.size) :
    Calls Tryd.prog 9 #[.int .u8 (n : Int), src] w fun en w' => en = .returned (.bool true) ∧ Ch (fun _ => False) w w' :=
  chkAny_calls (msg hsort) (F := Fa) Tryd.func9 (by kernel_rfl) Seat.verIs maxIs (by decide) Seat.sameIs Tryd.func25 (by kernel_rfl) cal25 hn hsrc (fun _ h => h) herr hgE
end Go.Proofs.YtlmelgjepdbakabDoor.EndQuorumEpochRequest
