/- The message DeleteACLsResponse. -/
import Derived.Test.YtlmelgjepdbakabDoorKxEach
import Derived.Test.YtlmelgjepdbakabDoorKxSeat
import Derived.Test.YtlmelgjepdbakabDoorKxTgW
import Derived.Test.YtlmelgjepdbakabDoorKxSnd
namespace Go.Proofs.YtlmelgjepdbakabDoor.DeleteACLsResponse
open Go.Kx Go.RowKit Go.Proofs
set_option maxRecDepth 100000
set_option linter.unusedVariables false

def T83 : Ty := .cons (.int .i16) (.cons (.int .i32) (.cons (.arr (.cons (.int .i16) (.cons (.nstr) (.cons (.arr (.cons (.int .i16) (.cons (.nstr) (.cons (.int .i8) (.cons (.str) (.cons (.int .i8) (.cons (.str) (.cons (.str) (.cons (.int .i8) (.cons (.int .i8) (.cons (.tags) (.nil)))))))))))) (.cons (.tags) (.nil)))))) (.cons (.tags) (.nil))))
def T121 : Ty := .cons (.int .i16) (.cons (.nstr) (.cons (.arr (.cons (.int .i16) (.cons (.nstr) (.cons (.int .i8) (.cons (.str) (.cons (.int .i8) (.cons (.str) (.cons (.str) (.cons (.int .i8) (.cons (.int .i8) (.cons (.tags) (.nil)))))))))))) (.cons (.tags) (.nil))))
def T122 : Ty := .cons (.int .i16) (.cons (.nstr) (.cons (.int .i8) (.cons (.str) (.cons (.int .i8) (.cons (.str) (.cons (.str) (.cons (.int .i8) (.cons (.int .i8) (.cons (.tags) (.nil))))))))))
def T : Ty := .cons (.int .i16) (.cons (.int .i32) (.cons (.arr (.cons (.int .i16) (.cons (.nstr) (.cons (.arr (.cons (.int .i16) (.cons (.nstr) (.cons (.int .i8) (.cons (.str) (.cons (.int .i8) (.cons (.str) (.cons (.str) (.cons (.int .i8) (.cons (.int .i8) (.cons (.tags) (.nil)))))))))))) (.cons (.tags) (.nil)))))) (.cons (.tags) (.nil))))
def sch : Sch := (.val .all 1 .i32 (.arrS .all 2 none ((zeroV (.cons (.int .i16) (.cons (.nstr) (.cons (.arr (.cons (.int .i16) (.cons (.nstr) (.cons (.int .i8) (.cons (.str) (.cons (.int .i8) (.cons (.str) (.cons (.str) (.cons (.int .i8) (.cons (.int .i8) (.cons (.tags) (.nil)))))))))))) (.cons (.tags) (.nil)))))).puts []) (.val .all 0 .i16 (.val .all 1 .nstr (.arrS .all 2 none ((zeroV (.cons (.int .i16) (.cons (.nstr) (.cons (.int .i8) (.cons (.str) (.cons (.int .i8) (.cons (.str) (.cons (.str) (.cons (.int .i8) (.cons (.int .i8) (.cons (.tags) (.nil)))))))))))).puts [(4, .i 3)]) (.val .all 0 .i16 (.val .all 1 .nstr (.val .all 2 .e8 (.val .all 3 .str (.val (.ge 1) 4 .e8 (.val .all 5 .str (.val .all 6 .str (.val .all 7 .e8 (.val .all 8 .e8 (.tags 9 .nil)))))))))) (.tags 3 .nil)))) (.tags 3 .nil)))
def ps : List (Nat × V) := []
def tabD : List (Nat × Rf) := [(83, .dflt T83 []), (121, .dflt T121 []), (122, .dflt T122 [(4, .i 3)])]

theorem call83 : Callable Tryd.prog 83 := ⟨Tryd.f83, Tryd.func83, by kernel_rfl, by kernel_rfl⟩
theorem call121 : Callable Tryd.prog 121 := ⟨Tryd.f121, Tryd.func121, by kernel_rfl, by kernel_rfl⟩
theorem call122 : Callable Tryd.prog 122 := ⟨Tryd.f122, Tryd.func122, by kernel_rfl, by kernel_rfl⟩
theorem dfAll (eV : Value) : ∀ x ∈ tabD, Callable Tryd.prog x.1 ∧ RfOk Tryd.prog 1 eV x.1 x.2 := (all_cons ⟨call83, chkDf_ok Tryd.func83 (by kernel_rfl)⟩ (all_cons ⟨call121, chkDf_ok Tryd.func121 (by kernel_rfl)⟩ (all_cons ⟨call122, chkDf_ok Tryd.func122 (by kernel_rfl)⟩ all_nil)))
def tab : List (Nat × Rf) := tabD ++ Seat.tabR
theorem rd (eV : Value) : ∀ f a, rfAt tab f = some a → Callable Tryd.prog f ∧ RfOk Tryd.prog 1 eV f a := rfAt_all fun x hx => (List.mem_append.1 hx).elim (dfAll eV x) (Seat.rdAll eV x)
def F : AgF := ⟨46, 48, 49, 50⟩

theorem cal46 : Callable Tryd.prog 46 := ⟨Tryd.f46, Tryd.func46, by kernel_rfl, by kernel_rfl⟩
theorem cal48 : Callable Tryd.prog 48 := ⟨Tryd.f48, Tryd.func48, by kernel_rfl, by kernel_rfl⟩
theorem cal49 : Callable Tryd.prog 49 := ⟨Tryd.f49, Tryd.func49, by kernel_rfl, by kernel_rfl⟩
theorem cal50 : Callable Tryd.prog 50 := ⟨Tryd.f50, Tryd.func50, by kernel_rfl, by kernel_rfl⟩
theorem cal84 : Callable Tryd.prog 84 := ⟨Tryd.f84, Tryd.func84, by kernel_rfl, by kernel_rfl⟩
theorem cal47 : Callable Tryd.prog 47 := ⟨Tryd.f47, Tryd.func47, by kernel_rfl, by kernel_rfl⟩
theorem cal20 : Callable Tryd.prog 20 := ⟨Tryd.f20, Tryd.func20, by kernel_rfl, by kernel_rfl⟩
theorem cal21 : Callable Tryd.prog 21 := ⟨Tryd.f21, Tryd.func21, by kernel_rfl, by kernel_rfl⟩
theorem cal7 : Callable Tryd.prog 7 := ⟨Tryd.f7, Tryd.func7, by kernel_rfl, by kernel_rfl⟩
set_option maxHeartbeats 4000000 in
theorem msg (hsort : SortIs Tryd.prog 140 141 126 67) : Msg Tryd.prog 5 true 157 1 T sch (some 2) tab Snd.tab F 84 ps ps 3 where
  rdT := Seat.rdT
  rd := rd
  wr := TgW.sound1 hsort
  full := .inl rfl
  np := ⟨_, 106, Tryd.func46, by kernel_rfl, cal46⟩
  sv := ⟨_, Tryd.func48, by kernel_rfl, cal48⟩
  rfn := ⟨_, Tryd.func49, by kernel_rfl, cal49, cal84⟩
  read := ⟨_, Tryd.func84, fun eV fx h => by cases fx; kernel_rfl; kernel_rfl⟩
  at_ := ⟨_, Tryd.func50, by kernel_rfl, cal50⟩
  ok := okAll 3 (by decide +kernel)
  start := fun ver => by kernel_rfl
  ver := fun ver => by kernel_rfl
  key := by decide
  most := by decide

def Fa : AnyF := ⟨20, 12, 21, 13⟩
theorem maxIs : MaxIs Tryd.prog 20 3 := chkMax_is (gE := 1) (eV := .nilIface) (rd _) Tryd.func20 (show chkMax Tryd.prog _ 46 47 = true by kernel_rfl) cal20 Tryd.func46 (show chkNp Tryd.prog tab _ T = some (106, ps) by kernel_rfl) cal46 Tryd.func47 (by kernel_rfl) cal47 (by decide)
theorem law (hsort : SortIs Tryd.prog 140 141 126 67) {w : World} {n : Nat} {src : Value} {l : List UInt8} {tE : TypeId} {vE : Value} (hn : n < 256) (hsrc : OctIs w (fun k => k < w.heap.size) l src) (herr : w.cell? ⟨1, 0, none⟩ = some (.iface tE vE)) (hgE : 1 < w.heap.size) :
    Calls Tryd.prog 7 #[.int .u8 (n : Int), src] w fun en w' => en = .returned (.bool true) ∧ Ch (fun _ => False) w w' :=
  chkAny_calls (msg hsort) (F := Fa) Tryd.func7 (by kernel_rfl) Seat.verIs maxIs (by decide) Seat.sameIs Tryd.func21 (by kernel_rfl) cal21 hn hsrc (fun _ h => h) herr hgE
end Go.Proofs.YtlmelgjepdbakabDoor.DeleteACLsResponse
