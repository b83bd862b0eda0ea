/- The message FindCoordinatorResponse. -/
import Derived.Test.YtlmelgjepdbakabDoorKxEach
import Derived.Test.YtlmelgjepdbakabDoorKxSeat
import Derived.Test.YtlmelgjepdbakabDoorKxTgW
import Derived.Test.YtlmelgjepdbakabDoorKxSnd
namespace Go.Proofs.YtlmelgjepdbakabDoor.FindCoordinatorResponse
open Go.Kx Go.RowKit Go.Proofs
set_option maxRecDepth 100000
set_option linter.unusedVariables false

def T79 : Ty := .cons (.int .i16) (.cons (.int .i32) (.cons (.int .i16) (.cons (.nstr) (.cons (.int .i32) (.cons (.str) (.cons (.int .i32) (.cons (.arr (.cons (.str) (.cons (.int .i32) (.cons (.str) (.cons (.int .i32) (.cons (.int .i16) (.cons (.nstr) (.cons (.tags) (.nil))))))))) (.cons (.tags) (.nil)))))))))
def T117 : Ty := .cons (.str) (.cons (.int .i32) (.cons (.str) (.cons (.int .i32) (.cons (.int .i16) (.cons (.nstr) (.cons (.tags) (.nil)))))))
def T : Ty := .cons (.int .i16) (.cons (.int .i32) (.cons (.int .i16) (.cons (.nstr) (.cons (.int .i32) (.cons (.str) (.cons (.int .i32) (.cons (.arr (.cons (.str) (.cons (.int .i32) (.cons (.str) (.cons (.int .i32) (.cons (.int .i16) (.cons (.nstr) (.cons (.tags) (.nil))))))))) (.cons (.tags) (.nil)))))))))
def sch : Sch := (.val (.ge 1) 1 .i32 (.val (.rng 0 3) 2 .i16 (.val (.rng 1 3) 3 .nstr (.val (.rng 0 3) 4 .i32 (.val (.rng 0 3) 5 .str (.val (.rng 0 3) 6 .i32 (.arrS (.ge 4) 7 none ((zeroV (.cons (.str) (.cons (.int .i32) (.cons (.str) (.cons (.int .i32) (.cons (.int .i16) (.cons (.nstr) (.cons (.tags) (.nil))))))))).puts []) (.val .all 0 .str (.val .all 1 .i32 (.val .all 2 .str (.val .all 3 .i32 (.val .all 4 .i16 (.val .all 5 .nstr (.tags 6 .nil))))))) (.tags 8 .nil))))))))
def ps : List (Nat × V) := []
def tabD : List (Nat × Rf) := [(79, .dflt T79 []), (117, .dflt T117 [])]

theorem call79 : Callable Tryd.prog 79 := ⟨Tryd.f79, Tryd.func79, by kernel_rfl, by kernel_rfl⟩
theorem call117 : Callable Tryd.prog 117 := ⟨Tryd.f117, Tryd.func117, by kernel_rfl, by kernel_rfl⟩
theorem dfAll (eV : Value) : ∀ x ∈ tabD, Callable Tryd.prog x.1 ∧ RfOk Tryd.prog 1 eV x.1 x.2 := (all_cons ⟨call79, chkDf_ok Tryd.func79 (by kernel_rfl)⟩ (all_cons ⟨call117, chkDf_ok Tryd.func117 (by kernel_rfl)⟩ all_nil))
def tab : List (Nat × Rf) := tabD ++ Seat.tabR
theorem rd (eV : Value) : ∀ f a, rfAt tab f = some a → Callable Tryd.prog f ∧ RfOk Tryd.prog 1 eV f a := rfAt_all fun x hx => (List.mem_append.1 hx).elim (dfAll eV x) (Seat.rdAll eV x)
def F : AgF := ⟨36, 38, 39, 40⟩

theorem cal36 : Callable Tryd.prog 36 := ⟨Tryd.f36, Tryd.func36, by kernel_rfl, by kernel_rfl⟩
theorem cal38 : Callable Tryd.prog 38 := ⟨Tryd.f38, Tryd.func38, by kernel_rfl, by kernel_rfl⟩
theorem cal39 : Callable Tryd.prog 39 := ⟨Tryd.f39, Tryd.func39, by kernel_rfl, by kernel_rfl⟩
theorem cal40 : Callable Tryd.prog 40 := ⟨Tryd.f40, Tryd.func40, by kernel_rfl, by kernel_rfl⟩
theorem cal80 : Callable Tryd.prog 80 := ⟨Tryd.f80, Tryd.func80, by kernel_rfl, by kernel_rfl⟩
theorem cal37 : Callable Tryd.prog 37 := ⟨Tryd.f37, Tryd.func37, by kernel_rfl, by kernel_rfl⟩
theorem cal16 : Callable Tryd.prog 16 := ⟨Tryd.f16, Tryd.func16, by kernel_rfl, by kernel_rfl⟩
theorem cal17 : Callable Tryd.prog 17 := ⟨Tryd.f17, Tryd.func17, by kernel_rfl, by kernel_rfl⟩
theorem cal5 : Callable Tryd.prog 5 := ⟨Tryd.f5, Tryd.func5, by kernel_rfl, by kernel_rfl⟩
set_option maxHeartbeats 4000000 in
theorem msg (hsort : SortIs Tryd.prog 140 141 126 67) : Msg Tryd.prog 5 true 157 1 T sch (some 3) tab Snd.tab F 80 ps ps 6 where
  rdT := Seat.rdT
  rd := rd
  wr := TgW.sound1 hsort
  full := .inl rfl
  np := ⟨_, 86, Tryd.func36, by kernel_rfl, cal36⟩
  sv := ⟨_, Tryd.func38, by kernel_rfl, cal38⟩
  rfn := ⟨_, Tryd.func39, by kernel_rfl, cal39, cal80⟩
  read := ⟨_, Tryd.func80, fun eV fx h => by cases fx; kernel_rfl; kernel_rfl⟩
  at_ := ⟨_, Tryd.func40, by kernel_rfl, cal40⟩
  ok := okAll 6 (by decide +kernel)
  start := fun ver => by kernel_rfl
  ver := fun ver => by kernel_rfl
  key := by decide
  most := by decide

def Fa : AnyF := ⟨16, 12, 17, 13⟩
theorem maxIs : MaxIs Tryd.prog 16 6 := chkMax_is (gE := 1) (eV := .nilIface) (rd _) Tryd.func16 (show chkMax Tryd.prog _ 36 37 = true by kernel_rfl) cal16 Tryd.func36 (show chkNp Tryd.prog tab _ T = some (86, ps) by kernel_rfl) cal36 Tryd.func37 (by kernel_rfl) cal37 (by decide)
theorem law (hsort : SortIs Tryd.prog 140 141 126 67) {w : World} {n : Nat} {src : Value} {l : List UInt8} {tE : TypeId} {vE : Value} (hn : n < 256) (hsrc : OctIs w (fun k => k < w.heap.size) l src) (herr : w.cell? ⟨1, 0, none⟩ = some (.iface tE vE)) (hgE : 1 < w.heap.size) :
    Calls Tryd.prog 5 #[.int .u8 (n : Int), src] w fun en w' => en = .returned (.bool true) ∧ Ch (fun _ => False) w w' :=
  chkAny_calls (msg hsort) (F := Fa) Tryd.func5 (by kernel_rfl) Seat.verIs maxIs (by decide) Seat.sameIs Tryd.func17 (by kernel_rfl) cal17 hn hsrc (fun _ h => h) herr hgE
end Go.Proofs.YtlmelgjepdbakabDoor.FindCoordinatorResponse
