/- A value that the documentation names is written as its word, and marshalled so; both are read as the value: for every number; no condition but what the row lists. -/
import Derived.Test.YtagmcjolgfkcaaaDoorCards
import Derived.Test.YtagmcjolgfkcaaaDoorTie
import Derived.Test.YtagmcjolgfkcaaaDoorKxTxtZ
import Derived.Test.YtagmcjolgfkcaaaDoorKxSaid2
import Derived.WalkKit
import Derived.ProofKit
import Derived.OpenShut
import Derived.Deep.DeepWitnessRowRef
import Derived.Lay
namespace Go.Proofs.YtagmcjolgfkcaaaDoor.fnACLResourceTypeText
open Go.ChangeShapes Go.WideShapes Go.ChangeAt Go.RowKit
set_option linter.unusedVariables false
set_option maxRecDepth 100000

theorem own : ownKnob Tryd.prog.godebug = none := by kernel_rfl
theorem undB : Tryd.prog.underlying 4 = some .bool := by kernel_rfl
theorem undS : Tryd.prog.underlying 30 = some (.int .i8) := by kernel_rfl
theorem pars : Tryd.f4.params = #[30] := by kernel_rfl
theorem tabData : Rows.laid_strings_asciiSpace = (Lib.tabData .u8 Lib.asciiSpaceTab : DataW Unit) := by kernel_rfl

theorem contract (H : Type) (enc : TypeId × Value → H) (W : World) (base : Nat) (args : Array Value) (ds gs : List (DataW H)) (before : List MemPlace)
    (hval : ∀ (j : Nat) t v, Tryd.f4.params[j]? = some t → args[j]? = some v → Value.okWide Tryd.prog W .any base t v)
    (hW : DataW.Whole enc Tryd.prog Tryd.f4.params.toList Rows.fnACLResourceTypeTextSpec.vars false W args.toList ds gs before) (hL : laidMetH Tryd.prog Rows.fnACLResourceTypeTextRow.laid W) :
    Calls Tryd.prog 4 args W fun e W' => ∃ v, e = .returned v ∧ Rows.fnACLResourceTypeTextSpec.post enc Tryd.prog Tryd.f4 false true false false W args v W' := by
  have htab : Txt.Tab W := Go.Kx.tabOf (g := 0) (t := 64) (e := 5) (n := 256) (by kernel_rfl) (by kernel_rfl) (by kernel_rfl) (by kernel_rfl) (by kernel_rfl) (by kernel_rfl) (tabData ▸ (.tail _ (.tail _ (.head _)))) hL
  exact Go.Kx.i8_contract pars (by kernel_rfl) undS undB rfl (fun _ => rfl) hval hW (fun n hn => Txt.lawText W n hn htab)

/-- A WORLD FOR THE WITNESS: the listed variables as the row says them. -/
noncomputable def laidWorld (os : Os) : World := World.laidAll Tryd.prog os Rows.fnACLResourceTypeTextRow.laid
theorem laid_met (os : Os) : laidMet Tryd.prog Rows.fnACLResourceTypeTextRow.laid ((laidWorld os).forCall (fun _ _ => 0) ⟨#[], #[.int .i8 0], []⟩).memory :=
  laidMet_laidAll _ (by kernel_rfl) (by kernel_rfl)
theorem reads (os : Os) {H : Type} (enc : TypeId × Value → H) : ∃ places, DataW.whole enc Tryd.prog ((laidWorld os).forCall (fun _ _ => 0) ⟨#[], #[.int .i8 0], []⟩).memory Tryd.f4.params.toList Rows.fnACLResourceTypeTextSpec.vars false #[Value.int .i8 0].toList 8 = some ([.lit (.int .i8 0)], [], places) :=
  ⟨[], by kernel_rfl⟩

theorem lifted (os : Os) (started : os.Started) (H : Type) (enc : TypeId × Value → H) (F : Stop.Interp) :
    ReturnsInHanded {} Tryd.checked os 4 .any ((OpenSpec.ofChange Rows.fnACLResourceTypeTextSpec).preRow enc Tryd.prog Tryd.f4 Rows.fnACLResourceTypeTextRow.domain false Rows.fnACLResourceTypeTextRow.laid) (((OpenSpec.ofChange Rows.fnACLResourceTypeTextSpec).at F).post enc Tryd.prog Tryd.f4 false true false false) := by
  obtain ⟨places, hx⟩ := reads os enc
  refine returnsInHanded_of_row (C := Tryd.checked) (s := OpenSpec.ofChange Rows.fnACLResourceTypeTextSpec) own started (by kernel_rfl) Tryd.func4
    (witness_row_atRef (enc := enc) (C := Tryd.checked) false (laidWorld os) #[.int .i8 0] (World.laidAll_os _ _ _) (by kernel_rfl) (by kernel_rfl) (by kernel_rfl)
      (OpenSpec.preRow_of_cond 8 hx (by kernel_rfl) (fun k hk => by cases hk) (by kernel_rfl) (laid_met os))) ?_
  intro W base args ds gs before hval hW _ _ _ hL _ _
  exact contract H enc W base args ds gs before hval hW hL

theorem said : Rows.FnACLResourceTypeTextSaid :=
  OpenClaim.holds_of_cond 4 Tryd.f4 rfl rfl rfl rfl rfl rfl rfl ⟨rfl, rfl, rfl, rfl, rfl⟩ rfl rfl rfl rfl rfl (by kernel_rfl) Tryd.func4 (by kernel_rfl)
    (of_decide_eq_true (by kernel_rfl)) (by unfold Func.isWrapper; first | (rw [if_pos (by decide +kernel)]; kernel_rfl) | (rw [if_neg (by decide +kernel)]; exact ⟨rfl, rfl⟩))
    (fun os started H enc _ F => by rw [OpenClaim.pre_eq_preRow]; exact lifted os started H enc F)

theorem plain (f : FuncId) (fn : Func) (hf : Tryd.pinned.checked.prog.funcNamed "pub-kmsg/laws.FnACLResourceTypeText" = some f) (hfn : Tryd.pinned.checked.prog.funcs[f]? = some fn) :
    false = Tryd.pinned.checked.prog.looks [] ∧ ∀ (j : Nat) t, fn.params[j]? = some t → Tryd.pinned.checked.prog.wantsStandIn t = false := by
  obtain rfl : f = 4 := Option.some.inj ((show Tryd.prog.funcNamed "pub-kmsg/laws.FnACLResourceTypeText" = some 4 by kernel_rfl).symm.trans hf) |>.symm
  obtain rfl : fn = Tryd.f4 := (Option.some.inj (Tryd.func4.symm.trans hfn)).symm
  refine ⟨by kernel_rfl, fun j t ht => ?_⟩
  rw [pars] at ht
  have hm := Array.mem_of_getElem? ht
  simp only [List.mem_toArray, List.mem_cons, List.not_mem_nil, or_false] at hm
  rcases hm with rfl
  exact (show Tryd.prog.wantsStandIn 30 = false by kernel_rfl)

theorem card : Rows.FnACLResourceTypeTextCardSaid :=
  Claim7.holds_tied_plain_at .later [] _ _ _ _ said (fun _ h => by cases h) (by kernel_rfl) (fun _ h => by cases h) fnACLResourceTypeText_row_tie rfl ⟨rfl, rfl⟩ (by kernel_rfl) rfl plain (by kernel_rfl)
#print axioms card
end Go.Proofs.YtagmcjolgfkcaaaDoor.fnACLResourceTypeText
namespace Go.Proofs.YtagmcjolgfkcaaaDoor
/-- The statement, under a short name. -/
theorem fnACLResourceTypeText_holds : Rows.FnACLResourceTypeTextCardSaid := fnACLResourceTypeText.card
end Go.Proofs.YtagmcjolgfkcaaaDoor
