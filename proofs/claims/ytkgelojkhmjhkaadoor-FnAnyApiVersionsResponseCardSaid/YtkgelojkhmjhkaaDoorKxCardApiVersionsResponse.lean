/- A message ApiVersionsResponse of whatever octets: read, written, read and written again: for every input; no condition but what the row lists. -/
import Derived.Test.YtkgelojkhmjhkaaDoorCards
import Derived.Test.YtkgelojkhmjhkaaDoorTie
import Derived.Test.YtkgelojkhmjhkaaDoorKxMsgApiVersionsResponse
import Derived.Test.YtkgelojkhmjhkaaDoorKxSort
import Derived.WalkKit
import Derived.ProofKit
import Derived.OpenShut
import Derived.Deep.DeepHandedRow
import Derived.Lay
namespace Go.Proofs.YtkgelojkhmjhkaaDoor.fnAnyApiVersionsResponse
open Go.ChangeShapes Go.WideShapes Go.ChangeAt Go.RowKit
set_option linter.unusedVariables false
set_option maxRecDepth 100000

theorem own : ownKnob Tryd.prog.godebug = none := by kernel_rfl
theorem undU8 : Tryd.prog.underlying 5 = some (.int .u8) := by kernel_rfl
theorem undB : Tryd.prog.underlying 4 = some .bool := by kernel_rfl
theorem undS : Tryd.prog.underlying 22 = some (.slice 5) := by kernel_rfl
theorem pars : Tryd.f3.params = #[5, 22] := by kernel_rfl
theorem named : Tryd.prog.globalNamed "pub-kmsg/pub/kmsg/inner/kbin.ErrNotEnoughData" = some 1 := by kernel_rfl
theorem ofType : (Tryd.prog.globals[1]?).map (·.type) = some 35 := by kernel_rfl
theorem undE0 : (match Tryd.prog.underlying 35 with | some (.interface _) => true | _ => false) = true := by kernel_rfl
theorem undE : ∃ ms, Tryd.prog.underlying 35 = some (.interface ms) := by
  have h := undE0
  split at h
  · rename_i ms e
    exact ⟨ms, e⟩
  · cases h

theorem contract (H : Type) (enc : TypeId × Value → H) (W : World) (base : Nat) (args : Array Value) (ds gs : List (DataW H)) (before : List MemPlace)
    (hval : ∀ (j : Nat) t v, Tryd.f3.params[j]? = some t → args[j]? = some v → Value.okWide Tryd.prog W .any base t v)
    (hW : DataW.Whole enc Tryd.prog Tryd.f3.params.toList Rows.fnAnyApiVersionsResponseSpec.vars false W args.toList ds gs before) (hL : laidMetH Tryd.prog Rows.fnAnyApiVersionsResponseRow.laid W) :
    Calls Tryd.prog 3 args W fun e W' => ∃ v, e = .returned v ∧ Rows.fnAnyApiVersionsResponseSpec.post enc Tryd.prog Tryd.f3 false true false false W args v W' := by
  obtain ⟨ms, hms⟩ := undE
  obtain ⟨tE, vE, herr, hgE⟩ := Go.Kx.errAt (rest := []) named ofType hms hL
  exact Go.Kx.oct_contract pars (by kernel_rfl) undU8 undS (by kernel_rfl) undB (by kernel_rfl) (by kernel_rfl) (of_decide_eq_true (by kernel_rfl)) rfl (fun _ _ => rfl) hval hW
    fun n src l hn hsrc => ApiVersionsResponse.law Srt.sortIs hn hsrc herr hgE

/-- A WORLD FOR THE WITNESS: the listed variable as the row says it. -/
noncomputable def laidWorld (os : Os) : World := World.laidAll Tryd.prog os Rows.fnAnyApiVersionsResponseRow.laid
theorem laid_met (os : Os) : laidMet Tryd.prog Rows.fnAnyApiVersionsResponseRow.laid ((laidWorld os).forCall (fun _ _ => 0) ⟨#[], #[.int .u8 0, .slice none 0 0], []⟩).memory :=
  laidMet_laidAll _ (by kernel_rfl) (by kernel_rfl)
theorem reads (os : Os) {H : Type} (enc : TypeId × Value → H) : ∃ places, DataW.whole enc Tryd.prog ((laidWorld os).forCall (fun _ _ => 0) ⟨#[], #[.int .u8 0, .slice none 0 0], []⟩).memory Tryd.f3.params.toList Rows.fnAnyApiVersionsResponseSpec.vars false #[Value.int .u8 0, Value.slice none 0 0].toList 8 = some ([.lit (.int .u8 0), .nil], [], places) :=
  ⟨[], by kernel_rfl⟩

theorem lifted (os : Os) (started : os.Started) (H : Type) (enc : TypeId × Value → H) (F : Stop.Interp) :
    ReturnsInHanded {} Tryd.checked os 3 .any ((OpenSpec.ofChange Rows.fnAnyApiVersionsResponseSpec).preRow enc Tryd.prog Tryd.f3 Rows.fnAnyApiVersionsResponseRow.domain false Rows.fnAnyApiVersionsResponseRow.laid) (((OpenSpec.ofChange Rows.fnAnyApiVersionsResponseSpec).at F).post enc Tryd.prog Tryd.f3 false true false false) := by
  obtain ⟨places, hx⟩ := reads os enc
  refine returnsInHanded_of_row (C := Tryd.checked) (s := OpenSpec.ofChange Rows.fnAnyApiVersionsResponseSpec) own started (by kernel_rfl) Tryd.func3
    (witness_row_at (enc := enc) (C := Tryd.checked) false (laidWorld os) #[.int .u8 0, .slice none 0 0] (World.laidAll_os _ _ _) (by kernel_rfl) (by kernel_rfl) (by kernel_rfl)
      (OpenSpec.preRow_of_cond 8 hx (by kernel_rfl) (fun k hk => by cases hk) (by kernel_rfl) (laid_met os))) ?_
  intro W base args ds gs before hval hW _ _ _ hL _ _
  exact contract H enc W base args ds gs before hval hW hL

theorem said : Rows.FnAnyApiVersionsResponseSaid :=
  OpenClaim.holds_of_cond 3 Tryd.f3 rfl rfl rfl rfl rfl rfl rfl ⟨rfl, rfl, rfl, rfl, rfl⟩ rfl rfl rfl rfl rfl (by kernel_rfl) Tryd.func3 (by kernel_rfl)
    (of_decide_eq_true (by kernel_rfl)) (by unfold Func.isWrapper; first | (rw [if_pos (by decide +kernel)]; kernel_rfl) | (rw [if_neg (by decide +kernel)]; exact ⟨rfl, rfl⟩))
    (fun os started H enc _ F => by rw [OpenClaim.pre_eq_preRow]; exact lifted os started H enc F)

theorem plain (f : FuncId) (fn : Func) (hf : Tryd.pinned.checked.prog.funcNamed "pub-kmsg/laws.FnAnyApiVersionsResponse" = some f) (hfn : Tryd.pinned.checked.prog.funcs[f]? = some fn) :
    false = Tryd.pinned.checked.prog.looks [] ∧ ∀ (j : Nat) t, fn.params[j]? = some t → Tryd.pinned.checked.prog.wantsStandIn t = false := by
  obtain rfl : f = 3 := Option.some.inj ((show Tryd.prog.funcNamed "pub-kmsg/laws.FnAnyApiVersionsResponse" = some 3 by kernel_rfl).symm.trans hf) |>.symm
  obtain rfl : fn = Tryd.f3 := (Option.some.inj (Tryd.func3.symm.trans hfn)).symm
  refine ⟨by kernel_rfl, fun j t ht => ?_⟩
  rw [pars] at ht
  have hm := Array.mem_of_getElem? ht
  simp only [List.mem_toArray, List.mem_cons, List.not_mem_nil, or_false] at hm
  rcases hm with rfl | rfl
  · exact (show Tryd.prog.wantsStandIn 5 = false by kernel_rfl)
  · exact (show Tryd.prog.wantsStandIn 22 = false by kernel_rfl)

theorem card : Rows.FnAnyApiVersionsResponseCardSaid :=
  Claim7.holds_tied_plain_at .later [] _ _ _ _ said (fun _ h => by cases h) (by kernel_rfl) (fun _ h => by cases h) fnAnyApiVersionsResponse_row_tie rfl ⟨rfl, rfl⟩ (by kernel_rfl) rfl plain (by kernel_rfl)
#print axioms card
end Go.Proofs.YtkgelojkhmjhkaaDoor.fnAnyApiVersionsResponse
namespace Go.Proofs.YtkgelojkhmjhkaaDoor
/-- The statement, under a short name. -/
theorem fnAnyApiVersionsResponse_holds : Rows.FnAnyApiVersionsResponseCardSaid := fnAnyApiVersionsResponse.card
end Go.Proofs.YtkgelojkhmjhkaaDoor
