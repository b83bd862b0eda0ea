/- A message DescribeConfigsResponse that the reference writes of whatever tree (read, written again as the same): for every input of bulk at most 1048576. -/
import Derived.Test.YthcpchmmpnakaaaGreatDoorCards
import Derived.Test.YthcpchmmpnakaaaGreatDoorTie
import Derived.Test.YthcpchmmpnakaaaGreatDoorKxMsgDescribeConfigsResponse
import Derived.Test.YthcpchmmpnakaaaGreatDoorKxSort
import Derived.WalkKit
import Derived.ProofKit
import Derived.OpenShut
import Derived.Deep.DeepHandedRow
import Derived.Lay
namespace Go.Proofs.YthcpchmmpnakaaaGreatDoor.fnAgainDescribeConfigsResponse
open Go.ChangeShapes Go.WideShapes Go.ChangeAt Go.RowKit
set_option linter.unusedVariables false
set_option linter.unusedSimpArgs false
set_option maxRecDepth 100000

theorem own : ownKnob Tryz.prog.godebug = none := by kernel_rfl
theorem undB : Tryz.prog.underlying 4 = some .bool := by kernel_rfl
theorem pars : Tryz.f3.params = #[5, 26] := by kernel_rfl
theorem named : Tryz.prog.globalNamed "pub-kmsg/pub/kmsg/inner/kbin.ErrNotEnoughData" = some 1 := by kernel_rfl
theorem ofType : (Tryz.prog.globals[1]?).map (·.type) = some 50 := by kernel_rfl
theorem undE0 : (match Tryz.prog.underlying 50 with | some (.interface _) => true | _ => false) = true := by kernel_rfl
theorem undE : ∃ ms, Tryz.prog.underlying 50 = some (.interface ms) := by
  have h := undE0
  split at h
  · rename_i ms e
    exact ⟨ms, e⟩
  · cases h
theorem treeTy : Go.Kx.TreeTy Tryz.prog 26 2 22 4 23 24 55 53 5 := ⟨by kernel_rfl, by kernel_rfl, by kernel_rfl, by kernel_rfl, by kernel_rfl, by kernel_rfl, by kernel_rfl, by kernel_rfl, by kernel_rfl, by kernel_rfl, by kernel_rfl, by kernel_rfl, by kernel_rfl, by kernel_rfl, by kernel_rfl, by kernel_rfl, by kernel_rfl, by kernel_rfl⟩
theorem bulkIs {H : Type} : Go.Kx.BulkIs (H := H) Rows.uptoBulk Rows.uptoBulkAll := ⟨fun _ _ => by simp [Rows.uptoBulk], fun _ => by simp [Rows.uptoBulk], by simp [Rows.uptoBulk], fun _ _ => by simp [Rows.uptoBulk], fun _ => by simp [Rows.uptoBulk], by simp [Rows.uptoBulkAll], fun _ _ => by simp [Rows.uptoBulkAll]⟩

theorem contract (H : Type) (enc : TypeId × Value → H) (W : World) (base : Nat) (args : Array Value) (ds gs : List (DataW H)) (before : List MemPlace)
    (hval : ∀ (j : Nat) t v, Tryz.f3.params[j]? = some t → args[j]? = some v → Value.okWide Tryz.prog W .any base t v)
    (hW : DataW.Whole enc Tryz.prog Tryz.f3.params.toList Rows.fnAgainDescribeConfigsResponseSpec.vars false W args.toList ds gs before) (hsmall : Rows.uptoBulkAll (ds ++ gs) ≤ 1048576) (hL : laidMetH Tryz.prog Rows.fnAgainDescribeConfigsResponseUptoRow.laid W) :
    Calls Tryz.prog 3 args W fun e W' => ∃ v, e = .returned v ∧ Rows.fnAgainDescribeConfigsResponseSpec.post enc Tryz.prog Tryz.f3 false true false false W args v W' := by
  obtain ⟨ms, hms⟩ := undE
  obtain ⟨tE, vE, herr, hgE⟩ := Go.Kx.errAt (rest := []) named ofType hms hL
  exact Go.Kx.again_contract treeTy bulkIs pars (by kernel_rfl) undB (by kernel_rfl) (by kernel_rfl) (of_decide_eq_true (by kernel_rfl)) rfl (fun _ _ => rfl) hval hW hsmall
    fun n t cs hn hT htw => DescribeConfigsResponse.law Srt.sortIs hn hT htw herr hgE

/-- A WORLD FOR THE WITNESS: the listed variable as the row says it. -/
noncomputable def laidWorld (os : Os) : World := World.laidAll Tryz.prog os Rows.fnAgainDescribeConfigsResponseUptoRow.laid
theorem laid_met (os : Os) : laidMet Tryz.prog Rows.fnAgainDescribeConfigsResponseUptoRow.laid ((laidWorld os).forCall (fun _ _ => 0) ⟨#[], #[.int .u8 0, .agg #[.int .i64 0, .slice none 0 0, .bool false, .slice none 0 0, .slice none 0 0]], []⟩).memory :=
  laidMet_laidAll _ (by kernel_rfl) (by kernel_rfl)
theorem reads (os : Os) {H : Type} (enc : TypeId × Value → H) : ∃ places, DataW.whole enc Tryz.prog ((laidWorld os).forCall (fun _ _ => 0) ⟨#[], #[.int .u8 0, .agg #[.int .i64 0, .slice none 0 0, .bool false, .slice none 0 0, .slice none 0 0]], []⟩).memory Tryz.f3.params.toList Rows.fnAgainDescribeConfigsResponseSpec.vars false #[Value.int .u8 0, Value.agg #[.int .i64 0, .slice none 0 0, .bool false, .slice none 0 0, .slice none 0 0]].toList 8 = some ([.lit (.int .u8 0), .agg [.lit (.int .i64 0), .nil, .lit (.bool false), .nil, .nil]], [], places) :=
  ⟨[], by kernel_rfl⟩

theorem lifted (os : Os) (started : os.Started) (H : Type) (enc : TypeId × Value → H) (F : Stop.Interp) :
    ReturnsInHanded {} Tryz.checked os 3 .any ((Rows.OpenSpec.upto Rows.fnAgainDescribeConfigsResponseSpec).preRow enc Tryz.prog Tryz.f3 Rows.fnAgainDescribeConfigsResponseUptoRow.domain false Rows.fnAgainDescribeConfigsResponseUptoRow.laid) (((Rows.OpenSpec.upto Rows.fnAgainDescribeConfigsResponseSpec).at F).post enc Tryz.prog Tryz.f3 false true false false) := by
  obtain ⟨places, hx⟩ := reads os enc
  refine returnsInHanded_of_row (C := Tryz.checked) (s := Rows.OpenSpec.upto Rows.fnAgainDescribeConfigsResponseSpec) own started (by kernel_rfl) Tryz.func3
    (witness_row_at (enc := enc) (C := Tryz.checked) false (laidWorld os) #[.int .u8 0, .agg #[.int .i64 0, .slice none 0 0, .bool false, .slice none 0 0, .slice none 0 0]] (World.laidAll_os _ _ _) (by kernel_rfl) (by kernel_rfl) (by kernel_rfl)
      (OpenSpec.preRow_of_cond 8 hx (by kernel_rfl) (fun k hk => by cases hk; kernel_rfl) (by kernel_rfl) (laid_met os))) ?_
  intro W base args ds gs before hval hW _ hcond _ hL _ _
  exact contract H enc W base args ds gs before hval hW (of_decide_eq_true (hcond _ rfl)) hL

set_option maxHeartbeats 100000000 in
/-- What the row asks of the whole program, each of it checked alone. -/
theorem closed : joinedFacts Tryz.prog 3 Tryz.f3 (Rows.OpenSpec.upto Rows.fnAgainDescribeConfigsResponseSpec).bare Rows.fnAgainDescribeConfigsResponseUptoRow = true := by
  simp only [joinedFacts, Bool.and_eq_true]
  repeat' apply And.intro
  all_goals decide +kernel

theorem said : Rows.FnAgainDescribeConfigsResponseUptoSaid :=
  OpenClaim.holds_of_cond 3 Tryz.f3 rfl rfl rfl rfl rfl rfl rfl ⟨rfl, rfl, rfl, rfl, rfl⟩ rfl rfl rfl rfl rfl (by kernel_rfl) Tryz.func3 closed
    (of_decide_eq_true (by kernel_rfl)) (by unfold Func.isWrapper; first | (rw [if_pos (by decide +kernel)]; kernel_rfl) | (rw [if_neg (by decide +kernel)]; exact ⟨rfl, rfl⟩))
    (fun os started H enc _ F => by rw [OpenClaim.pre_eq_preRow]; exact lifted os started H enc F)

theorem plain (f : FuncId) (fn : Func) (hf : Tryz.pinned.checked.prog.funcNamed "pub-kmsg/laws.FnAgainDescribeConfigsResponse" = some f) (hfn : Tryz.pinned.checked.prog.funcs[f]? = some fn) :
    false = Tryz.pinned.checked.prog.looks [] ∧ ∀ (j : Nat) t, fn.params[j]? = some t → Tryz.pinned.checked.prog.wantsStandIn t = false := by
  obtain rfl : f = 3 := Option.some.inj ((show Tryz.prog.funcNamed "pub-kmsg/laws.FnAgainDescribeConfigsResponse" = some 3 by kernel_rfl).symm.trans hf) |>.symm
  obtain rfl : fn = Tryz.f3 := (Option.some.inj (Tryz.func3.symm.trans hfn)).symm
  refine ⟨by kernel_rfl, fun j t ht => ?_⟩
  rw [pars] at ht
  have hm := Array.mem_of_getElem? ht
  simp only [List.mem_toArray, List.mem_cons, List.not_mem_nil, or_false] at hm
  rcases hm with rfl | rfl
  · exact (show Tryz.prog.wantsStandIn 5 = false by kernel_rfl)
  · exact (show Tryz.prog.wantsStandIn 26 = false by kernel_rfl)

theorem card : Rows.FnAgainDescribeConfigsResponseUptoCardSaid :=
  Claim7.holds_tied_plain_at .later [] _ _ _ _ said (fun _ h => by cases h) (by kernel_rfl) (fun _ h => by cases h) fnAgainDescribeConfigsResponseUpto_row_tie rfl ⟨rfl, rfl⟩ (by kernel_rfl) rfl plain (by kernel_rfl)
#print axioms card
end Go.Proofs.YthcpchmmpnakaaaGreatDoor.fnAgainDescribeConfigsResponse
namespace Go.Proofs.YthcpchmmpnakaaaGreatDoor
/-- The statement, under a short name. -/
theorem fnAgainDescribeConfigsResponse_holds : Rows.FnAgainDescribeConfigsResponseUptoCardSaid := fnAgainDescribeConfigsResponse.card
end Go.Proofs.YthcpchmmpnakaaaGreatDoor
