/- A new FetchSnapshotResponse is written, at every version, as its defaults are: for every input; no condition. -/
import Derived.Test.YtmidelapgdpnoabRows
import Derived.Test.YtmidelapgdpnoabKxNewFetchSnapshotResponse
import Derived.WalkKit
import Derived.ProofKit
import Derived.OpenShut
import Derived.Below
import Derived.SizedLaws
namespace Go.Proofs.Ytmidelapgdpnoab.fnNewFetchSnapshotResponse
open Go.ChangeShapes Go.WideShapes Go.ChangeAt Go.RowKit
set_option linter.unusedVariables false

theorem own : ownKnob Try.prog.godebug = none := by kernel_rfl
theorem undU8 : Try.prog.underlying 5 = some (.int .u8) := by kernel_rfl
theorem undB : Try.prog.underlying 4 = some .bool := by kernel_rfl
theorem pars : Try.f9.params = #[5] := by kernel_rfl

theorem walk (a0 : Int) (w0 : (Lit.int .u8 a0).wf = true) (w : World) : Calls Try.prog 9 #[.int .u8 a0] w fun e w' => e = .returned (.bool true) ∧ Below w.heap.size w w' := by
  have hx : 0 ≤ a0 ∧ a0 ≤ 255 := by simpa [Lit.wf, IntKind.min, IntKind.max, IntKind.signed, IntKind.bits] using w0
  obtain ⟨n, rfl⟩ := Int.eq_ofNat_of_zero_le hx.1
  exact (New.lawFetchSnapshotResponse w n (by omega)).mono fun e w' ⟨v, he, hv, hb⟩ => ⟨by rw [he, hv], hb⟩

set_option maxRecDepth 100000 in
theorem contract (H : Type) (enc : TypeId × Value → H) (W : World) (base : Nat) (args : Array Value) (ds gs : List (DataW H)) (before : List MemPlace)
    (hval : ∀ (j : Nat) t v, Try.f9.params[j]? = some t → args[j]? = some v → Value.okWide Try.prog W .any base t v)
    (hW : DataW.Whole enc Try.prog Try.f9.params.toList Rows.fnNewFetchSnapshotResponseSpec.vars false W args.toList ds gs before) :
    Calls Try.prog 9 args W fun e W' => ∃ v, e = .returned v ∧ Rows.fnNewFetchSnapshotResponseSpec.post enc Try.prog Try.f9 false true false false W args v W' := by
  have hW' := hW
  obtain ⟨p, q, hA0, hV, rfl, hfz, hnd⟩ := hW
  have hA : DataW.TrodAll enc Try.prog W 0 (fun _ => true) true Try.f9.params.toList args.toList ds p := hA0
  rw [pars] at hA hval
  obtain ⟨v0, vs0, d0, ds0, p0, q0, hargs, rfl, rfl, h0, r0⟩ := trodAll_cons hA
  obtain ⟨rfl, rfl, rfl⟩ := trodAll_nil r0
  obtain rfl : args = #[v0] := by cases args; simp_all
  obtain ⟨rfl, rfl⟩ := trodVars_none hV
  obtain ⟨a0, rfl, rfl, rfl, w0⟩ := open_int undU8 (hval 0 5 v0 rfl rfl) h0
  clear hA0
  simp only [List.append_nil] at hW'
  refine (walk a0 w0 W).mono fun e W' ⟨he, hg⟩ => ?_
  subst he
  exact ⟨_, rfl, _, _, _, [], _, [], hW', trodAll_mk1 (shut_bool undB _), trodAll_mk1 (shut_int undU8 w0), rfl, hg.frame _, fun h => by cases h⟩

set_option maxRecDepth 100000 in
theorem lifted (os : Os) (started : os.Started) (H : Type) (enc : TypeId × Value → H) :
    ReturnsInHanded {} Try.checked os 9 .any (Rows.fnNewFetchSnapshotResponseSpec.pre6 enc Try.prog Try.f9 Rows.fnNewFetchSnapshotResponseRow.domain false) (Rows.fnNewFetchSnapshotResponseSpec.post enc Try.prog Try.f9 false true false false) := by
  refine returnsInHanded_of_change_sized (C := Try.checked) own started (by kernel_rfl) Try.func9
    (ChangeSpec.witness6 (enc := enc) (C := Try.checked) false ⟨#[], #[.int .u8 0], []⟩ 8 (by kernel_rfl) (by kernel_rfl) (by kernel_rfl) (by kernel_rfl)) ?_
  intro W base args ds gs before hval hW _ _ _
  exact contract H enc W base args ds gs before hval hW

theorem over : Rows.fnNewFetchSnapshotResponseRow.holds Try.pinned (OpenSpec.ofChange Rows.fnNewFetchSnapshotResponseSpec) :=
  OpenClaim.holds_of_wide 9 Try.f9 rfl rfl rfl rfl rfl rfl rfl ⟨rfl, rfl, rfl, rfl, rfl⟩ rfl rfl rfl rfl rfl (by kernel_rfl) Try.func9 (by kernel_rfl)
    (of_decide_eq_true (by kernel_rfl)) (by unfold Func.isWrapper; first | (rw [if_pos (by decide +kernel)]; kernel_rfl) | (rw [if_neg (by decide +kernel)]; exact ⟨rfl, rfl⟩))
    (fun os started H enc _ => lifted os started H enc)
theorem proved : Rows.FnNewFetchSnapshotResponseSaid := over
#print axioms proved
end Go.Proofs.Ytmidelapgdpnoab.fnNewFetchSnapshotResponse
namespace Go.Proofs.Ytmidelapgdpnoab
/-- The statement, under a short name. -/
theorem fnNewFetchSnapshotResponse_holds : Rows.FnNewFetchSnapshotResponseSaid := fnNewFetchSnapshotResponse.proved
end Go.Proofs.Ytmidelapgdpnoab
