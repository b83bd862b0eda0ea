/- Tags that are set: the statement FnSetTagsSaid out of the law's walk. -/
import Derived.Test.YtagmcjolgfkcaaaRows
import Derived.Test.YtagmcjolgfkcaaaKxSt5
import Derived.WalkKit
import Derived.ProofKit
import Derived.OpenShut
import Derived.Below
import Derived.SizedLaws
namespace Go.Proofs.Ytagmcjolgfkcaaa.fnSetTags
open Go.ChangeShapes Go.WideShapes Go.ChangeAt Go.RowKit
set_option linter.unusedVariables false
set_option linter.unusedSimpArgs false
set_option maxRecDepth 100000

theorem own : ownKnob Try.prog.godebug = none := by kernel_rfl
theorem undB : Try.prog.underlying 4 = some .bool := by kernel_rfl
theorem undS : Try.prog.underlying 27 = some (.slice 5) := by kernel_rfl
theorem undO : Try.prog.underlying 5 = some (.int .u8) := by kernel_rfl
theorem undK : Try.prog.underlying 33 = some (.int .u32) := by kernel_rfl
theorem undT : Try.prog.underlying 22 = some (.slice 35) := by kernel_rfl
theorem c8 : Try.prog.cellsOf 5 = 1 := by kernel_rfl
theorem cS : Try.prog.cellsOf 27 = 1 := by kernel_rfl
theorem cK : Try.prog.cellsOf 33 = 1 := by kernel_rfl
theorem cG : Try.prog.cellsOf 35 = 2 := by kernel_rfl
theorem pars : Try.f3.params = #[22] := by kernel_rfl
theorem resT : Try.f3.resultTypes = #[4] := by kernel_rfl
theorem bulkIs {H : Type} : Go.Kx.BulkIs (H := H) Rows.uptoBulk Rows.uptoBulkAll := ⟨fun _ _ => by simp [Rows.uptoBulk], fun _ => by simp [Rows.uptoBulk], by simp [Rows.uptoBulk], fun _ _ => by simp [Rows.uptoBulk], fun _ => by simp [Rows.uptoBulk], by simp [Rows.uptoBulkAll], fun _ _ => by simp [Rows.uptoBulkAll]⟩
theorem lo : laidOutB Try.prog = true := by kernel_rfl
theorem rrT : Try.prog.readableRec 22 = true := by kernel_rfl
theorem stG : Go.Kx.structOf Try.prog 35 = some [(33, 0), (27, 1)] := by kernel_rfl

/-- The cells of a tag. -/
theorem tag_of {H : Type} {enc : TypeId × Value → H} {W : World} {fuel : Nat} {cs : List Value} {x : DataW H × List MemPlace} (h : DataW.trod enc Try.prog W 0 (fun _ => true) true fuel 35 cs = some x) :
    ∃ (k : Nat) (l : List UInt8) (vv : Value), cs = [.int .u32 (k : Int), vv] ∧ k < 4294967296 ∧ Go.Kx.SlIs W W.heap.size l vv := by
  obtain ⟨xs, n, _, hx, hlen, hxl, hf⟩ := Go.Kx.struct_parts stG h
  rw [cG] at hlen
  match cs, hlen with
  | [c0, c1], _ =>
    match xs, hxl with
    | [x0, x1], _ =>
      have h0 := hf 0 (33, 0) rfl
      have h1 := hf 1 (27, 1) rfl
      simp only [cK, cS, List.drop_zero, List.take_succ_cons, List.take_zero, List.drop_succ_cons, List.getElem?_cons_zero, List.getElem?_cons_succ] at h0 h1
      obtain ⟨k, hk, hkx, hkw⟩ := DataW.trod_int undK h0
      obtain ⟨l, hl, _⟩ := Go.Kx.bytes_of bulkIs undS undO c8 h1
      simp only [List.cons.injEq, and_true] at hk
      have hr : 0 ≤ k ∧ k ≤ 4294967295 := by
        have e1 : IntKind.u32.min = 0 := rfl
        have e2 : IntKind.u32.max = 4294967295 := rfl
        simpa [Lit.wf, e1, e2] using hkw
      refine ⟨k.toNat, l, c1, ?_, by omega, hl⟩
      rw [hk, Int.toNat_of_nonneg hr.1]

theorem tags_of {H : Type} {enc : TypeId × Value → H} {W : World} {fuel : Nat} {v : Value} {x : DataW H × List MemPlace} (h : DataW.trod enc Try.prog W 0 (fun _ => true) true fuel 22 [v] = some x) : ∃ l, Go.Kx.Ts W l v := by
  rcases DataW.trod_slice undT h with ⟨hcs, hx⟩ | ⟨a, len, cap, elems, rest, n, _, hcs, hx, _, hl, hm, hel, he, _, _⟩
  · simp only [List.cons.injEq, and_true] at hcs
    exact ⟨[], none, 0, by rw [hcs]; rfl, by simp, by simp [maxLen], fun _ => rfl, fun _ e => by cases e⟩
  · simp only [List.cons.injEq, and_true] at hcs
    obtain ⟨u, hul, hu⟩ := Go.Kx.choose_list (p := fun i (x : Nat × List UInt8) => x.1 < 4294967296 ∧ ∃ vv, Go.Kx.AtA W (a.add (i * 2)) [.int .u32 (x.1 : Int), vv] ∧ Go.Kx.SlIs W W.heap.size x.2 vv) len fun i hi => by
      have h1 := he i hi
      obtain ⟨y, hy⟩ : ∃ y, elems[i]? = some y := ⟨_, List.getElem?_eq_getElem (by omega)⟩
      rw [hy, cG] at h1
      obtain ⟨cs', hc1, hc2⟩ := Option.bind_eq_some_iff.1 h1
      obtain ⟨k, l, vv, hcs', hk, hsl⟩ := tag_of hc2
      obtain ⟨_, _, hcell⟩ := World.cells?_some hc1
      have c0 := hcell 0 (by omega)
      have c1 := hcell 1 (by omega)
      rw [hcs'] at c0 c1
      rw [Addr.add_zero'] at c0
      rw [Addr.add_add] at c1
      exact ⟨(k, l), hk, vv, Go.Kx.two_at c0 c1, hsl⟩
    refine ⟨u, some a, cap, by rw [hcs, hul], by omega, hm, (fun e => by cases e), fun a' e => ?_⟩
    cases e
    refine ⟨fun hne => ?_, fun i x hx => hu i x hx⟩
    cases u with
    | nil => exact absurd rfl hne
    | cons z r =>
      obtain ⟨_, vv, c0, _⟩ := hu 0 z rfl
      have := c0 0 _ rfl
      simp only [Nat.zero_mul, Addr.add_zero'] at this
      exact World.block_lt_of_cell? _ _ this

theorem tags_arg {H : Type} {enc : TypeId × Value → H} {W : World} {base : Nat} {v : Value} {d : DataW H} {p : List MemPlace} (hval : Value.okWide Try.prog W .any base 22 v) (h : DataW.Trod enc Try.prog W 0 (fun _ => true) true 22 v d p) :
    ∃ l, Go.Kx.Ts W l v := by
  obtain ⟨fuel, hf⟩ := h
  obtain ⟨a, n, c, rfl⟩ := okWide_slice undT hval
  exact tags_of hf

theorem contract (H : Type) (enc : TypeId × Value → H) (W : World) (base : Nat) (args : Array Value) (ds gs : List (DataW H)) (before : List MemPlace)
    (hval : ∀ (j : Nat) t v, Try.f3.params[j]? = some t → args[j]? = some v → Value.okWide Try.prog W .any base t v)
    (hW : DataW.Whole enc Try.prog Try.f3.params.toList Rows.fnSetTagsSpec.vars false W args.toList ds gs before) :
    Calls Try.prog 3 args W fun e W' => ∃ v, e = .returned v ∧ Rows.fnSetTagsSpec.post enc Try.prog Try.f3 false true false false W args v W' := by
  have hW' := hW
  obtain ⟨p, q, hA0, hV, rfl, hfz, hnd⟩ := hW
  have hA : DataW.TrodAll enc Try.prog W 0 (fun _ => true) true Try.f3.params.toList args.toList ds p := hA0
  rw [pars] at hA hval
  obtain ⟨v0, vs0, d0, ds0, p0, q0, hargs, rfl, rfl, h0, r0⟩ := trodAll_cons hA
  obtain ⟨rfl, rfl, rfl⟩ := trodAll_nil r0
  obtain rfl : args = #[v0] := by cases args; simp_all
  obtain ⟨rfl, rfl⟩ := trodVars_none hV
  obtain ⟨ts, ht⟩ := tags_arg (hval 0 22 v0 rfl rfl) h0
  clear hA0
  simp only [List.append_nil] at hW'
  have hlt : ∀ x ∈ p0, x.block < W.heap.size := fun x hx => by simpa using hW'.lt x (by simpa using hx)
  refine (St.law W ts v0 ht).mono fun e W' ⟨_, he, hv, hg⟩ => ?_
  subst hv
  subst he
  have hbel : Below W.heap.size W W' := hg.below (Nat.le_refl _) fun _ _ h => h
  refine ⟨_, rfl, _, _, _, [], p0, [], hW', ?_, ?_, rfl, hbel.frame _, fun h => by cases h⟩
  · rw [resT]
    exact trodAll_mk1 (shut_bool undB _)
  · rw [pars]
    exact trodAll_mk1 (Below.trod lo rrT (of_decide_eq_true (by kernel_rfl)) h0 hbel hlt)

theorem lifted (os : Os) (started : os.Started) (H : Type) (enc : TypeId × Value → H) :
    ReturnsInHanded {} Try.checked os 3 .any (Rows.fnSetTagsSpec.pre6 enc Try.prog Try.f3 Rows.fnSetTagsRow.domain false) (Rows.fnSetTagsSpec.post enc Try.prog Try.f3 false true false false) := by
  refine returnsInHanded_of_change_sized (C := Try.checked) own started (by kernel_rfl) Try.func3
    (ChangeSpec.witness6 (enc := enc) (C := Try.checked) false ⟨#[], #[.slice none 0 0], []⟩ 8 (by kernel_rfl) (by kernel_rfl) (by kernel_rfl) (by kernel_rfl)) ?_
  intro W base args ds gs before hval hW _ _ _
  exact contract H enc W base args ds gs before hval hW

theorem over : Rows.fnSetTagsRow.holds Try.pinned (OpenSpec.ofChange Rows.fnSetTagsSpec) :=
  OpenClaim.holds_of_wide 3 Try.f3 rfl rfl rfl rfl rfl rfl rfl ⟨rfl, rfl, rfl, rfl, rfl⟩ rfl rfl rfl rfl rfl (by kernel_rfl) Try.func3 (by kernel_rfl)
    (of_decide_eq_true (by kernel_rfl)) (by unfold Func.isWrapper; first | (rw [if_pos (by decide +kernel)]; kernel_rfl) | (rw [if_neg (by decide +kernel)]; exact ⟨rfl, rfl⟩))
    (fun os started H enc _ => lifted os started H enc)
theorem proved : Rows.FnSetTagsSaid := over
#print axioms proved
end Go.Proofs.Ytagmcjolgfkcaaa.fnSetTags
namespace Go.Proofs.Ytagmcjolgfkcaaa
/-- The row, under a short name, for the claim. -/
theorem fnSetTags_holds : Rows.FnSetTagsSaid := fnSetTags.proved
end Go.Proofs.Ytagmcjolgfkcaaa
