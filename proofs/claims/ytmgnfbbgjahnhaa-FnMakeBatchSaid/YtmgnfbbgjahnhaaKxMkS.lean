/- A batch as it is written: the statement FnMakeBatchSaid out of the law's walk. -/
import Derived.Test.YtmgnfbbgjahnhaaRows
import Derived.Test.YtmgnfbbgjahnhaaKxMk
import Derived.WalkKit
import Derived.ProofKit
import Derived.OpenShut
import Derived.Below
import Derived.SizedLaws
namespace Go.Proofs.Ytmgnfbbgjahnhaa.fnMakeBatch
open Go.ChangeShapes Go.WideShapes Go.ChangeAt Go.RowKit
set_option linter.unusedVariables false
set_option linter.unusedSimpArgs false
set_option maxRecDepth 100000

theorem own : ownKnob Try.prog.godebug = none := by kernel_rfl
theorem undB : Try.prog.underlying 4 = some .bool := by kernel_rfl
theorem undS : Try.prog.underlying 29 = some (.slice 5) := by kernel_rfl
theorem undO : Try.prog.underlying 5 = some (.int .u8) := by kernel_rfl
theorem c8 : Try.prog.cellsOf 5 = 1 := by kernel_rfl
theorem cS : Try.prog.cellsOf 29 = 1 := by kernel_rfl
theorem cBt : Try.prog.cellsOf 33 = 14 := by kernel_rfl
theorem pars : Try.f4.params = #[29, 33] := by kernel_rfl
theorem resT : Try.f4.resultTypes = #[4] := by kernel_rfl
theorem bulkIs {H : Type} : Go.Kx.BulkIs (H := H) Rows.uptoBulk Rows.uptoBulkAll := ⟨fun _ _ => by simp [Rows.uptoBulk], fun _ => by simp [Rows.uptoBulk], by simp [Rows.uptoBulk], fun _ _ => by simp [Rows.uptoBulk], fun _ => by simp [Rows.uptoBulk], by simp [Rows.uptoBulkAll], fun _ _ => by simp [Rows.uptoBulkAll]⟩
theorem lo : laidOutB Try.prog = true := by kernel_rfl
theorem rrS : Try.prog.readableRec 29 = true := by kernel_rfl
theorem rrB : Try.prog.readableRec 33 = true := by kernel_rfl
theorem und_i16 : Try.prog.underlying 31 = some (.int .i16) := by kernel_rfl
theorem cellsOf_i16 : Try.prog.cellsOf 31 = 1 := by kernel_rfl
theorem und_i32 : Try.prog.underlying 21 = some (.int .i32) := by kernel_rfl
theorem cellsOf_i32 : Try.prog.cellsOf 21 = 1 := by kernel_rfl
theorem und_i64 : Try.prog.underlying 2 = some (.int .i64) := by kernel_rfl
theorem cellsOf_i64 : Try.prog.cellsOf 2 = 1 := by kernel_rfl
theorem und_i8 : Try.prog.underlying 30 = some (.int .i8) := by kernel_rfl
theorem cellsOf_i8 : Try.prog.cellsOf 30 = 1 := by kernel_rfl
theorem stB : Go.Kx.structOf Try.prog 33 = some [(2, 0), (21, 1), (21, 2), (30, 3), (21, 4), (31, 5), (21, 6), (2, 7), (2, 8), (2, 9), (31, 10), (21, 11), (21, 12), (29, 13)] := by kernel_rfl
/-- The fields of a batch in memory. -/
theorem batch_of {H : Type} {enc : TypeId × Value → H} {W : World} {fuel : Nat} {cs : List Value} {x : DataW H × List MemPlace} (h : DataW.trod enc Try.prog W 0 (fun _ => true) true fuel 33 cs = some x) :
    ∃ (f0 f1 f2 f3 f4 f5 f6 f7 f8 f9 f10 f11 f12 : Int) (rec : List UInt8) (vr : Value), cs = [.int .i64 f0, .int .i32 f1, .int .i32 f2, .int .i8 f3, .int .i32 f4, .int .i16 f5, .int .i32 f6, .int .i64 f7, .int .i64 f8, .int .i64 f9, .int .i16 f10, .int .i32 f11, .int .i32 f12, vr] ∧ Go.Kx.SlIs W W.heap.size rec vr := by
  obtain ⟨xs, n, _, hx, hlen, hxl, hf⟩ := Go.Kx.struct_parts stB h
  rw [cBt] at hlen
  match cs, hlen with
  | [c0, c1, c2, c3, c4, c5, c6, c7, c8, c9, c10, c11, c12, c13], _ =>
    match xs, hxl with
    | [x0, x1, x2, x3, x4, x5, x6, x7, x8, x9, x10, x11, x12, x13], _ =>
      have h0 := hf 0 (2, 0) rfl
      have h1 := hf 1 (21, 1) rfl
      have h2 := hf 2 (21, 2) rfl
      have h3 := hf 3 (30, 3) rfl
      have h4 := hf 4 (21, 4) rfl
      have h5 := hf 5 (31, 5) rfl
      have h6 := hf 6 (21, 6) rfl
      have h7 := hf 7 (2, 7) rfl
      have h8 := hf 8 (2, 8) rfl
      have h9 := hf 9 (2, 9) rfl
      have h10 := hf 10 (31, 10) rfl
      have h11 := hf 11 (21, 11) rfl
      have h12 := hf 12 (21, 12) rfl
      have h13 := hf 13 (29, 13) rfl
      simp only [cellsOf_i16, cellsOf_i32, cellsOf_i64, cellsOf_i8, cS, List.drop_zero, List.take_succ_cons, List.take_zero, List.drop_succ_cons, List.getElem?_cons_zero, List.getElem?_cons_succ] at h0 h1 h2 h3 h4 h5 h6 h7 h8 h9 h10 h11 h12 h13
      obtain ⟨f0, e0, _, _⟩ := DataW.trod_int und_i64 h0
      simp only [List.cons.injEq, and_true] at e0
      subst e0
      obtain ⟨f1, e1, _, _⟩ := DataW.trod_int und_i32 h1
      simp only [List.cons.injEq, and_true] at e1
      subst e1
      obtain ⟨f2, e2, _, _⟩ := DataW.trod_int und_i32 h2
      simp only [List.cons.injEq, and_true] at e2
      subst e2
      obtain ⟨f3, e3, _, _⟩ := DataW.trod_int und_i8 h3
      simp only [List.cons.injEq, and_true] at e3
      subst e3
      obtain ⟨f4, e4, _, _⟩ := DataW.trod_int und_i32 h4
      simp only [List.cons.injEq, and_true] at e4
      subst e4
      obtain ⟨f5, e5, _, _⟩ := DataW.trod_int und_i16 h5
      simp only [List.cons.injEq, and_true] at e5
      subst e5
      obtain ⟨f6, e6, _, _⟩ := DataW.trod_int und_i32 h6
      simp only [List.cons.injEq, and_true] at e6
      subst e6
      obtain ⟨f7, e7, _, _⟩ := DataW.trod_int und_i64 h7
      simp only [List.cons.injEq, and_true] at e7
      subst e7
      obtain ⟨f8, e8, _, _⟩ := DataW.trod_int und_i64 h8
      simp only [List.cons.injEq, and_true] at e8
      subst e8
      obtain ⟨f9, e9, _, _⟩ := DataW.trod_int und_i64 h9
      simp only [List.cons.injEq, and_true] at e9
      subst e9
      obtain ⟨f10, e10, _, _⟩ := DataW.trod_int und_i16 h10
      simp only [List.cons.injEq, and_true] at e10
      subst e10
      obtain ⟨f11, e11, _, _⟩ := DataW.trod_int und_i32 h11
      simp only [List.cons.injEq, and_true] at e11
      subst e11
      obtain ⟨f12, e12, _, _⟩ := DataW.trod_int und_i32 h12
      simp only [List.cons.injEq, and_true] at e12
      subst e12
      obtain ⟨rec, hr, _⟩ := Go.Kx.bytes_of bulkIs undS undO c8 h13
      exact ⟨f0, f1, f2, f3, f4, f5, f6, f7, f8, f9, f10, f11, f12, rec, _, rfl, hr⟩

theorem batch_arg {H : Type} {enc : TypeId × Value → H} {W : World} {base : Nat} {v : Value} {d : DataW H} {p : List MemPlace} (hval : Value.okWide Try.prog W .any base 33 v) (h : DataW.Trod enc Try.prog W 0 (fun _ => true) true 33 v d p) :
    ∃ (f0 f1 f2 f3 f4 f5 f6 f7 f8 f9 f10 f11 f12 : Int) (rec : List UInt8) (vr : Value), v = .agg #[.int .i64 f0, .int .i32 f1, .int .i32 f2, .int .i8 f3, .int .i32 f4, .int .i16 f5, .int .i32 f6, .int .i64 f7, .int .i64 f8, .int .i64 f9, .int .i16 f10, .int .i32 f11, .int .i32 f12, vr] ∧ Go.Kx.SlIs W W.heap.size rec vr := by
  have hs := stB
  unfold Go.Kx.structOf at hs
  split at hs
  · rename_i fs hu
    obtain ⟨cs, rfl, _⟩ := okWide_struct hu hval
    obtain ⟨fuel, hf⟩ := h
    obtain ⟨f0, f1, f2, f3, f4, f5, f6, f7, f8, f9, f10, f11, f12, rec, vr, hc, hr⟩ := batch_of hf
    refine ⟨f0, f1, f2, f3, f4, f5, f6, f7, f8, f9, f10, f11, f12, rec, vr, ?_, hr⟩
    exact congrArg Value.agg (Array.ext' hc)
  · cases hs

theorem bytes_arg {H : Type} {enc : TypeId × Value → H} {W : World} {base : Nat} {v : Value} {d : DataW H} {p : List MemPlace} (hval : Value.okWide Try.prog W .any base 29 v) (h : DataW.Trod enc Try.prog W 0 (fun _ => true) true 29 v d p) :
    ∃ bs, Go.Kx.SlIs W W.heap.size bs v := by
  obtain ⟨fuel, hf⟩ := h
  obtain ⟨a, n, c, rfl⟩ := okWide_slice undS hval
  obtain ⟨l, h1, _⟩ := Go.Kx.bytes_of bulkIs undS undO c8 hf
  exact ⟨l, h1⟩

theorem contract (H : Type) (enc : TypeId × Value → H) (W : World) (base : Nat) (args : Array Value) (ds gs : List (DataW H)) (before : List MemPlace)
    (hval : ∀ (j : Nat) t v, Try.f4.params[j]? = some t → args[j]? = some v → Value.okWide Try.prog W .any base t v)
    (hW : DataW.Whole enc Try.prog Try.f4.params.toList Rows.fnMakeBatchSpec.vars false W args.toList ds gs before) :
    Calls Try.prog 4 args W fun e W' => ∃ v, e = .returned v ∧ Rows.fnMakeBatchSpec.post enc Try.prog Try.f4 false true false false W args v W' := by
  have hW' := hW
  obtain ⟨p, q, hA0, hV, rfl, hfz, hnd⟩ := hW
  have hA : DataW.TrodAll enc Try.prog W 0 (fun _ => true) true Try.f4.params.toList args.toList ds p := hA0
  rw [pars] at hA hval
  obtain ⟨v0, vs0, d0, ds0, p0, q0, hargs, rfl, rfl, h0, r0⟩ := trodAll_cons hA
  obtain ⟨v1, vs1, d1, ds1, p1, q1, hargs1, rfl, rfl, h1, r1⟩ := trodAll_cons r0
  obtain ⟨rfl, rfl, rfl⟩ := trodAll_nil r1
  subst hargs1
  obtain rfl : args = #[v0, v1] := by cases args; simp_all
  obtain ⟨rfl, rfl⟩ := trodVars_none hV
  obtain ⟨bs, hb⟩ := bytes_arg (hval 0 29 v0 rfl rfl) h0
  obtain ⟨f0, f1, f2, f3, f4, f5, f6, f7, f8, f9, f10, f11, f12, rec, vr, rfl, hr⟩ := batch_arg (hval 1 33 v1 rfl rfl) h1
  clear hA0
  simp only [List.append_nil] at hW'
  have hlt : ∀ x ∈ p0 ++ p1, x.block < W.heap.size := fun x hx => by simpa using hW'.lt x (by simpa using hx)
  refine (Mk.law W f0 f1 f2 f3 f4 f5 f6 f7 f8 f9 f10 f11 f12 vr rec hr v0 bs hb).mono fun e W' ⟨he, hg⟩ => ?_
  subst he
  have hbel : Below W.heap.size W W' := hg.below (Nat.le_refl _) fun _ _ h => h
  refine ⟨_, rfl, _, _, _, [], p0 ++ p1, [], hW', ?_, ?_, rfl, hbel.frame _, fun h => by cases h⟩
  · rw [resT]
    exact trodAll_mk1 (shut_bool undB _)
  · rw [pars]
    exact trodAll_cons_mk (Below.trod lo rrS (of_decide_eq_true (by kernel_rfl)) h0 hbel fun x hx => hlt x (by simp [hx])) (trodAll_mk1 (Below.trod lo rrB (of_decide_eq_true (by kernel_rfl)) h1 hbel fun x hx => hlt x (by simp [hx])))

theorem lifted (os : Os) (started : os.Started) (H : Type) (enc : TypeId × Value → H) :
    ReturnsInHanded {} Try.checked os 4 .any (Rows.fnMakeBatchSpec.pre6 enc Try.prog Try.f4 Rows.fnMakeBatchRow.domain false) (Rows.fnMakeBatchSpec.post enc Try.prog Try.f4 false true false false) := by
  refine returnsInHanded_of_change_sized (C := Try.checked) own started (by kernel_rfl) Try.func4
    (ChangeSpec.witness6 (enc := enc) (C := Try.checked) false ⟨#[], #[.slice none 0 0, .agg #[.int .i64 0, .int .i32 0, .int .i32 0, .int .i8 0, .int .i32 0, .int .i16 0, .int .i32 0, .int .i64 0, .int .i64 0, .int .i64 0, .int .i16 0, .int .i32 0, .int .i32 0, .slice none 0 0]], []⟩ 8 (by kernel_rfl) (by kernel_rfl) (by kernel_rfl) (by kernel_rfl)) ?_
  intro W base args ds gs before hval hW _ _ _
  exact contract H enc W base args ds gs before hval hW

theorem over : Rows.fnMakeBatchRow.holds Try.pinned (OpenSpec.ofChange Rows.fnMakeBatchSpec) :=
  OpenClaim.holds_of_wide 4 Try.f4 rfl rfl rfl rfl rfl rfl rfl ⟨rfl, rfl, rfl, rfl, rfl⟩ rfl rfl rfl rfl rfl (by kernel_rfl) Try.func4 (by kernel_rfl)
    (of_decide_eq_true (by kernel_rfl)) (by unfold Func.isWrapper; first | (rw [if_pos (by decide +kernel)]; kernel_rfl) | (rw [if_neg (by decide +kernel)]; exact ⟨rfl, rfl⟩))
    (fun os started H enc _ => lifted os started H enc)
theorem proved : Rows.FnMakeBatchSaid := over
#print axioms proved
end Go.Proofs.Ytmgnfbbgjahnhaa.fnMakeBatch
namespace Go.Proofs.Ytmgnfbbgjahnhaa
/-- The row, under a short name, for the claim. -/
theorem fnMakeBatch_holds : Rows.FnMakeBatchSaid := fnMakeBatch.proved
end Go.Proofs.Ytmgnfbbgjahnhaa
