/- From a walk to a statement: laws over one text, or one number of eight bits. -/
import Derived.Test.YtagmcjolgfkcaaaDoorKxSaid
import Derived.Test.YtagmcjolgfkcaaaDoorKxTxt
import Derived.ChangeMaps5
import Derived.Lib.LaidU8
namespace Go.Kx
open Go.ChangeShapes Go.WideShapes Go.ChangeAt Go.RowKit Go.ChangeMaps
set_option linter.unusedSimpArgs false
set_option linter.unusedVariables false

theorem tabOf {P : Program} {W : World} {name : String} {k : IntKind} {zs : List Int} {l : List (String × DataW Unit)} {g : Nat} {t e : TypeId} {n : Nat}
    (hg : P.globalNamed name = some g) (hty : (P.globals[g]?).map (·.type) = some t) (ht : P.underlying t = some (.array n e)) (he : P.underlying e = some (.int k)) (hce : P.cellsOf e = 1) (hct : P.cellsOf t = n)
    (hm : (name, Lib.tabData k zs) ∈ l) (h : laidMet P l W) : Lib.TabIs P W name k zs := by
  obtain ⟨g', t', cs, fuel, p, hg', ht', hvar, hd⟩ := Lib.laidMet.reads h hm
  obtain rfl := Option.some.inj (hg.symm.trans hg')
  obtain rfl := Option.some.inj (hty.symm.trans ht')
  unfold Lib.TabIs
  rw [hvar, ← Lib.cells_of_tab ht he hce hct hd]

theorem str_contract {H : Type} {enc : TypeId × Value → H} {P : Program} {f : FuncId} {fn : Func} {st bo : TypeId} {s : ChangeSpec} {W : World} {base : Nat} {args : Array Value} {ds gs : List (DataW H)} {before : List MemPlace}
    (hpar : fn.params = #[st]) (hres : fn.resultTypes = #[bo]) (hst : P.underlying st = some .string) (hb : P.underlying bo = some .bool) (hvars : s.vars = []) (hs : ∀ d1, s.fn H [d1] = { results := [.lit (.bool true)], args := [d1] })
    (hval : ∀ (j : Nat) t v, fn.params[j]? = some t → args[j]? = some v → Value.okWide P W .any base t v)
    (hW : DataW.Whole enc P fn.params.toList s.vars false W args.toList ds gs before)
    (walk : ∀ l, Calls P f #[strV l] W fun e w' => ∃ x, e = .returned x ∧ x = .bool true ∧ Ch (fun _ => False) W w') :
    Calls P f args W fun e W' => ∃ v, e = .returned v ∧ s.post enc P fn false true false false W args v W' := by
  have hW' := hW
  obtain ⟨p, q, hA0, hV, rfl, hfz, hnd⟩ := hW
  have hA : DataW.TrodAll enc P W 0 (fun _ => true) true fn.params.toList args.toList ds p := hA0
  rw [hpar] at hA hval
  obtain ⟨v0, vs0, d0, ds0, p0, q0, hargs, rfl, rfl, h0, r0⟩ := trodAll_cons hA
  obtain ⟨rfl, rfl, rfl⟩ := trodAll_nil r0
  obtain rfl : args = #[v0] := by cases args; simp_all
  rw [hvars] at hV
  obtain ⟨rfl, rfl⟩ := trodVars_none hV
  obtain ⟨sv, rfl, rfl, rfl, w0⟩ := open_string hst (hval 0 st v0 rfl rfl) h0
  simp only [List.append_nil, List.nil_append] at hW'
  have hsv : Value.string sv = strV sv.data.toList := rfl
  refine (hsv ▸ walk sv.data.toList).mono fun e W' ⟨x, he, hx, hg⟩ => ?_
  subst hx
  subst he
  have hbel : Below W.heap.size W W' := hg.below (Nat.le_refl _) fun _ _ h => h
  have hsp := hs (.lit (.string sv.data.toList))
  refine ⟨_, rfl, _, _, _, [], [], [], hW', ?_, ?_, ?_, hbel.frame _, fun h => by cases h⟩
  · rw [show ([.lit (.string sv.data.toList)] ++ [] : List (DataW H)) = [.lit (.string sv.data.toList)] from rfl, hsp, hres]
    exact trodAll_mk1 (shut_bool hb _)
  · rw [show ([.lit (.string sv.data.toList)] ++ [] : List (DataW H)) = [.lit (.string sv.data.toList)] from rfl, hsp, hpar]
    exact trodAll_mk1 (shut_string hst w0)
  · rw [show ([.lit (.string sv.data.toList)] ++ [] : List (DataW H)) = [.lit (.string sv.data.toList)] from rfl, hsp, hvars]
    rfl

theorem i8_contract {H : Type} {enc : TypeId × Value → H} {P : Program} {f : FuncId} {fn : Func} {st bo : TypeId} {s : ChangeSpec} {W : World} {base : Nat} {args : Array Value} {ds gs : List (DataW H)} {before : List MemPlace}
    (hpar : fn.params = #[st]) (hres : fn.resultTypes = #[bo]) (hst : P.underlying st = some (.int .i8)) (hb : P.underlying bo = some .bool) (hvars : s.vars = []) (hs : ∀ d1, s.fn H [d1] = { results := [.lit (.bool true)], args := [d1] })
    (hval : ∀ (j : Nat) t v, fn.params[j]? = some t → args[j]? = some v → Value.okWide P W .any base t v)
    (hW : DataW.Whole enc P fn.params.toList s.vars false W args.toList ds gs before)
    (walk : ∀ n : Int, -128 ≤ n ∧ n < 128 → Calls P f #[.int .i8 n] W fun e w' => ∃ x, e = .returned x ∧ x = .bool true ∧ Ch (fun _ => False) W w') :
    Calls P f args W fun e W' => ∃ v, e = .returned v ∧ s.post enc P fn false true false false W args v W' := by
  have hW' := hW
  obtain ⟨p, q, hA0, hV, rfl, hfz, hnd⟩ := hW
  have hA : DataW.TrodAll enc P W 0 (fun _ => true) true fn.params.toList args.toList ds p := hA0
  rw [hpar] at hA hval
  obtain ⟨v0, vs0, d0, ds0, p0, q0, hargs, rfl, rfl, h0, r0⟩ := trodAll_cons hA
  obtain ⟨rfl, rfl, rfl⟩ := trodAll_nil r0
  obtain rfl : args = #[v0] := by cases args; simp_all
  rw [hvars] at hV
  obtain ⟨rfl, rfl⟩ := trodVars_none hV
  obtain ⟨a0, rfl, rfl, rfl, w0⟩ := open_int hst (hval 0 st v0 rfl rfl) h0
  have hx : -128 ≤ a0 ∧ a0 ≤ 127 := by simpa [Lit.wf, IntKind.min, IntKind.max, IntKind.signed, IntKind.bits] using w0
  simp only [List.append_nil, List.nil_append] at hW'
  refine (walk a0 ⟨hx.1, by omega⟩).mono fun e W' ⟨x, he, hx, hg⟩ => ?_
  subst hx
  subst he
  have hbel : Below W.heap.size W W' := hg.below (Nat.le_refl _) fun _ _ h => h
  have hsp := hs (.lit (.int .i8 a0))
  refine ⟨_, rfl, _, _, _, [], [], [], hW', ?_, ?_, ?_, hbel.frame _, fun h => by cases h⟩
  · rw [show ([.lit (.int .i8 a0)] ++ [] : List (DataW H)) = [.lit (.int .i8 a0)] from rfl, hsp, hres]
    exact trodAll_mk1 (shut_bool hb _)
  · rw [show ([.lit (.int .i8 a0)] ++ [] : List (DataW H)) = [.lit (.int .i8 a0)] from rfl, hsp, hpar]
    exact trodAll_mk1 (shut_int hst w0)
  · rw [show ([.lit (.int .i8 a0)] ++ [] : List (DataW H)) = [.lit (.int .i8 a0)] from rfl, hsp, hvars]
    rfl
end Go.Kx
