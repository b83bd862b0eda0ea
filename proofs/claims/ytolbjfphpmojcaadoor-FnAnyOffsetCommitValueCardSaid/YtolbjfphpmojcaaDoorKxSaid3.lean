/- From a walk to a statement: laws over a list of octets. -/
import Derived.Test.YtolbjfphpmojcaaDoorKxSaid
namespace Go.Kx
open Go.ChangeShapes Go.WideShapes Go.ChangeAt Go.RowKit
set_option linter.unusedSimpArgs false
set_option linter.unusedVariables false
theorem sl_contract {H : Type} {enc : TypeId × Value → H} {P : Program} {f : FuncId} {fn : Func} {u8 sl bo : TypeId} {s : ChangeSpec} {W : World} {base : Nat} {args : Array Value} {ds gs : List (DataW H)} {before : List MemPlace}
    (hpar : fn.params = #[sl]) (hres : fn.resultTypes = #[bo]) (h8 : P.underlying u8 = some (.int .u8)) (hsl : P.underlying sl = some (.slice u8)) (hc : P.cellsOf u8 = 1) (hb : P.underlying bo = some .bool)
    (hlo : laidOutB P = true) (hrr : P.readableRec sl = true) (hlt : sl < P.types.size) (hvars : s.vars = []) (hs : ∀ d1, s.fn H [d1] = { results := [.lit (.bool true)], args := [d1] })
    (hval : ∀ (j : Nat) t v, fn.params[j]? = some t → args[j]? = some v → Value.okWide P W .any base t v)
    (hW : DataW.Whole enc P fn.params.toList s.vars false W args.toList ds gs before)
    (walk : ∀ src l, OctIs W (fun k => k < W.heap.size) l src → Calls P f #[src] W fun e w' => ∃ x, e = .returned x ∧ x = .bool true ∧ Ch (fun _ => False) W w') :
    Calls P f args W fun e W' => ∃ v, e = .returned v ∧ s.post enc P fn false true false false W args v W' := by
  have hW' := hW
  obtain ⟨p, q, hA0, hV, rfl, hfz, hnd⟩ := hW
  have hA : DataW.TrodAll enc P W 0 (fun _ => true) true fn.params.toList args.toList ds p := hA0
  rw [hpar] at hA hval
  obtain ⟨v1, vs1, d1, ds1, p1, q1, hargs1, rfl, rfl, h1, r1⟩ := trodAll_cons hA
  obtain ⟨rfl, rfl, rfl⟩ := trodAll_nil r1
  obtain rfl : args = #[v1] := by cases args; simp_all
  rw [hvars] at hV
  obtain ⟨rfl, rfl⟩ := trodVars_none hV
  obtain ⟨l, hl⟩ := src_open hsl h8 hc (hval 0 sl v1 rfl rfl) h1
  simp only [List.append_nil, List.nil_append] at hW'
  have hlt1 : ∀ x ∈ p1, x.block < W.heap.size := fun x hx => by simpa using hW'.lt x hx
  refine (walk v1 l hl).mono fun e W' ⟨x, he, hx, hg⟩ => ?_
  subst hx
  subst he
  have hbel : Below W.heap.size W W' := hg.below (Nat.le_refl _) fun _ _ h => h
  have hsp := hs d1
  refine ⟨_, rfl, _, _, _, [], p1, [], hW', ?_, ?_, ?_, hbel.frame _, fun h => by cases h⟩
  · rw [show ([d1] ++ [] : List (DataW H)) = [d1] from rfl, hsp, hres]
    exact trodAll_mk1 (shut_bool hb _)
  · rw [show ([d1] ++ [] : List (DataW H)) = [d1] from rfl, hsp, hpar]
    exact trodAll_mk1 (Below.trod hlo hrr hlt h1 hbel hlt1)
  · rw [show ([d1] ++ [] : List (DataW H)) = [d1] from rfl, hsp, hvars]
    rfl
end Go.Kx
