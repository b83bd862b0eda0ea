/- The functions that lay the defaults of a part. -/
import Derived.Test.YtlmelgjepdbakaaDoorRKxRx9
namespace Go.Kx
open Go.RowKit
set_option linter.unusedSimpArgs false
set_option linter.unusedVariables false

def dfOne (P : Program) (T : Ty) (c : Code) : Option (Nat × V) :=
  match canR c with
  | some ⟨[(.nilCheck (.tmp 0), _), (.fieldAddr tid (.tmp 1) k, _), (.store st (.tmp 3) (.const (.int kk z)), _)], b⟩ =>
    match T.fld k with
    | some (ty, off) => if decide (ty = .int kk) && fieldOff P tid k == some off && (P.info? st).map (·.size) == some 1 && kk.wrap z == z && free [0] b then some (k, .i z) else none
    | none => none
  | _ => none
def dfS (P : Program) (T : Ty) : List Code → Option (List (Nat × V))
  | [] => some []
  | c :: cs => match dfOne P T c, dfS P T cs with
    | some x, some l => some (x :: l)
    | _, _ => none
def chkDf (P : Program) (fn : Func) (T : Ty) : Option (List (Nat × V)) :=
  match fn.body with
  | some c => if fits fn.ntmps c && Nat.ble 1 fn.ntmps && fn.results.toList.isEmpty then dfS P T (flat c) else none
  | none => none

theorem dfS_sound {P : Program} {n : Nat} {T : Ty} {g o : Nat} {t : TypeId} {S : Nat → Prop} (hg : ¬ S g) : ∀ (cs : List Code) {ps : List (Nat × V)} {σ : Fm} {w : World} {cells : List Value} {v : V} {Q : Exit → Fm → World → Prop}, dfS P T cs = some ps → σ 0 = .pointer (some ⟨g, o, none⟩) → Blk w g t cells →
    Rep w S T v ((cells.drop o).take T.size) → o + T.size ≤ cells.length →
    (∀ σ' w' c', Blk w' g t (spl cells o c') → Rep w' S T (v.puts ps) c' → Ch (fun k => k = g) w w' → Q .normal σ' w') → CWL P n cs σ w Q
  | [], ps, σ, w, cells, v, Q, h, hp, hb, hr, hl, hk => by
    simp only [dfS, Option.some.injEq] at h
    subst h
    have hsz := hr.size
    refine hk σ w _ ?_ hr (Ch.refl _ _)
    have : spl cells o ((cells.drop o).take T.size) = cells := by
      apply List.ext_getElem?
      intro i
      rw [spl_get (by omega), hsz, List.getElem?_take, List.getElem?_drop]
      by_cases h1 : i < o
      · rw [if_pos h1]
      · rw [if_neg h1]
        by_cases h2 : i < o + T.size
        · rw [if_pos h2, if_pos (by omega)]
          congr 1
          omega
        · rw [if_neg h2]
    rw [this]
    exact hb
  | c :: cs, ps, σ, w, cells, v, Q, h, hp, hb, hr, hl, hk => by
    simp only [dfS] at h
    split at h
    · rename_i x l hx hrest
      simp only [Option.some.injEq] at h
      subst h
      unfold dfOne at hx
      split at hx
      · rename_i ty1 tid k ty2 st kk z ty3 b hc
        split at hx
        · rename_i ty off hf
          split at hx
          · rename_i hh
            simp only [Option.some.injEq] at hx
            subst hx
            simp only [Bool.and_eq_true, beq_iff_eq, decide_eq_true_eq] at hh
            obtain ⟨⟨⟨⟨rfl, hoff⟩, hst⟩, hw⟩, hfree⟩ := hh
            have hu : Rep w S (.int kk) (.i z) [.int kk z] := ⟨rfl, hw⟩
            obtain ⟨_, _, _, _, hbd⟩ := hr.fld hf
            have hsz := hr.size
            simp only [Ty.size] at hbd
            refine CWL.reg hc ?_
            refine OpK.nilCheck (a := ⟨g, o, none⟩) (by simp only [ev_tmp]; exact (enF_two σ 0).trans hp) ?_
            refine OpK.fieldAddr hoff (a := ⟨g, o, none⟩) (by simp [upd]) ?_
            refine OpK.storeV (c := [.int kk z]) (v := .int kk z) (g := g) (o := o + off) (tG := t) (cells := cells) (by rw [hst]; rfl) (by simp [upd, add_at]) rfl (.inr rfl) (fun u hu => by simp at hu; subst hu; rfl) hb (by simp only [List.length_cons, List.length_nil]; omega) ?_
            simp only [RC]
            have hb2 := hb.setCells [.int kk z] (o + off) (by simp only [List.length_cons, List.length_nil]; omega)
            have hc2 := setCells_ch g [.int kk z] (o + off) w
            have hk2 : ∀ k, S k → (w.setCells g (o + off) [.int kk z]).heap[k]? = w.heap[k]? := fun k hS => setCells_heap g _ _ _ _ fun e => hg (e ▸ hS)
            have hr2 : Rep (w.setCells g (o + off) [.int kk z]) S T (v.put k (.i z)) (((spl cells (o + off) [.int kk z]).drop o).take T.size) := by
              rw [spl_sub (by simp only [List.length_cons, List.length_nil]; omega) hl]
              exact (hr.put hf hu).keep hk2
            have hl2 : o + T.size ≤ (spl cells (o + off) [.int kk z]).length := by rw [spl_len (by simp only [List.length_cons, List.length_nil]; omega)]; exact hl
            refine dfS_sound hg cs hrest ?_ hb2 hr2 hl2 fun σ' w' c' hb3 hr3 hc3 => hk σ' w' c' ?_ hr3 (hc2.trans' hc3)
            · rw [outF_free hfree (by simp), upd_odd _ _ _ _ (by omega), upd_odd _ _ _ _ (by omega), upd_odd _ _ _ _ (by omega), enF_two]
              exact hp
            · have hc'l := hr3.size
              have hl1 : off + 1 ≤ T.size := by omega
              have : spl (spl cells (o + off) [.int kk z]) o c' = spl cells o c' := by
                apply List.ext_getElem?
                intro i
                rw [spl_get (by omega), spl_get (by simp only [List.length_cons, List.length_nil]; omega), spl_get (by omega)]
                by_cases h1 : i < o
                · rw [if_pos h1, if_pos h1, if_pos (by omega)]
                · rw [if_neg h1, if_neg h1]
                  by_cases h2 : i < o + c'.length
                  · rw [if_pos h2, if_pos h2]
                  · rw [if_neg h2, if_neg h2, if_neg (by omega), if_neg (by simp only [List.length_cons, List.length_nil]; omega)]
              rw [this] at hb3
              exact hb3
          · cases hx
        · cases hx
      · cases hx
    · cases h

theorem chkDf_ok {P : Program} {gE : Nat} {eV : Value} {f : FuncId} {fn : Func} {T : Ty} {ps : List (Nat × V)} (hf : P.funcs[f]? = some fn) (h : chkDf P fn T = some ps) : RfOk P gE eV f (.dflt T ps) := by
  intro w S g o t cells v hb hr hl hg
  unfold chkDf at h
  split at h
  · rename_i c hbody
    split at h
    · rename_i hh
      simp only [Bool.and_eq_true, List.isEmpty_iff] at hh
      refine (Calls.of_CW hf hbody hh.1.1 (by simpa using hh.1.2) (CW.of_flat ?_) (R := fun x w' => x = .tuple #[] ∧ ∃ c', Blk w' g t (spl cells o c') ∧ Rep w' S T (v.puts ps) c' ∧ Ch (fun k => k = g) w w')).mono fun en w' ⟨x, he, hx, hR⟩ => ⟨by rw [he, hx], hR⟩
      refine dfS_sound hg (flat c) h rfl hb hr hl fun σ' w' c' h1 h2 h3 => ?_
      simp only [Ends]
      exact ⟨.tuple #[], by unfold resOf; rw [hh.2], rfl, c', h1, h2, h3⟩
    · cases h
  · cases h
end Go.Kx
