/- Versions, lists, tags and parts that may be null, as they are written; the whole check of a function that writes a message. -/
import Derived.Test.YtlmelgjepdbakaaDoorRKxApp
import Derived.Lib.SliceRun
namespace Go.Kx
open Go.RowKit
set_option linter.unusedSimpArgs false
set_option linter.unusedVariables false

section
variable {P : Program} {ρ : Operand → Value} {w : World} {K : Value → World → Prop} {d : Option Tmp} {ty : TypeId} {pos : String} {af : Array Edge} {g : Option (Nat × Bool)}
theorem OpK.eqNilSlice {x : Operand} {t u : TypeId} {s : Nat} {a : Option Addr} {n c : Nat} (ht : elemSize P t = some s) (hx : ρ x = .slice a n c) (hn : ρ (.const (.slice none 0 0)) = .slice none 0 0) (h : K (.bool a.isNone) w) :
    OpK P ρ ⟨d, .binOp .eql t x (.const (.slice none 0 0)) u, ty, pos, af, g⟩ w K := by
  unfold elemSize at ht
  split at ht
  · rename_i e he
    have hr := Lib.run_eql_slice_nil (P := P) w t e a n c 0 0 he
    simp only [OpK, execOp, hx, hn, eqGuard, Sem.run_bind]
    simp [hr, After]
    exact h
  · cases ht
theorem OpK.eqNilPtr {x : Operand} {t u e : TypeId} {a : Option Addr} (ht : P.underlying t = some (.pointer e)) (hx : ρ x = .pointer a) (hn : ρ (.const (.pointer none)) = .pointer none) (h : K (.bool a.isNone) w) :
    OpK P ρ ⟨d, .binOp .eql t x (.const (.pointer none)) u, ty, pos, af, g⟩ w K := by
  have hp : P.underlying t = some (.pointer (P.pointee t)) := by rw [ht]; simp [Program.pointee, ht]
  have hr := run_eql_pointer_nil (P := P) w t a hp
  simp only [OpK, execOp, hx, hn, eqGuard, Sem.run_bind]
  simp [hr, After]
  exact h
end

/-! ### Versions -/
def verGe (x : Sl) (L : List Nat) (m : Int) (cs : List Code) : Option (Code × List Code) :=
  match cs with
  | c1 :: .cond (.tmp tc') A B :: rest =>
    match canR c1 with
    | some ⟨[(.binOp .geq _ (.tmp v2) (.const (.int .i16 m')) _, _)], (tc, 1) :: b⟩ =>
      if v2 == 2 * x.ver && m == m' && tc == tc' && (flat B).isEmpty && free (x.dst :: L) ((tc, 1) :: b) then some (A, rest) else none
    | _ => none
  | _ => none

theorem verGe_sound {P : Program} {n : Nat} {x : Sl} {L : List Nat} {m : Int} {cs rest : List Code} {A : Code} (h : verGe x L m cs = some (A, rest)) {σ : Fm} {w : World} {Q : Exit → Fm → World → Prop} {ver : Int}
    (hv : σ x.ver = .int .i16 ver) (hk : ∀ σ', σ' x.dst = σ x.dst → (∀ t ∈ L, σ' t = σ t) → CWL P n (if ver ≥ m then flat A else []) σ' w (Then (fun σ' w' => CWL P n rest σ' w' Q) Q)) :
    CWL P n cs σ w Q := by
  unfold verGe at h
  split at h
  · rename_i c1 tc' A' B rest'
    split at h
    · rename_i t1 v2 m' t2 t3 tc b hcan
      split at h
      · rename_i hh
        simp only [Option.some.injEq, Prod.mk.injEq] at h
        obtain ⟨rfl, rfl⟩ := h
        simp only [Bool.and_eq_true, beq_iff_eq, List.isEmpty_iff] at hh
        obtain ⟨⟨⟨⟨rfl, rfl⟩, rfl⟩, hB⟩, hfree⟩ := hh
        refine CWL.reg hcan (OpK.cmp (op := .geq) (k := .i16) (a := ver) (b := m) rfl (by simp only [ev_tmp, enF_two]; exact hv) rfl ?_)
        simp only [RC]
        refine CWL.cons (CW.cond (t := decide (ver ≥ m)) (by simp only [ev_tmp, outF_head]; simp [upd]) (CW.of_flat ?_))
        have := hk (outF ((tc, 1) :: b) (upd (enF σ) (some (2 * 0 + 1)) (.bool (decide (ver ≥ m))))) (by rw [outF_free hfree (by simp), upd_odd _ _ _ _ (by omega), enF_two])
          (fun t ht => by rw [outF_free hfree (by simp [ht]), upd_odd _ _ _ _ (by omega), enF_two])
        by_cases hm : ver ≥ m
        · simpa [hm] using this
        · simpa [hm, hB] using this
      · cases h
    · cases h
  · cases h

/-- 'lo <= version && version <= hi' -/
def verRng (x : Sl) (L : List Nat) (lo hi : Int) (cs : List Code) : Option (Code × List Code) :=
  match cs with
  | .region _ ops false :: .cond (.tmp tc) A B :: rest =>
    match ops.toList with
    | [⟨some a, .move (.tmp v1), _, _, _, none⟩, ⟨some b, .binOp .geq _ (.tmp a') (.const (.int .i16 lo')) _, _, _, _, none⟩, ⟨some c, .move (.tmp b'), _, _, _, none⟩,
       ⟨some d, .move (.tmp v2), _, _, _, some (2, true)⟩, ⟨some e, .binOp .leq _ (.tmp d') (.const (.int .i16 hi')) _, _, _, _, some (2, true)⟩, ⟨some f, .pick (.tmp c') (.tmp e') (.const (.bool false)), _, _, _, none⟩] =>
      if v1 == x.ver && v2 == x.ver && a' == a && b' == b && c' == c && d' == d && e' == e && lo' == lo && hi' == hi && tc == f && (flat B).isEmpty &&
        [a, b, c, d, e, f].all (fun t => t != x.ver && t != x.dst && L.all fun s => s != t) && c != d && c != e && c != a && c != b then some (A, rest) else none
    | _ => none
  | _ => none

theorem verRng_sound {P : Program} {n : Nat} {x : Sl} {L : List Nat} {lo hi : Int} {cs rest : List Code} {A : Code} (h : verRng x L lo hi cs = some (A, rest)) {σ : Fm} {w : World} {Q : Exit → Fm → World → Prop} {ver : Int}
    (hv : σ x.ver = .int .i16 ver) (hk : ∀ σ', σ' x.dst = σ x.dst → (∀ t ∈ L, σ' t = σ t) → CWL P n (if ver ≥ lo ∧ ver ≤ hi then flat A else []) σ' w (Then (fun σ' w' => CWL P n rest σ' w' Q) Q)) :
    CWL P n cs σ w Q := by
  unfold verRng at h
  split at h
  · rename_i id ops tc A' B rest'
    split at h
    · rename_i a v1 ty1 p1 f1 b t2 a' lo' u2 ty2 p2 f2 c b' ty3 p3 f3 d v2 ty4 p4 f4 e t5 d' hi' u5 ty5 p5 f5 f c' e' ty6 p6 f6 hops
      split at h
      · rename_i hh
        simp only [Option.some.injEq, Prod.mk.injEq] at h
        obtain ⟨rfl, rfl⟩ := h
        simp only [Bool.and_eq_true, beq_iff_eq, List.isEmpty_iff, bne_iff_ne, ne_eq] at hh
        obtain ⟨⟨⟨⟨⟨⟨⟨⟨⟨⟨⟨⟨⟨⟨⟨rfl, rfl⟩, rfl⟩, rfl⟩, rfl⟩, rfl⟩, rfl⟩, rfl⟩, rfl⟩, rfl⟩, hB⟩, hall⟩, hcd⟩, hce⟩, hca⟩, hcb⟩ := hh
        have hne : ∀ t ∈ [a', b', c', d', e', tc], t ≠ x.ver ∧ t ≠ x.dst ∧ ∀ s ∈ L, s ≠ t := by
          intro t ht
          have := List.all_eq_true.1 hall t ht
          simp only [Bool.and_eq_true, bne_iff_ne, ne_eq, List.all_eq_true] at this
          exact ⟨this.1.1, this.1.2, this.2⟩
        have ha := hne a' (by simp)
        have hb := hne b' (by simp)
        have hc := hne c' (by simp)
        have hd := hne d' (by simp)
        have he := hne e' (by simp)
        have hf := hne tc (by simp)
        have hkeep : ∀ (σ' : Fm), (∀ t, t ≠ a' → t ≠ b' → t ≠ c' → t ≠ d' → t ≠ e' → t ≠ tc → σ' t = σ t) → σ' x.dst = σ x.dst ∧ ∀ t ∈ L, σ' t = σ t := fun σ' hσ =>
          ⟨hσ _ (Ne.symm ha.2.1) (Ne.symm hb.2.1) (Ne.symm hc.2.1) (Ne.symm hd.2.1) (Ne.symm he.2.1) (Ne.symm hf.2.1),
            fun t ht => hσ t (ha.2.2 t ht) (hb.2.2 t ht) (hc.2.2 t ht) (hd.2.2 t ht) (he.2.2 t ht) (hf.2.2 t ht)⟩
        have fin : ∀ (σ' : Fm) (r : Bool), σ' tc = .bool r → (r = true ↔ ver ≥ lo' ∧ ver ≤ hi') → (∀ t, t ≠ a' → t ≠ b' → t ≠ c' → t ≠ d' → t ≠ e' → t ≠ tc → σ' t = σ t) →
            CWL P n (.cond (.tmp tc) A' B :: rest') σ' w Q := by
          intro σ' r hr hri hσ
          refine CWL.cons (CW.cond (t := r) (by simpa using hr) (CW.of_flat ?_))
          have := hk σ' (hkeep σ' hσ).1 (hkeep σ' hσ).2
          by_cases hm : ver ≥ lo' ∧ ver ≤ hi'
          · rw [if_pos hm] at this
            have : r = true := hri.2 hm
            subst this
            simpa using ‹CWL P n (flat A') σ' w _›
          · rw [if_neg hm] at this
            have : r = false := by
              cases r
              · rfl
              · exact absurd (hri.1 rfl) hm
            subst this
            simpa [hB] using ‹CWL P n [] σ' w _›
        refine CWL.cons (CW.region ?_)
        rw [hops]
        have hopsA := arr_of_list hops
        simp only [RW, wantedB, if_true]
        refine OpK.move ?_
        refine OpK.cmp (op := .geq) (k := .i16) (a := ver) (b := lo') rfl (by simp [hv]) rfl ?_
        refine OpK.move ?_
        have hy : ∀ (τ : Fm) (r : Bool), τ c' = .bool r → yv ops τ 2 = some r := by
          intro τ r hr
          subst hopsA
          simp [yv, hr]
        have hyc := hy (upd (upd (upd σ (some a') (ev σ (.tmp x.ver))) (some b') (.bool (decide (ver ≥ lo')))) (some c') (ev (upd (upd σ (some a') (ev σ (.tmp x.ver))) (some b') (.bool (decide (ver ≥ lo')))) (.tmp b')))
          (decide (ver ≥ lo')) (by simp)
        rw [hyc]
        by_cases hlo : ver ≥ lo'
        · simp only [hlo, decide_true, BEq.rfl, if_true]
          refine OpK.move ?_
          have hyc2 : ∀ v, yv ops (upd (upd (upd (upd σ (some a') (ev σ (.tmp x.ver))) (some b') (.bool true)) (some c') (ev (upd (upd σ (some a') (ev σ (.tmp x.ver))) (some b') (.bool true)) (.tmp b'))) (some d') v) 2 = some true :=
            fun v => hy _ true (by rw [upd_ne _ _ hcd]; simp)
          rw [hyc2]
          simp only [BEq.rfl, if_true]
          refine OpK.cmp (op := .leq) (k := .i16) (a := ver) (b := hi') rfl (by
            simp only [ev_tmp, upd_same]
            rw [upd_ne _ _ (Ne.symm hc.1), upd_ne _ _ (Ne.symm hb.1), upd_ne _ _ (Ne.symm ha.1), hv]) rfl ?_
          refine OpK.pick (b := true) (by simp only [ev_tmp]; rw [upd_ne _ _ hce, upd_ne _ _ hcd]; simp) ?_
          simp only [if_true, ev_tmp, upd_same]
          refine fin _ (decide (ver ≤ hi')) (by simp) (by simp [hlo]) fun t h1 h2 h3 h4 h5 h6 => ?_
          rw [upd_ne _ _ h6, upd_ne _ _ h5, upd_ne _ _ h4, upd_ne _ _ h3, upd_ne _ _ h2, upd_ne _ _ h1]
        · have hfalse : (decide (ver ≥ lo')) = false := by simpa using hlo
          simp only [hfalse, show ((some false : Option Bool) == some true) = false from rfl, Bool.false_eq_true, if_false]
          have hyc2 : yv ops (upd (upd (upd (upd σ (some a') (ev σ (.tmp x.ver))) (some b') (.bool false)) (some c') (ev (upd (upd σ (some a') (ev σ (.tmp x.ver))) (some b') (.bool false)) (.tmp b'))) (some d') undef) 2 = some false :=
            hy _ false (by rw [upd_ne _ _ hcd]; simp)
          rw [hyc2]
          simp only [show ((some false : Option Bool) == some true) = false from rfl, Bool.false_eq_true, if_false]
          refine OpK.pick (b := false) (by simp only [ev_tmp]; rw [upd_ne _ _ hce, upd_ne _ _ hcd]; simp) ?_
          simp only [Bool.false_eq_true, if_false, ev_const]
          refine fin _ false (by simp) (by simp; intro h; exact absurd h hlo) fun t h1 h2 h3 h4 h5 h6 => ?_
          rw [upd_ne _ _ h6, upd_ne _ _ h5, upd_ne _ _ h4, upd_ne _ _ h3, upd_ne _ _ h2, upd_ne _ _ h1]
      · cases h
    · cases h
  · cases h

end Go.Kx
