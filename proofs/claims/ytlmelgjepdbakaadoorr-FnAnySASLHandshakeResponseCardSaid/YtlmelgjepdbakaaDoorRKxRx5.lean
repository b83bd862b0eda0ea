/- A list that is cut to nothing and grows by the things that are to be read. -/
import Derived.Test.YtlmelgjepdbakaaDoorRKxRx4
namespace Go.Kx
open Go.RowKit
set_option linter.unusedSimpArgs false
set_option linter.unusedVariables false

/-- 'a = a[:0]; if l > 0 { a = append(a, make([]T, l)...) }' -/
def growOf (P : Program) (L : List Nat) (a ln : Nat) (T : Ty) (cs : List Code) : Option (TypeId × List Code) :=
  match cs with
  | c1 :: c2 :: .cond (.tmp tc') A B :: rest =>
    match canR c1, canR c2, flat A with
    | some ⟨[(.slice t (.tmp a2) none (some (.const (.int .i64 0))) none, _)], (a', 1) :: b⟩, some ⟨[(.binOp .gtr _ (.tmp ln2) (.const (.int .i32 0)) _, _)], (tc, 1) :: b1⟩, [c3] =>
      match canR c3 with
      | some ⟨[(op, _)], (a'', 1) :: b2⟩ => match asApp op with
        | some (.tmp a3, .tmp ln3, t1, it) => match elemZ P t1 it T with
          | some te => if a2 == 2 * a && a' == a && a'' == a && a3 == 2 * a && ln2 == 2 * ln && ln3 == 2 * ln && tc == tc' && t == t1 && (flat B).isEmpty &&
              free (ln :: L) ((a', 1) :: b) && free (a :: ln :: L) ((tc, 1) :: b1) && free (ln :: L) ((a'', 1) :: b2) then some (te, rest) else none
          | none => none
        | _ => none
      | _ => none
    | _, _, _ => none
  | _ => none

section
variable {P : Program} {n : Nat} {L : List Nat} {a ln : Nat} {T : Ty} {te : TypeId} {cs rest : List Code} {σ : Fm} {w : World} {Q : Exit → Fm → World → Prop}

theorem growOf_sound (h : growOf P L a ln T cs = some (te, rest)) {a0 : Option Addr} {n0 c0 : Nat} {z : Int} (ha : σ a = .slice a0 n0 c0) (hln : σ ln = .int .i32 z) (hz : z < 2147483648) (hnil : 0 < z → a0 = none ∧ c0 = 0)
    (h0 : z ≤ 0 → ∀ σ', σ' a = .slice a0 0 c0 → (∀ t ∈ ln :: L, σ' t = σ t) → CWL P n rest σ' w Q)
    (h1 : 0 < z → ∀ σ' w' c ca, σ' a = .slice (some ⟨w.heap.size, 0, none⟩) z.toNat c → z.toNat ≤ c → c ≤ 9223372036854775807 → Blk w' w.heap.size te ca → w'.heap.size = w.heap.size + 1 → z.toNat * T.size ≤ ca.length →
      (∀ j, j < z.toNat → (ca.drop (j * T.size)).take T.size = zeroC T) → Ch (fun _ => False) w w' → (∀ t ∈ ln :: L, σ' t = σ t) → CWL P n rest σ' w' Q) : CWL P n cs σ w Q := by
  unfold growOf at h
  split at h
  · rename_i c1 c2 tc' A B rest'
    split at h
    · rename_i t a2 ty1 a' b u1 ln2 u2 ty2 tc b1 c3 hcan1 hcan2 hA
      split at h
      · rename_i op ty3 a'' b2 hcan3
        split at h
        · rename_i a3 ln3 t1 it happ
          split at h
          · rename_i te' hz'
            split at h
            · rename_i hh
              simp only [Option.some.injEq, Prod.mk.injEq] at h
              obtain ⟨rfl, rfl⟩ := h
              simp only [Bool.and_eq_true, beq_iff_eq, List.isEmpty_iff] at hh
              obtain ⟨⟨⟨⟨⟨⟨⟨⟨⟨⟨⟨rfl, rfl⟩, rfl⟩, rfl⟩, rfl⟩, rfl⟩, rfl⟩, rfl⟩, hB⟩, hfree⟩, hfree1⟩, hfree2⟩ := hh
              obtain ⟨hsl, hit, i, zv, hi, hzv, hsz, hpos, hby, hcells⟩ := elemZ_spec hz'
              obtain rfl := asApp_spec happ
              refine CWL.reg hcan1 (OpK.slice0 hsl (by rw [hi]; rfl) (by simp only [ev_tmp, enF_two]; exact ha) rfl ?_)
              simp only [RC]
              generalize hσ1 : outF ((a'', 1) :: b) (upd (enF σ) (some (2 * 0 + 1)) (Value.slice a0 0 c0)) = σ1
              have ha1 : σ1 a'' = .slice a0 0 c0 := by rw [← hσ1, outF_head]; simp [upd]
              have hk1 : ∀ t ∈ ln :: L, σ1 t = σ t := fun t ht => by
                rw [← hσ1, outF_free hfree ht]
                show upd _ (some 1) _ (2 * t) = _
                rw [upd_odd _ _ _ _ (by omega), enF_two]
              have hln1 : σ1 ln = .int .i32 z := (hk1 ln (by simp)).trans hln
              refine CWL.reg hcan2 (OpK.cmp (op := .gtr) (k := .i32) (a := z) (b := 0) rfl (by simp only [ev_tmp, enF_two]; exact hln1) rfl ?_)
              simp only [RC]
              generalize hσ2 : outF ((tc, 1) :: b1) (upd (enF σ1) (some (2 * 0 + 1)) (Value.bool (decide (z > 0)))) = σ2
              have htc : σ2 tc = .bool (decide (z > 0)) := by rw [← hσ2, outF_head]; simp [upd]
              have hk2 : ∀ t ∈ a'' :: ln :: L, σ2 t = σ1 t := fun t ht => by
                rw [← hσ2, outF_free hfree1 ht]
                show upd _ (some 1) _ (2 * t) = _
                rw [upd_odd _ _ _ _ (by omega), enF_two]
              by_cases hgt : 0 < z
              · refine CWL.condT (by simp only [ev_tmp, htc]; congr 1; simp; exact hgt) ?_
                rw [hA, List.singleton_append]
                obtain ⟨hn1, hn2⟩ := hnil hgt
                subst hn1
                subst hn2
                have hzi : z = ((z.toNat : Nat) : Int) := by omega
                have hmul : z.toNat * i.bytes ≤ 281474976710656 := by
                  have h2 := Nat.mul_le_mul (show z.toNat ≤ 2147483648 by omega) hby
                  omega
                have hrun := run_zeros (P := P) w t it ty3 te' i zv .i32 .i32 hsl hit hi hzv z.toNat (by omega) (by omega) (by omega) hmul
                rw [← hzi] at hrun
                refine CWL.reg hcan3 (OpK.run rfl (by simp only [ev_tmp, enF_two]; rw [hk2 a'' (by simp), ha1, hk2 ln (by simp), hln1]; exact hrun) ?_)
                simp only [RC]
                refine h1 hgt _ _ (grownCap w z.toNat 0 te') ((Builtin.zeroCells zv.cells z.toNat).toList ++ (Builtin.zeroCells zv.cells (grownCap w z.toNat 0 te' - z.toNat)).toList) (by rw [outF_head]; simp [upd]) (grownCap_ge _ _ _ _) ?_ ?_ ?_ ?_ ?_ ?_ fun t ht => ?_
                · have := grownCap_le_maxLen w z.toNat 0 te' (by simp only [maxLen]; omega)
                  simp only [maxLen] at this
                  omega
                · have := Blk.new w.drew te' ((Builtin.zeroCells zv.cells z.toNat).toList ++ (Builtin.zeroCells zv.cells (grownCap w z.toNat 0 te' - z.toNat)).toList)
                  rw [show ((Builtin.zeroCells zv.cells z.toNat).toList ++ (Builtin.zeroCells zv.cells (grownCap w z.toNat 0 te' - z.toNat)).toList).toArray = Builtin.zeroCells zv.cells z.toNat ++ Builtin.zeroCells zv.cells (grownCap w z.toNat 0 te' - z.toNat) by
                    apply Array.ext'; simp] at this
                  exact this
                · simp
                · have hzc : zv.cells.size = T.size := by rw [← Array.length_toList, hcells, zeroC_len]
                  rw [List.length_append, zeros_len, hzc]
                  omega
                · intro j hj
                  have hzc : zv.cells.size = T.size := by rw [← Array.length_toList, hcells, zeroC_len]
                  have := zeros_at zv.cells z.toNat j (Builtin.zeroCells zv.cells (grownCap w z.toNat 0 te' - z.toNat)).toList hj
                  rw [hzc, hcells] at this
                  exact this
                · exact (Ch.drew _ w).trans' (Ch.alloc _ _ _)
                · rw [outF_free hfree2 ht]
                  show upd _ (some 1) _ (2 * t) = _
                  rw [upd_odd _ _ _ _ (by omega), enF_two, hk2 t (List.mem_cons_of_mem _ ht), hk1 t ht]
              · refine CWL.condF (by simp only [ev_tmp, htc]; congr 1; simp; omega) ?_
                rw [hB, List.nil_append]
                exact h0 (by omega) σ2 ((hk2 a'' (by simp)).trans ha1) fun t ht => (hk2 t (List.mem_cons_of_mem _ ht)).trans (hk1 t ht)
            · cases h
          · cases h
        · cases h
      · cases h
    · cases h
  · cases h
end
end Go.Kx
