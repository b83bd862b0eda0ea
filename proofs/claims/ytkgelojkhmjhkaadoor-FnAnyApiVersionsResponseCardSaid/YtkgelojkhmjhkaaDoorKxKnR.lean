/- Library texts In2 KnP KnR, joined. -/
import Derived.Test.YtkgelojkhmjhkaaDoorKxRx6
import Derived.Test.YtkgelojkhmjhkaaDoorKxIn
import Derived.Test.YtkgelojkhmjhkaaDoorKxRd2
import Derived.Test.YtkgelojkhmjhkaaDoorKxRx8
/- A list in a field that is there: it grows from nothing, in its own row or in a new one. -/
namespace Go.Kx
open Go.RowKit
set_option linter.unusedSimpArgs false
set_option linter.unusedVariables false

section
variable {P : Program} {n : Nat} {L : List Nat} {a ln : Nat} {T : Ty} {te : TypeId} {cs rest : List Code} {σ : Fm} {w : World} {Q : Exit → Fm → World → Prop}
theorem growIn_sound (h : growOf P L a ln T cs = some (te, rest)) {a0 : Option Addr} {n0 c0 : Nat} {z : Int} (ha : σ a = .slice a0 n0 c0) (hln : σ ln = .int .i32 z) (hz : z < 2147483648) (hrow : RowOf w T.size (.slice a0 n0 c0)) (hone : ∀ u ∈ zeroC T, u.oneCell' = true)
    (h0 : z ≤ 0 → ∀ σ', σ' a = .slice a0 0 c0 → (∀ t ∈ ln :: L, σ' t = σ t) → CWL P n rest σ' w Q)
    (h1 : 0 < z → ∀ σ' w' gb c ca te, σ' a = .slice (some ⟨gb, 0, none⟩) z.toNat c → z.toNat ≤ c → c ≤ 9223372036854775807 → Blk w' gb te ca → c * T.size ≤ ca.length →
      (∀ j, j < z.toNat → (ca.drop (j * T.size)).take T.size = zeroC T) → Ch (fun k => a0 = some ⟨k, 0, none⟩) w w' → (gb = w.heap.size ∨ a0 = some ⟨gb, 0, none⟩) → (∀ t ∈ ln :: L, σ' t = σ t) → CWL P n rest σ' w' Q) : CWL P n cs σ w Q := by
  unfold growOf at h
  split at h
  · rename_i c1 c2 tc' A B rest'
    split at h
    · rename_i t a2 ty1 a' b u1 ln2 u2 ty2 tc b1 c3 hcan1 hcan2 hA
      split at h
      · rename_i op ty3 a'' b2 hcan3
        split at h
        · rename_i a3 ln3 t1 it happ
          split at h
          · rename_i te' hz'
            split at h
            · rename_i hh
              simp only [Option.some.injEq, Prod.mk.injEq] at h
              obtain ⟨rfl, rfl⟩ := h
              simp only [Bool.and_eq_true, beq_iff_eq, List.isEmpty_iff] at hh
              obtain ⟨⟨⟨⟨⟨⟨⟨⟨⟨⟨⟨rfl, rfl⟩, rfl⟩, rfl⟩, rfl⟩, rfl⟩, rfl⟩, rfl⟩, hB⟩, hfree⟩, hfree1⟩, hfree2⟩ := hh
              obtain ⟨hsl, hit, i, zv, hi, hzv, hsz, hpos, hby, hcells⟩ := elemZ_spec hz'
              obtain rfl := asApp_spec happ
              refine CWL.reg hcan1 (OpK.slice0 hsl (by rw [hi]; rfl) (by simp only [ev_tmp, enF_two]; exact ha) rfl ?_)
              simp only [RC]
              generalize hσ1 : outF ((a'', 1) :: b) (upd (enF σ) (some (2 * 0 + 1)) (Value.slice a0 0 c0)) = σ1
              have ha1 : σ1 a'' = .slice a0 0 c0 := by rw [← hσ1, outF_head]; simp [upd]
              have hk1 : ∀ t ∈ ln :: L, σ1 t = σ t := fun t ht => by
                rw [← hσ1, outF_free hfree ht]
                show upd _ (some 1) _ (2 * t) = _
                rw [upd_odd _ _ _ _ (by omega), enF_two]
              have hln1 : σ1 ln = .int .i32 z := (hk1 ln (by simp)).trans hln
              refine CWL.reg hcan2 (OpK.cmp (op := .gtr) (k := .i32) (a := z) (b := 0) rfl (by simp only [ev_tmp, enF_two]; exact hln1) rfl ?_)
              simp only [RC]
              generalize hσ2 : outF ((tc, 1) :: b1) (upd (enF σ1) (some (2 * 0 + 1)) (Value.bool (decide (z > 0)))) = σ2
              have htc : σ2 tc = .bool (decide (z > 0)) := by rw [← hσ2, outF_head]; simp [upd]
              have hk2 : ∀ t ∈ a'' :: ln :: L, σ2 t = σ1 t := fun t ht => by
                rw [← hσ2, outF_free hfree1 ht]
                show upd _ (some 1) _ (2 * t) = _
                rw [upd_odd _ _ _ _ (by omega), enF_two]
              by_cases hgt : 0 < z
              · refine CWL.condT (by simp only [ev_tmp, htc]; congr 1; simp; exact hgt) ?_
                rw [hA, List.singleton_append]
                have hzi : z = ((z.toNat : Nat) : Int) := by omega
                obtain ⟨w', gb, c', ca, te2, hrun, g1, g2, g3, g4, g5, g6, g7⟩ := run_grow (P := P) (ty := ty3) w hz' hone hrow (n := z.toNat) (by omega) (by omega)
                rw [← hzi] at hrun
                refine CWL.reg hcan3 (OpK.run rfl (by simp only [ev_tmp, enF_two]; rw [hk2 a'' (by simp), ha1, hk2 ln (by simp), hln1]; exact hrun) ?_)
                simp only [RC]
                refine h1 hgt _ _ gb c' ca te2 (by rw [outF_head]; simp [upd]) g1 g2 g3 g4 g5 g6 g7 fun t ht => ?_
                rw [outF_free hfree2 ht]
                show upd _ (some 1) _ (2 * t) = _
                rw [upd_odd _ _ _ _ (by omega), enF_two, hk2 t (List.mem_cons_of_mem _ ht), hk1 t ht]
              · refine CWL.condF (by simp only [ev_tmp, htc]; congr 1; simp; omega) ?_
                rw [hB, List.nil_append]
                exact h0 (by omega) σ2 ((hk2 a'' (by simp)).trans ha1) fun t ht => (hk2 t (List.mem_cons_of_mem _ ht)).trans (hk1 t ht)
            · cases h
          · cases h
        · cases h
      · cases h
    · cases h
  · cases h
end
end Go.Kx

/- Known tags, plainly: fields one part behind the other; rounds of reading tags. -/
namespace Go.Kx
open Go.RowKit
set_option linter.unusedSimpArgs false
set_option linter.unusedVariables false

/-- Fields behind fields. -/
def catS : Sch → Sch → Sch
  | .nil, t => t
  | .val c k w r, t => .val c k w (catS r t)
  | .arrV c k nul w r, t => .arrV c k nul w (catS r t)
  | .arrS c k nul d e r, t => .arrS c k nul d e (catS r t)
  | .opt c k d e r, t => .opt c k d e (catS r t)
  | .tags k r, t => .tags k (catS r t)
  | .ktags k ts r, t => .ktags k ts (catS r t)
  | .ktag num k c f r, t => .ktag num k c f (catS r t)
theorem enc_cat {ver : Int} {fx : Bool} {s t : Sch} {v : V} : enc ver fx (catS s t) v = enc ver fx s v ++ enc ver fx t v := by
  induction s with
  | nil => rfl
  | val c k w r ih => simp only [catS, enc, ih, List.append_assoc]
  | arrV c k nul w r ih => simp only [catS, enc, ih, List.append_assoc]
  | arrS c k nul d e r _ ih => simp only [catS, enc, ih, List.append_assoc]
  | opt c k d e r _ ih => simp only [catS, enc, ih, List.append_assoc]
  | tags k r ih => simp only [catS, enc, ih, List.append_assoc]
  | ktags k ts r _ ih => simp only [catS, enc, ih, List.append_assoc]
  | ktag num k c f r _ ih => simp only [catS, enc, ih, List.append_assoc]
theorem dec_cat {ver : Int} {fx : Bool} {s t : Sch} : ∀ {v : V} {l : List UInt8}, dec ver fx (catS s t) v l = (dec ver fx s v l).bind fun x => dec ver fx t x.1 x.2 := by
  induction s with
  | nil => intro v l; rfl
  | val c k w r ih =>
    intro v l
    simp only [catS, dec, ih]
    split
    · rw [Option.bind_assoc]
    · rfl
  | arrV c k nul w r ih =>
    intro v l
    simp only [catS, dec, ih]
    split
    · simp only [Option.bind_assoc]
    · rfl
  | arrS c k nul d e r _ ih =>
    intro v l
    simp only [catS, dec, ih]
    split
    · simp only [Option.bind_assoc]
    · rfl
  | opt c k d e r _ ih =>
    intro v l
    simp only [catS, dec, ih]
    split
    · simp only [Option.bind_assoc]
      congr 1
      funext p
      split
      · rfl
      · simp only [Option.bind_assoc]
    · rfl
  | tags k r ih =>
    intro v l
    simp only [catS, dec, ih]
    split
    · simp only [Option.bind_assoc]
    · rfl
  | ktags k ts r _ ih =>
    intro v l
    simp only [catS, dec, ih]
    split
    · simp only [Option.bind_assoc]
    · rfl
  | ktag num k c f r _ _ => intro v l; simp only [catS, dec]; rfl

/-- A part with more fields behind. -/
def V.app : V → List V → V
  | .st l, r => .st (l ++ r)
  | v, _ => v
/-- No known tags, and all fields are among the first n. -/
def headB (n : Nat) : Sch → Bool
  | .nil => true
  | .val _ k _ r => Nat.blt k n && headB n r
  | .arrV _ k _ _ r => Nat.blt k n && headB n r
  | .arrS _ k _ _ _ r => Nat.blt k n && headB n r
  | .opt _ k _ _ r => Nat.blt k n && headB n r
  | .tags k r => Nat.blt k n && headB n r
  | .ktags _ _ _ => false
  | .ktag _ _ _ _ _ => false
theorem put_app {l r : List V} {k : Nat} {x : V} (h : k < l.length) : V.put (V.app (.st l) r) k x = V.app (V.put (.st l) k x) r := by
  simp only [V.put, V.app, List.set_append_left _ _ h]
theorem dec_app {ver : Int} {fx : Bool} {r : List V} {s : Sch} : ∀ {m : List V} {l : List UInt8}, headB m.length s = true → dec ver fx s (.app (.st m) r) l = (dec ver fx s (.st m) l).map fun y => (y.1.app r, y.2) := by
  induction s with
  | nil => intro m l _; rfl
  | val c k w r' ih =>
    intro m l h
    simp only [headB, Bool.and_eq_true, Nat.blt_eq] at h
    simp only [dec]
    split
    · cases decW fx w l with
      | none => rfl
      | some x => simp only [Option.bind_some]; rw [put_app h.1]; exact ih (by rw [List.length_set]; exact h.2)
    · exact ih h.2
  | arrV c k nul w r' ih =>
    intro m l h
    simp only [headB, Bool.and_eq_true, Nat.blt_eq] at h
    simp only [dec]
    split
    · cases decLen fx l with
      | none => rfl
      | some n =>
        simp only [Option.bind_some]
        cases decN (decW fx w) n.1.toNat n.2 with
        | none => rfl
        | some x => simp only [Option.bind_some]; rw [put_app h.1]; exact ih (by rw [List.length_set]; exact h.2)
    · exact ih h.2
  | arrS c k nul d e r' _ ih =>
    intro m l h
    simp only [headB, Bool.and_eq_true, Nat.blt_eq] at h
    simp only [dec]
    split
    · cases decLen fx l with
      | none => rfl
      | some n =>
        simp only [Option.bind_some]
        cases decN (dec ver fx e d) n.1.toNat n.2 with
        | none => rfl
        | some x => simp only [Option.bind_some]; rw [put_app h.1]; exact ih (by rw [List.length_set]; exact h.2)
    · exact ih h.2
  | opt c k d e r' _ ih =>
    intro m l h
    simp only [headB, Bool.and_eq_true, Nat.blt_eq] at h
    simp only [dec]
    split
    · cases decInt .i8 1 l with
      | none => rfl
      | some p =>
        simp only [Option.bind_some]
        split
        · exact ih h.2
        · cases dec ver fx e d p.2 with
          | none => rfl
          | some x => simp only [Option.bind_some]; rw [put_app h.1]; exact ih (by rw [List.length_set]; exact h.2)
    · exact ih h.2
  | tags k r' ih =>
    intro m l h
    simp only [headB, Bool.and_eq_true, Nat.blt_eq] at h
    simp only [dec]
    split
    · cases decTags l with
      | none => rfl
      | some x => simp only [Option.bind_some]; rw [put_app h.1]; exact ih (by rw [List.length_set]; exact h.2)
    · exact ih h.2
  | ktags k ts r' _ _ => intro m l h; cases h
  | ktag num k c f r' _ _ => intro m l h; cases h

/-! ### Rounds of reading tags -/
section
variable {step : Nat → V → List UInt8 → Option (Option V)} {k n : Nat} {v v' b : V} {s1 sa sb s2 : Rs} {x1 x2 : Nat}
def kH (step : Nat → V → List UInt8 → Option (Option V)) (k n : Nat) (v : V) (x : Nat) (z : List UInt8) : Dc V := fun l => match step x v z with
  | some o => o.bind fun v' => decK step k n v' l
  | none => decK step k n (v.put k (.tags (setTag (v.fld k).tagsOf x z))) l
def kG (step : Nat → V → List UInt8 → Option (Option V)) (k n : Nat) (v : V) (x y : Nat) : Dc V := fun l => (decSpan (y : Int) l).bind fun sp => kH step k n v x sp.1 sp.2
def kF (step : Nat → V → List UInt8 → Option (Option V)) (k n : Nat) (v : V) (x : Nat) : Dc V := fun l => (decUv l).bind fun s => kG step k n v x s.1 s.2
theorem decK_eq : decK step k (n + 1) v = fun l => (decUv l).bind fun key => kF step k n v key.1 key.2 := by funext l; rfl
theorem decK_unk (h1 : Got s1.o decUv x1 sa) (h2 : Got sa.o decUv x2 sb) (hst : step x1 v ((rdSpan (x2 : Int) sb).1.getD []) = none)
    (hb : Got (rdSpan (x2 : Int) sb).2.o (decK step k n (v.put k (.tags (setTag (v.fld k).tagsOf x1 ((rdSpan (x2 : Int) sb).1.getD []))))) b s2) : Got s1.o (decK step k (n + 1) v) b s2 := by
  rw [decK_eq]
  refine Got.bind (d2 := kF step k n v) h1 (Got.bind (d2 := kG step k n v x1) h2 (Got.bind (d2 := kH step k n v x1) (got_span _ _) ?_))
  unfold kH
  simp only [hst]
  exact hb
theorem decK_ok (h1 : Got s1.o decUv x1 sa) (h2 : Got sa.o decUv x2 sb) (hst : step x1 v ((rdSpan (x2 : Int) sb).1.getD []) = some (some v')) (hb : Got (rdSpan (x2 : Int) sb).2.o (decK step k n v') b s2) : Got s1.o (decK step k (n + 1) v) b s2 := by
  rw [decK_eq]
  refine Got.bind (d2 := kF step k n v) h1 (Got.bind (d2 := kG step k n v x1) h2 (Got.bind (d2 := kH step k n v x1) (got_span _ _) ?_))
  unfold kH
  simp only [hst, Option.bind_some]
  exact hb
theorem decK_bad (h1 : Got s1.o decUv x1 sa) (h2 : Got sa.o decUv x2 sb) (hst : step x1 v ((rdSpan (x2 : Int) sb).1.getD []) = some none) : Got s1.o (decK step k (n + 1) v) b Rs.fail := by
  rw [decK_eq]
  refine Got.bind (d2 := kF step k n v) h1 (Got.bind (d2 := kG step k n v x1) h2 (Got.bind (d2 := kH step k n v x1) (got_span _ _) ?_))
  unfold kH
  simp only [hst, Option.bind_none]
  unfold Got
  cases (rdSpan (x2 : Int) sb).2.o <;> rfl
end

/-- A list that is read alone. -/
theorem hold_list {ver : Int} {fx : Bool} {k : Nat} {d : V} {e : Sch} {l : List UInt8} {vs : List V} {s' : Rs} (hg : GotN ((decLen fx l).bind fun n => decN (dec ver fx e d) n.1.toNat n.2) vs s') :
    (s'.bad = true → dec ver fx (.arrS .all k none d e .nil) (holdV k) l = none) ∧ (s'.bad = false → ∃ x y, x.elems = vs ∧ dec ver fx (.arrS .all k none d e .nil) (holdV k) l = some y ∧ y.1.fld k = x) := by
  simp only [dec, Vc.ok, if_true]
  cases hd : decLen fx l with
  | none =>
    rw [hd] at hg
    exact ⟨fun _ => rfl, fun h => by rw [show s'.bad = true from hg] at h; cases h⟩
  | some n =>
    rw [hd] at hg
    simp only [Option.bind_some] at hg ⊢
    cases hn : decN (dec ver fx e d) n.1.toNat n.2 with
    | none =>
      rw [hn] at hg
      exact ⟨fun _ => rfl, fun h => by rw [show s'.bad = true from hg] at h; cases h⟩
    | some y =>
      rw [hn] at hg
      obtain ⟨rfl, rfl⟩ := hg
      refine ⟨fun h => (by cases h), fun _ => ⟨arrOf ver none n.1 y.1, _, ?_, rfl, ?_⟩⟩
      · unfold arrOf
        split
        · rfl
        · rename_i h0
          rw [show n.1.toNat = 0 by omega] at hn
          simp only [decN, Option.some.injEq] at hn
          rw [← hn]
          rfl
      · exact fld_put (by simp)
theorem hold_val {ver : Int} {fx : Bool} {k : Nat} {w : Wt} {l : List UInt8} {u : V} {s' : Rs} (hg : Got (some l) (decW fx w) u s') :
    (s'.bad = true → dec ver fx (.val .all k w .nil) (holdV k) l = none) ∧ (s'.bad = false → ∃ y, dec ver fx (.val .all k w .nil) (holdV k) l = some y ∧ y.1.fld k = u) := by
  simp only [dec, Vc.ok, if_true]
  unfold Got at hg
  rw [Option.bind_some] at hg
  cases hd : decW fx w l with
  | none =>
    rw [hd] at hg
    exact ⟨fun _ => rfl, fun h => by rw [show s'.bad = true from hg] at h; cases h⟩
  | some y =>
    rw [hd] at hg
    obtain ⟨rfl, rfl⟩ := hg
    exact ⟨fun h => (by cases h), fun _ => ⟨_, rfl, fld_put (by simp)⟩⟩
end Go.Kx

/- A list in a field that may be there: it is read anew, into its own row or into a new one. -/
namespace Go.Kx
open Go.RowKit
set_option linter.unusedSimpArgs false
set_option linter.unusedVariables false

theorem setCells_size (g : Nat) : ∀ (vs : List Value) (o : Nat) (w : World), (w.setCells g o vs).heap.size = w.heap.size
  | [], _, _ => rfl
  | v :: vs, o, w => by rw [World.setCells, setCells_size g vs]; simp [World.setCell]

/-- The row of a list. -/
def rowIs (c : Value) (k : Nat) : Prop := ∃ m cc, c = .slice (some ⟨k, 0, none⟩) m cc
theorem rowIs_iff {a : Option Addr} {n c k : Nat} : rowIs (.slice a n c) k ↔ a = some ⟨k, 0, none⟩ := ⟨fun ⟨m, cc, h⟩ => by cases h; rfl, fun h => ⟨n, c, by rw [h]⟩⟩
theorem RowOf.form {w : World} {size : Nat} {v : Value} (h : RowOf w size v) : ∃ a n c, v = .slice a n c := by
  rcases h with rfl | ⟨te, b, m, c, cur, rfl, _⟩ <;> exact ⟨_, _, _, rfl⟩
theorem RowOf.lt {w : World} {size : Nat} {v : Value} (h : RowOf w size v) {k : Nat} (hk : rowIs v k) : k < w.heap.size := by
  obtain ⟨m, cc, rfl⟩ := hk
  rcases h with h | ⟨te, b, m, c, cur, h, hb, _⟩
  · cases h
  · cases h; exact hb.lt
theorem RowOf.keep {w w' : World} {size : Nat} {v : Value} (h : RowOf w size v) (hk : ∀ k, rowIs v k → w'.heap[k]? = w.heap[k]?) : RowOf w' size v := by
  rcases h with rfl | ⟨te, b, m, c, cur, rfl, hb, hl, hc⟩
  · exact .inl rfl
  · exact .inr ⟨te, b, m, c, cur, rfl, hb.keep (hk b ⟨m, c, rfl⟩), hl, hc⟩
theorem RowOf.cut {w : World} {size : Nat} {a : Option Addr} {n c : Nat} (h : RowOf w size (.slice a n c)) : RowOf w size (.slice a 0 c) := by
  rcases h with h | ⟨te, b, m, c, cur, h, hb, hl, hc⟩
  · cases h; exact .inl rfl
  · cases h; exact .inr ⟨te, b, 0, _, cur, rfl, hb, hl, hc⟩
theorem RowOf.none_rep {w w' : World} {size : Nat} {e : Ty} {D : Nat → Prop} {a : Option Addr} {n c : Nat} (h : RowOf w size (.slice a n c)) (hD : ∀ k, rowIs (.slice a n c) k → D k) : ∃ v : V, v.elems = [] ∧ Rep w' D (.arr e) v [.slice a 0 c] := by
  rcases h with h | ⟨te, b, m, c, cur, h, hb, hl, hc⟩
  · cases h; exact ⟨.arrN, rfl, rfl⟩
  · cases h; exact ⟨.arr [], rfl, b, _, rfl, ⟨Nat.zero_le _, hc⟩, hD b ⟨_, _, rfl⟩, fun i v hv => by simp at hv⟩

theorem loadOf_raw {P : Program} {n : Nat} {L : List Nat} {p : Nat} {T e : Ty} {k off : Nat} {c : Code} {s : Nat} (h : loadOf P L p T k (.arr e) c = some s) {rest : List Code} {σ : Fm} {w : World} {Q : Exit → Fm → World → Prop} {g o : Nat} {cv : Value}
    (hp : σ p = .pointer (some ⟨g, o, none⟩)) (hf : T.fld k = some (.arr e, off)) (hc : w.cell? ⟨g, o + off, none⟩ = some cv) (hk : ∀ σ', (∀ t ∈ L, σ' t = σ t) → σ' s = cv → CWL P n rest σ' w Q) : CWL P n (c :: rest) σ w Q := by
  unfold loadOf at h
  split at h
  · rename_i p2 ty1 tid k' ty2 lt ty3 s' b hcan
    rw [hf] at h
    simp only at h
    split at h
    · rename_i hh
      simp only [Option.some.injEq] at h
      subst h
      simp only [Bool.and_eq_true, beq_iff_eq, decide_eq_true_eq] at hh
      obtain ⟨⟨⟨⟨rfl, hoff⟩, hlo⟩, _⟩, hfree⟩ := hh
      refine CWL.reg hcan ?_
      refine OpK.nilCheck (a := ⟨g, o, none⟩) (by simp only [ev_tmp, enF_two]; exact hp) ?_
      refine OpK.fieldAddr hoff (a := ⟨g, o, none⟩) (by simp [upd]) ?_
      refine OpK.load hlo (a := ⟨g, o + off, none⟩) (by simp [upd, add_at]) hc ?_
      refine hk _ (fun t ht => ?_) ?_
      · rw [outF_free hfree ht, upd_odd _ _ _ _ (by omega), upd_odd _ _ _ _ (by omega), upd_odd _ _ _ _ (by omega), enF_two]
      · rw [outF_head]; simp [upd]
    · cases h
  · cases h

theorem storeOf_raw {P : Program} {n : Nat} {L : List Nat} {p k vs off : Nat} {T ty : Ty} {c : Code} (h : storeOf P L p T k ty c = some vs) {rest : List Code} {σ : Fm} {w : World} {Q : Exit → Fm → World → Prop} {g o : Nat} {tG : TypeId} {cells cu : List Value}
    (hp : σ p = .pointer (some ⟨g, o, none⟩)) (hf : T.fld k = some (ty, off)) (hb : Blk w g tG cells) (hl : o + off + cu.length ≤ cells.length) (hcu : cu.length = ty.size) (h1 : ∀ u ∈ cu, u.oneCell' = true) (hv : Sv cu (σ vs))
    (hk : ∀ σ', (∀ t ∈ L, σ' t = σ t) → CWL P n rest σ' (w.setCells g (o + off) cu) Q) : CWL P n (c :: rest) σ w Q := by
  unfold storeOf at h
  split at h
  · rename_i p2 ty1 tid k' ty2 st v2 ty3 b hc
    rw [hf] at h
    simp only at h
    split at h
    · rename_i hh
      simp only [Option.some.injEq] at h
      subst h
      simp only [Bool.and_eq_true, beq_iff_eq, decide_eq_true_eq] at hh
      obtain ⟨⟨⟨⟨⟨rfl, hoff⟩, _⟩, h2⟩, hst⟩, hfree⟩ := hh
      obtain ⟨vs, rfl⟩ : ∃ vs, v2 = 2 * vs := ⟨v2 / 2, by have := Nat.div_add_mod v2 2; rw [h2] at this; exact this.symm⟩
      have hvs : 2 * vs / 2 = vs := Nat.mul_div_cancel_left vs (by decide)
      rw [hvs] at hv
      refine CWL.reg hc ?_
      refine OpK.nilCheck (a := ⟨g, o, none⟩) (by simp only [ev_tmp, enF_two]; exact hp) ?_
      refine OpK.fieldAddr hoff (a := ⟨g, o, none⟩) (by simp [upd]) ?_
      refine OpK.storeV (c := cu) (v := σ vs) (g := g) (o := o + off) (tG := tG) (cells := cells) (by rw [hst, hcu]) (by simp [upd, add_at]) ?_ hv h1 hb hl ?_
      · simp only [ev_tmp, Nat.mul_zero, Nat.zero_add, Nat.mul_one, Nat.reduceAdd, Nat.reduceMul]
        rw [upd_odd _ _ _ _ (by omega), upd_odd _ _ _ _ (by omega), enF_two]
      · simp only [RC]
        refine hk _ fun t ht => ?_
        rw [outF_free hfree ht, upd_odd _ _ _ _ (by omega), upd_odd _ _ _ _ (by omega), upd_odd _ _ _ _ (by omega), enF_two]
    · cases h
  · cases h

section
variable {X : Cx} {S : Nat → Prop} {r : Nat} {tR : TypeId} {T : Ty} {g o : Nat} {tG : TypeId} {L : List Nat} {fx : Bool} {ver : Int} {q p : Nat}

theorem rdArrIn_sound (hX : X.Sound) (hL : LIn X fx q p L) {k off : Nat} {e : Ty} {body : Nat → Nat → Nat → List Code → Bool} {gd : Dc V} {cs rest : List Code} (h : rdArr X fx L q p T k none e body cs = some rest) (hf : T.fld k = some (.arr e, off))
    (hbd : ∀ a ix ln cs, body a ix ln cs = true → ∀ (W : Nat → Prop) (ga : Nat) (te : TypeId) (m c : Nat), EStep X S W r tR e ga te m (ln :: a :: L) ix (InArr X fx ver q p r g o a ga m c) gd cs)
    {σ : Fm} {w : World} {cells : List Value} {cv : Value} {l : List UInt8} {Q : Exit → Fm → World → Prop} (hR : RdIs w S r tR ⟨l, false⟩) (hb : Blk w g tG cells) (hcv : cells[o + off]? = some cv) (hP : RP X fx ver q p r g o σ) (herr : w.cell? ⟨X.gE, 0, none⟩ = some X.eV)
    (hE : X.gE < w.heap.size ∧ X.gE ≠ r ∧ X.gE ≠ g ∧ ¬ rowIs cv X.gE) (hS : ∀ k, S k → k < w.heap.size ∧ k ≠ r ∧ k ≠ g ∧ ¬ rowIs cv k) (hrg : r ≠ g) (hrr : ¬ rowIs cv r) (hgr : ¬ rowIs cv g) (hrow : RowOf w e.size cv) (hone : ∀ u ∈ zeroC e, u.oneCell' = true)
    (hr : ((decLen fx l).bind fun n => decN gd n.1.toNat n.2) = none → ∀ σ' w', Ch (fun k => k = r ∨ rowIs cv k) w w' → σ' X.res = X.eV → Q .ret σ' w')
    (hk : ∀ σ' w' cv' vs s', GotN ((decLen fx l).bind fun n => decN gd n.1.toNat n.2) vs s' → RdIs w' S r tR s' → Ch (fun k => k = r ∨ k = g ∨ rowIs cv k) w w' → Blk w' g tG (cells.set (o + off) cv') → RowOf w' e.size cv' →
      (∃ v : V, v.elems = vs ∧ Rep w' (fun k => S k ∨ rowIs cv k ∨ (w.heap.size ≤ k ∧ k < w'.heap.size)) (.arr e) v [cv']) → (∀ k, rowIs cv' k → rowIs cv k ∨ w.heap.size ≤ k) → (∀ t ∈ L, σ' t = σ t) → CWL X.P X.n rest σ' w' Q) : CWL X.P X.n cs σ w Q := by
  have hlt : o + off < cells.length := (List.getElem?_eq_some_iff.1 hcv).1
  have hgl := hb.lt
  have hrl := hR.lt
  unfold rdArr at h
  split at h
  · rename_i c1 c2 cs2
    split at h
    · rename_i v0 hl1
      split at h
      · rename_i a hm1
        split at h
        · rename_i f ln cs3 hre
          split at h
          · rename_i hlen
            simp only [Bool.and_eq_true] at hlen
            obtain ⟨hlen, hwf⟩ := hlen
            split at h
            · rename_i cs4 hnul
              simp only [nulOf, Option.some.injEq] at hnul
              subst hnul
              split at h
              · rename_i cs5 hok
                split at h
                · rename_i te cs6 hgr'
                  split at h
                  · rename_i ix inner c7 c8 cs9 hlp
                    split at h
                    · rename_i hbody
                      split at h
                      · rename_i v1 hm2
                        split at h
                        · rename_i vs hst
                          split at h
                          · rename_i hvs
                            simp only [Option.some.injEq] at h
                            subst h
                            rw [beq_iff_eq] at hvs
                            subst hvs
                            have hbd' := hbd a ix ln _ hbody
                            obtain ⟨hcall, hrf⟩ := hX.ok f _ (isLen_spec hlen)
                            obtain ⟨a0, n0, c0, rfl⟩ := hrow.form
                            refine loadOf_raw hl1 hP.ptr hf ((hb.cell _).trans hcv) fun σ1 he1 hv0 => ?_
                            refine movOf_sound hm1 fun σ2 he2 ha2 => ?_
                            have hk2 : ∀ t ∈ L, σ2 t = σ t := fun t ht => (he2 t ht).trans (he1 t ht)
                            have hP2 := hP.keep hL hk2
                            have hc := hrf w S r tR ⟨l, false⟩ (fun k hk => (hS k hk).1) hR
                            rw [← hP2.rdr] at hc
                            refine reach_sound (R := fun x w2 => ∃ (m : Int) (s' : Rs), x = .int .i32 m ∧ RdIs w2 S r tR s' ∧ Ch (fun k => k = r) w w2 ∧ (-2147483648 ≤ m ∧ m < 2147483648) ∧ Got (some l) (decLen fx) m s')
                              (fun x hx => List.mem_cons_of_mem _ (hL.kn x hx)) (List.mem_cons_of_mem _ hL.rdr) hcall 8 hre hP2.kn (hc.mono fun en w2 ⟨m, s', he, h1, h2, h3, h4⟩ => ⟨_, he, m, s', rfl, h1, h2, h3, h4⟩) fun σ3 w3 x ⟨z, s3, hx, hr3, hc3, hz3, hg3⟩ hln3 he3 => ?_
                            subst hx
                            have ha3 : σ3 a = .slice a0 n0 c0 := ((he3 a (by simp)).trans ha2).trans hv0
                            have hk3 : ∀ t ∈ L, σ3 t = σ t := fun t ht => (he3 t (List.mem_cons_of_mem _ ht)).trans (hk2 t ht)
                            have hP3 := hP.keep hL hk3
                            have herr3 : w3.cell? ⟨X.gE, 0, none⟩ = some X.eV := (ch_cell hc3 (a := ⟨X.gE, 0, none⟩) hE.1 (fun e => hE.2.1 e) rfl).trans herr
                            have hs3 := hc3.size
                            refine okRet_sound hX hok hP3.rdr hr3 herr3 (fun hbad σ' hres => ?_) fun hgood σ4 he4 => ?_
                            · refine hr ?_ σ' w3 (hc3.mono fun _ _ h => .inl h) hres
                              unfold Got at hg3
                              simp only [Option.bind_some] at hg3
                              cases hd : decLen fx l with
                              | none => rfl
                              | some y => rw [hd] at hg3; rw [hg3.2] at hbad; cases hbad
                            · obtain ⟨l3, hd3, rfl⟩ : ∃ l3, decLen fx l = some (z, l3) ∧ s3 = ⟨l3, false⟩ := by
                                unfold Got at hg3
                                simp only [Option.bind_some] at hg3
                                cases hd : decLen fx l with
                                | none => rw [hd] at hg3; rw [show s3.bad = true from hg3] at hgood; cases hgood
                                | some y => rw [hd] at hg3; exact ⟨y.2, by rw [hg3.1], hg3.2⟩
                              have hln4 : σ4 ln = .int .i32 z := (he4 ln (by simp)).trans hln3
                              have ha4 : σ4 a = .slice a0 n0 c0 := (he4 a (by simp)).trans ha3
                              have hk4 : ∀ t ∈ L, σ4 t = σ t := fun t ht => (he4 t (by simp [ht])).trans (hk3 t ht)
                              have hb3 := hb.keep (hc3.block g hgl (Ne.symm hrg))
                              have hrow3 : RowOf w3 e.size (.slice a0 n0 c0) := hrow.keep fun k hk => hc3.block k (hrow.lt hk) fun e => hrr (e ▸ hk)
                              simp only [hd3, Option.bind_some] at hr hk
                              refine growIn_sound hgr' ha4 hln4 hz3.2 hrow3 hone (fun hz0 σ5 ha5 he5 => ?_) fun hz0 σ5 w5 gb c5 ca te5 ha5 hle5 hcap5 hb5 hsz5 hz5 hc5 hgb he5 => ?_
                              · -- nothing to read
                                have h0 : z.toNat = 0 := by omega
                                rw [h0] at hr hk
                                simp only [decN] at hr hk
                                have hk5 : ∀ t ∈ L, σ5 t = σ t := fun t ht => (he5 t (by simp [ht])).trans (hk4 t ht)
                                refine rdLoop_sound hlp (m := 0) (z := z) (by omega) hz3.2 (fun i w' => w' = w3) ((he5 ln (by simp)).trans hln4) rfl (fun i _ _ _ hi => by omega) fun σ6 w6 hw6 he6 => ?_
                                subst hw6
                                have hk6 : ∀ t ∈ L, σ6 t = σ t := fun t ht => (he6 t (by simp [ht])).trans (hk5 t ht)
                                refine movOf_sound hm2 fun σ7 he7 hv7 => ?_
                                have hp7 : σ7 p = .pointer (some ⟨g, o, none⟩) := (((he7 p hL.ptr).trans (hk6 p hL.ptr))).trans hP.ptr
                                refine storeOf_raw hst hp7 hf hb3 (cu := [.slice a0 0 c0]) (by simp only [List.length_cons, List.length_nil]; omega) rfl (by simp [Value.oneCell']) (.inr (by rw [hv7, he6 a (by simp), ha5])) fun σ8 he8 => ?_
                                have hb8 := hb3.setCells [.slice a0 0 c0] (o + off) (by simp only [List.length_cons, List.length_nil]; omega)
                                rw [← spl_one hlt] at hb8
                                have hh : ∀ k, k ≠ g → (w6.setCells g (o + off) [.slice a0 0 c0]).heap[k]? = w6.heap[k]? := fun k hk => setCells_heap g _ _ _ _ hk
                                have hs8 : (w6.setCells g (o + off) [.slice a0 0 c0]).heap.size = w6.heap.size := setCells_size _ _ _ _
                                refine hk σ8 _ (.slice a0 0 c0) [] ⟨l3, false⟩ ⟨rfl, rfl⟩ (hr3.keepG (hh r hrg) fun k hk => hh k (hS k hk).2.2.1) ((hc3.mono fun _ _ h => .inl h).trans' ((setCells_ch g _ _ _).mono fun _ _ h => .inr (.inl h))) hb8
                                  ((hrow3.keep fun k hk => hh k fun e => hgr (e ▸ hk)).cut) ?_ (fun k hk => .inl (rowIs_iff.2 (rowIs_iff.1 hk))) fun t ht => (he8 t ht).trans ((he7 t ht).trans (hk6 t ht))
                                exact hrow3.none_rep fun k hk => .inr (.inl hk)
                              · have hk5 : ∀ t ∈ L, σ5 t = σ t := fun t ht => (he5 t (by simp [ht])).trans (hk4 t ht)
                                have hP5 := hP.keep hL hk5
                                have hs5 := hc5.size
                                have hne : ∀ k, k < w.heap.size → ¬ rowIs (.slice a0 n0 c0) k → k ≠ gb := fun k h1 h2 e => by
                                  subst e
                                  rcases hgb with h | h
                                  · omega
                                  · exact h2 (rowIs_iff.2 h)
                                have hk35 : ∀ k, k < w.heap.size → ¬ rowIs (.slice a0 n0 c0) k → w5.heap[k]? = w3.heap[k]? := fun k h1 h2 => hc5.block k (by omega) fun h => h2 (rowIs_iff.2 h)
                                have hr5 : RdIs w5 S r tR ⟨l3, false⟩ := hr3.keepG (hk35 r hrl hrr) fun k hk => hk35 k (hS k hk).1 (hS k hk).2.2.2
                                have hA5 : ArrSt X S (fun k => k = r ∨ (k < w3.heap.size ∧ ¬ S k)) r tR e gb te5 z.toNat w5 [] ⟨l3, false⟩ ca := by
                                  refine ⟨hr5, hb5, Nat.le_trans (Nat.mul_le_mul_right _ hle5) hsz5, fun j x hx => by simp at hx, fun j _ hj => hz5 j hj, ?_, fun k hk => ?_, fun k hk => ⟨by have := (hS k hk).1; omega, fun hw => ?_⟩, .inl rfl, hne r hrl hrr, by have := hE.1; omega, hE.2.1, hne _ hE.1 hE.2.2.2⟩
                                  · rw [World.cell?_of_block (w := w3) (w' := w5) (a := ⟨X.gE, 0, none⟩) (hk35 _ hE.1 hE.2.2.2)]
                                    exact herr3
                                  · rcases hk with (rfl | hk) | rfl
                                    · omega
                                    · have := hk.1; omega
                                    · exact hb5.lt
                                  · rcases hw with (h | h) | h
                                    · exact (hS k hk).2.1 h
                                    · exact h.2 hk
                                    · exact hne k (hS k hk).1 (hS k hk).2.2.2 h
                                have hc35 : Ch (fun k => k = r ∨ rowIs (.slice a0 n0 c0) k) w w5 := (hc3.mono fun _ _ h => .inl h).trans' (hc5.mono fun _ _ h => .inr (rowIs_iff.2 h))
                                have hup : ∀ i, i < w.heap.size → rg r gb i → i = r ∨ rowIs (.slice a0 n0 c0) i := fun i hi hT => by
                                  rcases hT with rfl | rfl
                                  · exact .inl rfl
                                  · rcases hgb with h | h
                                    · omega
                                    · exact .inr (rowIs_iff.2 h)
                                refine rdAll_sound hlp (fun σ σ' hp he => ?_) (hbd' (fun k => k = r ∨ (k < w3.heap.size ∧ ¬ S k)) gb te5 z.toNat c5) (σ := σ5) (w := w5) ⟨hP5, ha5⟩ rfl hz3.2 ((he5 ln (by simp)).trans hln4) rfl hA5 (fun hn σ' w' hc' hres => ?_) fun σ6 w6 vs s6 ca6 hcl6 hg6 hvl hA6 hc6 he6 => ?_
                                · exact ⟨hp.1.keep hL fun t ht => he t (by simp [ht]), (he a (by simp)).trans hp.2⟩
                                · exact hr hn σ' w' (hc35.trans hc' hup) hres
                                · have hc36 := hc35.trans hc6 hup
                                  have hs6 := hc6.size
                                  have hk6 : ∀ t ∈ L, σ6 t = σ t := fun t ht => (he6 t (by simp [ht])).trans (hk5 t ht)
                                  have hb6 : Blk w6 g tG cells := hb.keep (hc36.block g hgl fun h => by rcases h with h | h; exact hrg h.symm; exact hgr h)
                                  refine movOf_sound hm2 fun σ7 he7 hv7 => ?_
                                  have hp7 : σ7 p = .pointer (some ⟨g, o, none⟩) := (((he7 p hL.ptr).trans (hk6 p hL.ptr))).trans hP.ptr
                                  refine storeOf_raw hst hp7 hf hb6 (cu := [.slice (some ⟨gb, 0, none⟩) z.toNat c5]) (by simp only [List.length_cons, List.length_nil]; omega) rfl (by simp [Value.oneCell']) (.inr (by rw [hv7, he6 a (by simp), ha5])) fun σ8 he8 => ?_
                                  have hb8 := hb6.setCells [.slice (some ⟨gb, 0, none⟩) z.toNat c5] (o + off) (by simp only [List.length_cons, List.length_nil]; omega)
                                  rw [← spl_one hlt] at hb8
                                  have hh : ∀ k, k ≠ g → (w6.setCells g (o + off) [.slice (some ⟨gb, 0, none⟩) z.toNat c5]).heap[k]? = w6.heap[k]? := fun k hk => setCells_heap g _ _ _ _ hk
                                  have hs8 : (w6.setCells g (o + off) [.slice (some ⟨gb, 0, none⟩) z.toNat c5]).heap.size = w6.heap.size := setCells_size _ _ _ _
                                  have hgg : gb ≠ g := fun e => hne g hgl hgr e.symm
                                  refine hk σ8 _ (.slice (some ⟨gb, 0, none⟩) z.toNat c5) vs s6 hg6 (hA6.rd.keepG (hh r hrg) fun k hk => hh k (hS k hk).2.2.1) ((hc36.mono fun _ _ h => by rcases h with h | h; exact .inl h; exact .inr (.inr h)).trans' ((setCells_ch g _ _ _).mono fun _ _ h => .inr (.inl h))) hb8
                                    (.inr ⟨te5, gb, _, _, ca6, rfl, hA6.blk.keep (hh gb hgg), by rw [hcl6]; exact hsz5, hcap5⟩) ?_ (fun k hk => ?_) fun t ht => (he8 t ht).trans ((he7 t ht).trans (hk6 t ht))
                                  · refine ⟨.arr vs, rfl, gb, c5, by rw [hvl], ⟨by omega, hcap5⟩, ?_, fun i v hv => ?_⟩
                                    · rcases hgb with h | h
                                      · exact .inr (.inr ⟨by omega, by have := hb5.lt; omega⟩)
                                      · exact .inr (.inl (rowIs_iff.2 h))
                                    · have hrv := hA6.done i v hv
                                      have hsz := hrv.size
                                      have hng : ∀ k, Ob (Wa (fun k => k = r ∨ (k < w3.heap.size ∧ ¬ S k)) gb) w6 k → k ≠ g := fun k hko e => by
                                        rw [e] at hko
                                        exact hko.2 (.inl (.inr ⟨by omega, fun h => (hS _ h).2.2.1 rfl⟩))
                                      refine ⟨_, hrv.keepMono (fun k hk => hh k (hng k hk)) (fun k hk => ?_), hsz, fun j u hu => ?_⟩
                                      · by_cases hkS : S k
                                        · exact .inl hkS
                                        · refine .inr (.inr ⟨?_, by have := hk.1; omega⟩)
                                          rcases Nat.lt_or_ge k w3.heap.size with h | h
                                          · exact absurd (Or.inl (Or.inr ⟨h, hkS⟩)) hk.2
                                          · omega
                                      · rw [List.getElem?_take] at hu
                                        split at hu
                                        · rw [List.getElem?_drop] at hu
                                          rw [(hA6.blk.keep (hh gb hgg)).cell]
                                          exact hu
                                        · cases hu
                                  · have := rowIs_iff.1 hk
                                    simp only [Option.some.injEq, Addr.mk.injEq, and_true] at this
                                    subst this
                                    rcases hgb with h | h
                                    · exact .inr (by omega)
                                    · exact .inl (rowIs_iff.2 h)
                          · cases h
                        · cases h
                      · cases h
                    · cases h
                  · cases h
                · cases h
              · cases h
            · cases h
          · cases h
        · cases h
      · cases h
    · cases h
  · cases h
theorem rdArrIn_use (n : Nat) (hX : X.Sound) (hL : LIn X fx q p L) {k off : Nat} {e : Ty} {body : Nat → Nat → Nat → List Code → Bool} {gd : Dc V} {cs : List Code} (h : rdArr X fx L q p T k none e body cs = some (cs.drop n)) (hf : T.fld k = some (.arr e, off))
    (hbd : ∀ a ix ln cs, body a ix ln cs = true → ∀ (W : Nat → Prop) (ga : Nat) (te : TypeId) (m c : Nat), EStep X S W r tR e ga te m (ln :: a :: L) ix (InArr X fx ver q p r g o a ga m c) gd cs)
    {σ : Fm} {w : World} {cells : List Value} {cv : Value} {l : List UInt8} {Q : Exit → Fm → World → Prop} (hR : RdIs w S r tR ⟨l, false⟩) (hb : Blk w g tG cells) (hcv : cells[o + off]? = some cv) (hP : RP X fx ver q p r g o σ) (herr : w.cell? ⟨X.gE, 0, none⟩ = some X.eV)
    (hE : X.gE < w.heap.size ∧ X.gE ≠ r ∧ X.gE ≠ g ∧ ¬ rowIs cv X.gE) (hS : ∀ k, S k → k < w.heap.size ∧ k ≠ r ∧ k ≠ g ∧ ¬ rowIs cv k) (hrg : r ≠ g) (hrr : ¬ rowIs cv r) (hgr : ¬ rowIs cv g) (hrow : RowOf w e.size cv) (hone : ∀ u ∈ zeroC e, u.oneCell' = true)
    (hr : ((decLen fx l).bind fun n => decN gd n.1.toNat n.2) = none → ∀ σ' w', Ch (fun k => k = r ∨ rowIs cv k) w w' → σ' X.res = X.eV → Q .ret σ' w')
    (hk : ∀ σ' w' cv' vs s', GotN ((decLen fx l).bind fun n => decN gd n.1.toNat n.2) vs s' → RdIs w' S r tR s' → Ch (fun k => k = r ∨ k = g ∨ rowIs cv k) w w' → Blk w' g tG (cells.set (o + off) cv') → RowOf w' e.size cv' →
      (∃ v : V, v.elems = vs ∧ Rep w' (fun k => S k ∨ rowIs cv k ∨ (w.heap.size ≤ k ∧ k < w'.heap.size)) (.arr e) v [cv']) → (∀ k, rowIs cv' k → rowIs cv k ∨ w.heap.size ≤ k) → (∀ t ∈ L, σ' t = σ t) → CWL X.P X.n (cs.drop n) σ' w' Q) : CWL X.P X.n cs σ w Q :=
  rdArrIn_sound hX hL h hf hbd hR hb hcv hP herr hE hS hrg hrr hgr hrow hone hr hk
end
end Go.Kx
