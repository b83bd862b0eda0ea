/- Library texts KtW In In2, joined. -/
import Derived.Test.YtkgelojkhmjhkaaGreatDoorKxEqA
import Derived.Test.YtkgelojkhmjhkaaGreatDoorKxAgn
import Derived.Test.YtkgelojkhmjhkaaGreatDoorKxRun7
import Derived.Test.YtkgelojkhmjhkaaGreatDoorKxRx3
import Derived.Lib.AppendZerosOnto
import Derived.Test.YtkgelojkhmjhkaaGreatDoorKxRx6
/- Known tags are written: the slice of their numbers beside the octets. -/
namespace Go.Kx
open Go.RowKit
set_option linter.unusedSimpArgs false
set_option linter.unusedVariables false

structure KW (e eK : TypeId) (w : World) (te : Value) (keys : List Nat) (wl : World) (d : Value) (bs : List UInt8) : Prop where
  grew : Grew e w (.slice none 0 0) wl d bs
  keys : KOwn eK wl te keys
  apart : ∀ k, te.ownBlock = some k → d.ownBlock ≠ some k

theorem KW.more {e eK : TypeId} {w : World} {te : Value} {keys : List Nat} {wl w2 : World} {d d2 : Value} {bs bs2 : List UInt8} (h : KW e eK w te keys wl d bs) (hg : Grew e wl d w2 d2 bs2) : KW e eK w te keys w2 d2 bs2 := by
  refine ⟨h.grew.trans hg, h.keys.keep fun k hk => hg.keep (h.keys.lt hk) (h.apart k hk), fun k hk hd => ?_⟩
  rcases hg.blk k hd with h1 | h1
  · exact h.apart k hk h1
  · have := h.keys.lt hk; omega
theorem KW.calm {e eK : TypeId} {w : World} {te : Value} {keys : List Nat} {wl w2 : World} {d : Value} {bs : List UInt8} (h : KW e eK w te keys wl d bs) (hc : Ch (fun _ => False) wl w2) : KW e eK w te keys w2 d bs :=
  ⟨h.grew.later hc, h.keys.keep fun k hk => hc.block k (h.keys.lt hk) fun h => h, h.apart⟩
theorem KOwn.form {e : TypeId} {w : World} {v : Value} {ks : List Nat} (h : KOwn e w v ks) : ∃ a c, v = .slice a ks.length c ∧ ∀ i k, ks[i]? = some k → ∃ a', a = some a' ∧ w.cell? (a'.add (i * 1)) = some (kv k) := by
  rcases h.2 with ⟨rfl, hn⟩ | ⟨g, cap, cur, rfl, hb, hg, hnc, hm, hs, ht⟩
  · refine ⟨none, 0, by rw [hn], fun i k hi => ?_⟩
    rw [List.eq_nil_of_length_eq_zero hn] at hi
    simp at hi
  · refine ⟨some ⟨g, 0, none⟩, cap, rfl, fun i k hi => ⟨_, rfl, ?_⟩⟩
    rw [Nat.mul_one]
    exact World.ownsRow.cells h (g := g) rfl i (kv k) (by simp [hi])
theorem KOwn.nil (e : TypeId) (w : World) : KOwn e w (.slice none 0 0) [] := World.ownsRow_nil w 0 e 1
/-- The count of the tags, as it is handed on. -/
theorem count_word (n m : Nat) : IntKind.u32.wrap (IntKind.i64.wrap ((n : Int) + (m : Int))) = ((word (n + m) : Nat) : Int) := by
  rw [IntKind.wrap_i64, IntKind.wrap_u32]
  unfold word
  omega
end Go.Kx
namespace Go.Kx
open Go.RowKit
theorem Own.oct {e : TypeId} {w : World} {v : Value} {bs : List UInt8} (h : Own e w v bs) : OctIs w (fun k => v.ownBlock = some k) bs v := by
  rcases h.2 with ⟨rfl, hn⟩ | ⟨g, cap, cur, rfl, hb, hg, hnc, hm, hs, ht⟩
  · exact .inl ⟨rfl, List.eq_nil_of_length_eq_zero hn⟩
  · exact .inr ⟨⟨g, 0, none⟩, cap, rfl, hnc, rfl, fun i u hu => World.ownsRow.cells h (g := g) rfl i (bv u) (by simp [hu])⟩
theorem OctIs.form {w : World} {S : Nat → Prop} {l : List UInt8} {v : Value} (h : OctIs w S l v) : ∃ a c, v = .slice a l.length c ∧ l.length ≤ c ∧ (a = none → l = []) ∧ (∀ a', a = some a' → Oct w a' l) ∧ ∀ a', a = some a' → S a'.block := by
  rcases h with ⟨rfl, rfl⟩ | ⟨a, c, rfl, h1, h3, h2⟩
  · exact ⟨none, 0, rfl, Nat.le_refl _, fun _ => rfl, (fun _ h => by cases h), fun _ h => by cases h⟩
  · exact ⟨some a, c, rfl, h1, (fun h => by cases h), (fun a' h => by cases h; exact h2), fun a' h => by cases h; exact h3⟩
end Go.Kx

/- A list that is there grows from nothing by n new things: in its own row, or in a new one. -/
namespace Go.Kx
open Go.RowKit
set_option linter.unusedSimpArgs false
set_option linter.unusedVariables false

theorem run_zeros_in {P : Program} {n : Nat} (w : World) (t tn ty e : TypeId) (i : TypeInfo) (z : Value) (k kn : IntKind) (ht : P.underlying t = some (.slice e)) (htn : P.underlying tn = some (.int kn)) (hi : P.info? e = some i) (hz : i.zero = some z)
    (hzs : z.cells.size = i.size) (hone : ∀ u ∈ (Builtin.zeroCells z.cells n).toList, u.oneCell' = true) (c b : Nat) (te : TypeId) (cur : List Value) (hb : w.heap[b]? = some (.cells cur.toArray te (0, 0))) (hl : n * i.size ≤ cur.length)
    (h0 : 0 < n) (hs : 0 < i.size) (hc : n ≤ c) (h63 : (n : Int) ≤ 9223372036854775807) (h48 : n * i.bytes ≤ 281474976710656) :
    (Builtin.append_ #[t, tn] ty #[.slice (some ⟨b, 0, none⟩) 0 c, .int k n]).run P w =
      .ok (.slice (some ⟨b, 0, none⟩) n c) (w.setRow b (splice cur (Builtin.zeroCells z.cells n).toList 0).toArray) := by
  have hn : n ≠ 0 := by omega
  have hw : IntKind.i64.wrap (n : Int) = n := by rw [IntKind.wrap_i64]; omega
  have h63' : ¬ (9223372036854775807 < (n : Int)) := by omega
  have h48i : ¬ (281474976710656 < (n : Int) * (i.bytes : Int)) := by
    rw [← Int.natCast_mul]
    omega
  have hneg : ¬ ((n : Int) < 0) := by omega
  have hns : ¬ (n * i.size = 0) := Nat.mul_ne_zero hn (by omega)
  have hsz : (Builtin.zeroCells z.cells n).toList.length = n * i.size := by rw [Array.length_toList, size_zeroCells, hzs]
  have hr := run_storeCells_at (P := P) b 0 te (Builtin.zeroCells z.cells n).toList 0 cur.toArray w hb (by simp only [List.size_toArray]; omega) hone
  simp [Builtin.append_, run_underlying ht, run_underlying htn, sizeOf, typeInfo, zeroValue, hi, hz, asInt, asIntOf, hw, hn, hneg, hns, h63', h48i, hc]
  rw [addr_add_zero, hr]
  simp [Result.andThen_ok, splice]

/-- A slice that is there, or not: its row is its own. -/
def RowOf (w : World) (size : Nat) (v : Value) : Prop := v = .slice none 0 0 ∨ ∃ te b m c cur, v = .slice (some ⟨b, 0, none⟩) m c ∧ Blk w b te cur ∧ c * size ≤ cur.length ∧ c ≤ 9223372036854775807

theorem zero_one {zv : Value} {n : Nat} {T : Ty} (hz : zv.cells.toList = zeroC T) (h1 : ∀ u ∈ zeroC T, u.oneCell' = true) (h0 : 0 < T.size) : ∀ u ∈ (Builtin.zeroCells zv.cells n).toList, u.oneCell' = true := by
  intro u hu
  have hzc : zv.cells.size = T.size := by rw [← Array.length_toList, hz, zeroC_len]
  obtain ⟨i, hi⟩ := List.mem_iff_getElem?.1 hu
  have hil := (List.getElem?_eq_some_iff.1 hi).1
  rw [zeros_len] at hil
  rw [zeros_get zv.cells n i hil, hz] at hi
  exact h1 u (List.mem_of_getElem? hi)

/-- From no things on, n zeros: in the row, or in a new one. -/
theorem run_grow {P : Program} (w : World) {t tn ty e : TypeId} {T : Ty} (hez : elemZ P t tn T = some e) (h1 : ∀ u ∈ zeroC T, u.oneCell' = true) {a : Option Addr} {m c n : Nat} (hv : RowOf w T.size (.slice a m c)) (h0 : 0 < n) (hn : n < 2147483648) :
    ∃ w' gb c' ca te, (Builtin.append_ #[t, tn] ty #[.slice a 0 c, .int .i32 n]).run P w = .ok (.slice (some ⟨gb, 0, none⟩) n c') w' ∧ n ≤ c' ∧ c' ≤ 9223372036854775807 ∧ Blk w' gb te ca ∧ c' * T.size ≤ ca.length ∧ (∀ j, j < n → (ca.drop (j * T.size)).take T.size = zeroC T) ∧
      Ch (fun k => a = some ⟨k, 0, none⟩) w w' ∧ (gb = w.heap.size ∨ a = some ⟨gb, 0, none⟩) := by
  obtain ⟨hsl, hit, i, zv, hi, hzv, hsz, hpos, hby, hcells⟩ := elemZ_spec hez
  have hzc : zv.cells.size = T.size := by rw [← Array.length_toList, hcells, zeroC_len]
  have hmul : n * i.bytes ≤ 140737488355328 := by
    have h2 := Nat.mul_le_mul (show n ≤ 2147483648 by omega) hby
    omega
  by_cases hnc : c < n
  · -- a new row
    have hold : (Builtin.firstCells i.size 0 (.slice a 0 c)).run P w.drew = .ok ([] : List Value).toArray w.drew := by
      cases a with
      | none => simp [Builtin.firstCells]
      | some a => simp [Builtin.firstCells, loadCells, loadCellsFrom]
    have hr := Lib.run_append_grow_zeros (P := P) (ty := ty) w t tn e i zv .i32 .i32 hsl hit hi hzv a 0 c [] hold n h0 (by omega) (by omega) (by omega) (by omega) (growslice_fits (by omega) (by rw [Nat.zero_add]; exact hmul))
    rw [Nat.zero_add] at hr
    have hge := grownCap_ge w n c e
    refine ⟨_, w.heap.size, grownCap w n c e, ((Builtin.zeroCells zv.cells n).toList ++ (Builtin.zeroCells zv.cells (grownCap w n c e - n)).toList), e, hr, hge, ?_, ?_, ?_, fun j hj => ?_, ((Ch.drew _ w).trans' (Ch.alloc _ _ _)), .inl rfl⟩
    · have := grownCap_le_maxLen w n c e (by simp only [maxLen]; omega)
      simp only [maxLen] at this
      omega
    · have := Blk.new w.drew e ((Builtin.zeroCells zv.cells n).toList ++ (Builtin.zeroCells zv.cells (grownCap w n c e - n)).toList)
      rw [show ((Builtin.zeroCells zv.cells n).toList ++ (Builtin.zeroCells zv.cells (grownCap w n c e - n)).toList).toArray = Builtin.zeroCells zv.cells n ++ Builtin.zeroCells zv.cells (grownCap w n c e - n) by
        apply Array.ext'; simp] at this
      simpa using this
    · rw [List.length_append, zeros_len, zeros_len, hzc, ← Nat.add_mul, Nat.add_sub_cancel' hge]
      exact Nat.le_refl _
    · have := zeros_at zv.cells n j (Builtin.zeroCells zv.cells (grownCap w n c e - n)).toList hj
      rw [hzc, hcells] at this
      exact this
  · rcases hv with hv | ⟨te, b, m', c', cur, hv, hb, hl, hc⟩
    · cases hv; omega
    cases hv
    have hns : n * i.size ≤ cur.length := by
      have := Nat.mul_le_mul_right T.size (show n ≤ c by omega)
      rw [hsz]
      omega
    have hr := run_zeros_in (P := P) (ty := ty) (n := n) w t tn e i zv .i32 .i32 hsl hit hi hzv (by rw [hzc, hsz]) (zero_one hcells h1 hpos) c b te cur hb hns h0 (by omega) (by omega) (by omega) (by omega)
    have hlt := hb.lt
    have hset : ∀ k, (w.setRow b (splice cur (Builtin.zeroCells zv.cells n).toList 0).toArray).heap[k]? = if k = b then some (.cells (splice cur (Builtin.zeroCells zv.cells n).toList 0).toArray te (0, 0)) else w.heap[k]? := fun k => by
      simp only [World.setRow, Array.getElem?_modify]
      by_cases hk : k = b
      · subst hk; simp [show w.heap[k]? = _ from hb]
      · simp [hk, Ne.symm hk]
    have hzl : (Builtin.zeroCells zv.cells n).toList.length = n * T.size := by rw [zeros_len, hzc]
    refine ⟨_, b, c, splice cur (Builtin.zeroCells zv.cells n).toList 0, te, hr, by omega, hc, ?_, ?_, fun j hj => ?_, ⟨rfl, rfl, rfl, by simp [World.setRow], fun k hk hne => ?_⟩, .inr rfl⟩
    · unfold Blk
      rw [hset, if_pos rfl]
    · rw [splice_length (by rw [hzl, ← hsz]; omega)]
      exact hl
    · have := zeros_at zv.cells n j (cur.drop (n * T.size)) hj
      rw [hzc, hcells] at this
      rw [show splice cur (Builtin.zeroCells zv.cells n).toList 0 = (Builtin.zeroCells zv.cells n).toList ++ cur.drop (n * T.size) by unfold splice; simp [hzl]]
      exact this
    · rw [hset, if_neg]
      intro e
      subst e
      exact hne rfl
end Go.Kx

/- A list in a field that is there: it grows from nothing, in its own row or in a new one. -/
namespace Go.Kx
open Go.RowKit
set_option linter.unusedSimpArgs false
set_option linter.unusedVariables false

section
variable {P : Program} {n : Nat} {L : List Nat} {a ln : Nat} {T : Ty} {te : TypeId} {cs rest : List Code} {σ : Fm} {w : World} {Q : Exit → Fm → World → Prop}
theorem growIn_sound (h : growOf P L a ln T cs = some (te, rest)) {a0 : Option Addr} {n0 c0 : Nat} {z : Int} (ha : σ a = .slice a0 n0 c0) (hln : σ ln = .int .i32 z) (hz : z < 2147483648) (hrow : RowOf w T.size (.slice a0 n0 c0)) (hone : ∀ u ∈ zeroC T, u.oneCell' = true)
    (h0 : z ≤ 0 → ∀ σ', σ' a = .slice a0 0 c0 → (∀ t ∈ ln :: L, σ' t = σ t) → CWL P n rest σ' w Q)
    (h1 : 0 < z → ∀ σ' w' gb c ca te, σ' a = .slice (some ⟨gb, 0, none⟩) z.toNat c → z.toNat ≤ c → c ≤ 9223372036854775807 → Blk w' gb te ca → c * T.size ≤ ca.length →
      (∀ j, j < z.toNat → (ca.drop (j * T.size)).take T.size = zeroC T) → Ch (fun k => a0 = some ⟨k, 0, none⟩) w w' → (gb = w.heap.size ∨ a0 = some ⟨gb, 0, none⟩) → (∀ t ∈ ln :: L, σ' t = σ t) → CWL P n rest σ' w' Q) : CWL P n cs σ w Q := by
  unfold growOf at h
  split at h
  · rename_i c1 c2 tc' A B rest'
    split at h
    · rename_i t a2 ty1 a' b u1 ln2 u2 ty2 tc b1 c3 hcan1 hcan2 hA
      split at h
      · rename_i op ty3 a'' b2 hcan3
        split at h
        · rename_i a3 ln3 t1 it happ
          split at h
          · rename_i te' hz'
            split at h
            · rename_i hh
              simp only [Option.some.injEq, Prod.mk.injEq] at h
              obtain ⟨rfl, rfl⟩ := h
              simp only [Bool.and_eq_true, beq_iff_eq, List.isEmpty_iff] at hh
              obtain ⟨⟨⟨⟨⟨⟨⟨⟨⟨⟨⟨rfl, rfl⟩, rfl⟩, rfl⟩, rfl⟩, rfl⟩, rfl⟩, rfl⟩, hB⟩, hfree⟩, hfree1⟩, hfree2⟩ := hh
              obtain ⟨hsl, hit, i, zv, hi, hzv, hsz, hpos, hby, hcells⟩ := elemZ_spec hz'
              obtain rfl := asApp_spec happ
              refine CWL.reg hcan1 (OpK.slice0 hsl (by rw [hi]; rfl) (by simp only [ev_tmp, enF_two]; exact ha) rfl ?_)
              simp only [RC]
              generalize hσ1 : outF ((a'', 1) :: b) (upd (enF σ) (some (2 * 0 + 1)) (Value.slice a0 0 c0)) = σ1
              have ha1 : σ1 a'' = .slice a0 0 c0 := by rw [← hσ1, outF_head]; simp [upd]
              have hk1 : ∀ t ∈ ln :: L, σ1 t = σ t := fun t ht => by
                rw [← hσ1, outF_free hfree ht]
                show upd _ (some 1) _ (2 * t) = _
                rw [upd_odd _ _ _ _ (by omega), enF_two]
              have hln1 : σ1 ln = .int .i32 z := (hk1 ln (by simp)).trans hln
              refine CWL.reg hcan2 (OpK.cmp (op := .gtr) (k := .i32) (a := z) (b := 0) rfl (by simp only [ev_tmp, enF_two]; exact hln1) rfl ?_)
              simp only [RC]
              generalize hσ2 : outF ((tc, 1) :: b1) (upd (enF σ1) (some (2 * 0 + 1)) (Value.bool (decide (z > 0)))) = σ2
              have htc : σ2 tc = .bool (decide (z > 0)) := by rw [← hσ2, outF_head]; simp [upd]
              have hk2 : ∀ t ∈ a'' :: ln :: L, σ2 t = σ1 t := fun t ht => by
                rw [← hσ2, outF_free hfree1 ht]
                show upd _ (some 1) _ (2 * t) = _
                rw [upd_odd _ _ _ _ (by omega), enF_two]
              by_cases hgt : 0 < z
              · refine CWL.condT (by simp only [ev_tmp, htc]; congr 1; simp; exact hgt) ?_
                rw [hA, List.singleton_append]
                have hzi : z = ((z.toNat : Nat) : Int) := by omega
                obtain ⟨w', gb, c', ca, te2, hrun, g1, g2, g3, g4, g5, g6, g7⟩ := run_grow (P := P) (ty := ty3) w hz' hone hrow (n := z.toNat) (by omega) (by omega)
                rw [← hzi] at hrun
                refine CWL.reg hcan3 (OpK.run rfl (by simp only [ev_tmp, enF_two]; rw [hk2 a'' (by simp), ha1, hk2 ln (by simp), hln1]; exact hrun) ?_)
                simp only [RC]
                refine h1 hgt _ _ gb c' ca te2 (by rw [outF_head]; simp [upd]) g1 g2 g3 g4 g5 g6 g7 fun t ht => ?_
                rw [outF_free hfree2 ht]
                show upd _ (some 1) _ (2 * t) = _
                rw [upd_odd _ _ _ _ (by omega), enF_two, hk2 t (List.mem_cons_of_mem _ ht), hk1 t ht]
              · refine CWL.condF (by simp only [ev_tmp, htc]; congr 1; simp; omega) ?_
                rw [hB, List.nil_append]
                exact h0 (by omega) σ2 ((hk2 a'' (by simp)).trans ha1) fun t ht => (hk2 t (List.mem_cons_of_mem _ ht)).trans (hk1 t ht)
            · cases h
          · cases h
        · cases h
      · cases h
    · cases h
  · cases h
end
end Go.Kx
