/- A part of a message in memory while it is read: cells that are put, the reader, what is kept. -/
import Derived.Test.YtlmelgjepdbakaaDoorRKxDec4
import Derived.Laws.Append
import Derived.Deep.MidRow
namespace Go.Kx
open Go.RowKit
set_option linter.unusedSimpArgs false
set_option linter.unusedVariables false

/-! ### Cells that are put into a row -/
def spl (cs : List Value) (o : Nat) (c : List Value) : List Value := cs.take o ++ c ++ cs.drop (o + c.length)
theorem spl_len {cs c : List Value} {o : Nat} (h : o + c.length ≤ cs.length) : (spl cs o c).length = cs.length := by
  simp [spl]; omega
theorem spl_get {cs c : List Value} {o : Nat} (h : o + c.length ≤ cs.length) (i : Nat) : (spl cs o c)[i]? = if i < o then cs[i]? else if i < o + c.length then c[i - o]? else cs[i]? := by
  unfold spl
  by_cases h1 : i < o
  · rw [if_pos h1, List.append_assoc, List.getElem?_append_left (by simp; omega), List.getElem?_take, if_pos h1]
  · rw [if_neg h1]
    by_cases h2 : i < o + c.length
    · rw [if_pos h2, List.getElem?_append_left (by simp; omega), List.getElem?_append_right (by simp; omega)]
      congr 1
      simp; omega
    · rw [if_neg h2, List.getElem?_append_right (by simp; omega), List.getElem?_drop]
      congr 1
      simp; omega
theorem spl_one {cs : List Value} {o : Nat} {v : Value} (h : o < cs.length) : cs.set o v = spl cs o [v] := by
  apply List.ext_getElem?
  intro i
  rw [spl_get (by simp; omega), List.getElem?_set]
  simp only [List.length_cons, List.length_nil]
  by_cases h1 : o = i
  · subst h1
    rw [if_pos rfl, if_pos h, if_neg (by omega), if_pos (by omega), Nat.sub_self]
    rfl
  · rw [if_neg h1]
    split
    · rfl
    · rw [if_neg (by omega)]
/-- Of the cells of a part some are put. -/
theorem spl_sub {cs c : List Value} {o n p : Nat} (h : p + c.length ≤ n) (hn : o + n ≤ cs.length) : ((spl cs (o + p) c).drop o).take n = spl ((cs.drop o).take n) p c := by
  apply List.ext_getElem?
  intro i
  have hl : ((cs.drop o).take n).length = n := by simp; omega
  rw [spl_get (by rw [hl]; exact h), List.getElem?_take, List.getElem?_drop, spl_get (by omega), List.getElem?_take, List.getElem?_drop]
  by_cases h1 : i < n
  · rw [if_pos h1, if_pos h1]
    by_cases h2 : i < p
    · rw [if_pos h2, if_pos (by omega)]
    · rw [if_neg h2, if_neg (by omega)]
      by_cases h3 : i < p + c.length
      · rw [if_pos h3, if_pos (by omega)]
        congr 1
        omega
      · rw [if_neg h3, if_neg (by omega)]
  · rw [if_neg h1, if_neg (by omega), if_neg (by omega), if_neg h1]
theorem spl_splice {cs c1 c2 : List Value} {o : Nat} (h : c1.length = c2.length) (hn : o + c1.length ≤ cs.length) : spl (spl cs o c1) o c2 = spl cs o c2 := by
  apply List.ext_getElem?
  intro i
  rw [spl_get (by rw [spl_len hn]; omega), spl_get hn, spl_get (by omega)]
  by_cases h1 : i < o
  · simp [h1]
  · by_cases h2 : i < o + c2.length
    · simp [h1, h2]
    · simp [h1, h2, show ¬ i < o + c1.length by omega]
theorem spl_at {cs c : List Value} {o : Nat} (h : o + c.length ≤ cs.length) : ((spl cs o c).drop o).take c.length = c := by
  apply List.ext_getElem?
  intro i
  rw [List.getElem?_take, List.getElem?_drop, spl_get h]
  by_cases h1 : i < c.length
  · rw [if_pos h1, if_neg (by omega), if_pos (by omega)]
    congr 1
    omega
  · rw [if_neg h1, List.getElem?_eq_none (by omega)]
/-- Ahead of a place, and behind it, all is as it was. -/
def Outside (cs cs' : List Value) (o n : Nat) : Prop := cs'.length = cs.length ∧ ∀ i, i < o ∨ o + n ≤ i → cs'[i]? = cs[i]?
theorem Outside.refl (cs : List Value) (o n : Nat) : Outside cs cs o n := ⟨rfl, fun _ _ => rfl⟩
theorem Outside.trans {a b c : List Value} {o n : Nat} (h : Outside a b o n) (k : Outside b c o n) : Outside a c o n := ⟨k.1.trans h.1, fun i hi => (k.2 i hi).trans (h.2 i hi)⟩
theorem Outside.spl {cs c : List Value} {o n p : Nat} (h : p + c.length ≤ n) (hn : o + n ≤ cs.length) : Outside cs (spl cs (o + p) c) o n := by
  refine ⟨spl_len (by omega), fun i hi => ?_⟩
  rw [spl_get (by omega)]
  rcases hi with hi | hi
  · rw [if_pos (by omega)]
  · rw [if_neg (by omega), if_neg (by omega)]

theorem spl_left {a b c : List Value} {p : Nat} (h : p + c.length ≤ a.length) : spl (a ++ b) p c = spl a p c ++ b := by
  apply List.ext_getElem?
  intro i
  rw [spl_get (by rw [List.length_append]; omega)]
  have hl := spl_len h
  by_cases h3 : i < a.length
  · rw [List.getElem?_append_left h3, List.getElem?_append_left (l₁ := spl a p c) (by omega), spl_get h]
  · rw [List.getElem?_append_right (l₁ := spl a p c) (by omega), if_neg (by omega), if_neg (by omega), List.getElem?_append_right (by omega), hl]
theorem spl_right {a b c : List Value} {p : Nat} (h : p + c.length ≤ b.length) : spl (a ++ b) (a.length + p) c = a ++ spl b p c := by
  apply List.ext_getElem?
  intro i
  rw [spl_get (by rw [List.length_append]; omega)]
  by_cases h3 : i < a.length
  · rw [if_pos (by omega), List.getElem?_append_left h3, List.getElem?_append_left h3]
  · rw [List.getElem?_append_right (by omega), List.getElem?_append_right (by omega), spl_get h]
    by_cases h4 : i - a.length < p
    · rw [if_pos (by omega), if_pos h4]
    · rw [if_neg (by omega), if_neg h4]
      by_cases h5 : i - a.length < p + c.length
      · rw [if_pos (by omega), if_pos h5]
        congr 1; omega
      · rw [if_neg (by omega), if_neg h5]

theorem Rep.put {w : World} {S : Nat → Prop} {T f : Ty} : ∀ {v u : V} {cs c : List Value} {k o : Nat}, Rep w S T v cs → T.fld k = some (f, o) → Rep w S f u c → Rep w S T (v.put k u) (spl cs o c) := by
  induction T with
  | cons h t ih1 ih2 =>
    intro v u cs c k o hr hf hu
    cases v <;> simp only [Rep] at hr
    obtain ⟨x, vs, c1, c2, rfl, rfl, e3, h1, h2⟩ := hr
    have hlen2 := h2.size
    have hcl := hu.size
    cases k with
    | zero =>
      simp only [Ty.fld, Option.some.injEq, Prod.mk.injEq] at hf
      obtain ⟨rfl, rfl⟩ := hf
      show Rep w S (.cons h t) (.st (u :: vs)) _
      refine ⟨u, vs, c, c2, rfl, ?_, hcl, hu, h2⟩
      rw [spl_left (by omega)]
      congr 1
      simp only [spl, List.take_zero, List.nil_append, Nat.zero_add]
      rw [List.drop_of_length_le (by omega), List.append_nil]
    | succ k =>
      simp only [Ty.fld, Option.map_eq_some_iff, Prod.exists, Prod.mk.injEq] at hf
      obtain ⟨f', o', hf', rfl, rfl⟩ := hf
      have hb := (h2.fld hf')
      obtain ⟨_, _, _, _, hbl⟩ := hb
      show Rep w S (.cons h t) (.st (x :: vs.set k u)) _
      refine ⟨x, vs.set k u, c1, spl c2 o' c, rfl, ?_, e3, h1, ih2 h2 hf' hu⟩
      rw [← e3, spl_right (by omega)]
  | _ => intro v u cs c k o _ hf; cases k <;> simp [Ty.fld] at hf

/-! ### A store of a whole value -/
theorem setCells_heap (g : Nat) : ∀ (vs : List Value) (o : Nat) (w : World) (k : Nat), k ≠ g → (w.setCells g o vs).heap[k]? = w.heap[k]?
  | [], _, _, _, _ => rfl
  | v :: vs, o, w, k, h => by rw [World.setCells, setCells_heap g vs _ _ k h, setCell_other w _ v k h]
theorem setCells_ch (g : Nat) : ∀ (vs : List Value) (o : Nat) (w : World), Ch (fun k => k = g) w (w.setCells g o vs)
  | [], _, w => Ch.refl _ w
  | v :: vs, o, w => by rw [World.setCells]; exact (Ch.set (S := fun k => k = g) w rfl v).trans' (setCells_ch g vs (o + 1) _)
theorem Blk.setCells {g : Nat} {t : TypeId} : ∀ (vs : List Value) {w : World} {cs : List Value} (o : Nat), Blk w g t cs → o + vs.length ≤ cs.length → Blk (w.setCells g o vs) g t (spl cs o vs)
  | [], w, cs, o, h, _ => by simpa [World.setCells, spl] using h
  | v :: vs, w, cs, o, h, hl => by
    simp only [List.length_cons] at hl
    rw [World.setCells]
    have := Blk.setCells vs (o + 1) (h.set o v) (by rw [List.length_set]; omega)
    refine (congrArg (Blk _ g t) ?_).mp this
    apply List.ext_getElem?
    intro i
    rw [spl_get (by rw [List.length_set]; omega), spl_get (by simp; omega), List.getElem?_set]
    simp only [List.length_cons]
    by_cases h1 : i < o
    · rw [if_pos (by omega), if_neg (by omega), if_pos h1]
    · by_cases h2 : i = o
      · subst h2
        rw [if_pos (by omega), if_pos rfl, if_pos (by omega), if_neg (by omega), if_pos (by omega), Nat.sub_self]
        rfl
      · rw [if_neg (by omega), if_neg h1]
        by_cases h3 : i < o + 1 + vs.length
        · rw [if_pos h3, if_pos (by omega), show i - o = (i - (o + 1)) + 1 by omega, List.getElem?_cons_succ]
        · rw [if_neg h3, if_neg (by omega), if_neg (by omega)]

/-- A value as it is stored: what its cells are. -/
theorem OpK.storeV {P : Program} {ρ : Operand → Value} {w : World} {K : Value → World → Prop} {d : Option Tmp} {tt t : TypeId} {pos : String} {af : Array Edge} {gd : Option (Nat × Bool)} {x y : Operand} {g o : Nat} {tG : TypeId} {cells c : List Value} {v : Value}
    (hi : (P.info? t).map (·.size) = some c.length) (hx : ρ x = .pointer (some ⟨g, o, none⟩)) (hy : ρ y = v) (hv : v = .agg c.toArray ∨ c = [v]) (h1 : ∀ u ∈ c, u.oneCell' = true) (hb : Blk w g tG cells) (hl : o + c.length ≤ cells.length)
    (h : K undef (w.setCells g o c)) : OpK P ρ ⟨d, .store t x y, tt, pos, af, gd⟩ w K := by
  rcases hv with rfl | rfl
  · have hr := run_storeAt_mid (P := P) w g o t c.toArray (fun j hj => by
        rw [hb.cell, hb.free]
        refine ⟨?_, rfl⟩
        rw [List.getElem?_eq_getElem (by simp at hj; omega)]
        rfl) (by simpa using hi) (by
        rw [Array.all_eq_true']
        intro u hu
        exact h1 u (by simpa using hu))
    simp only [OpK, execOp, hx, hy, Sem.run_bind, hr, Result.andThen_ok, Sem.run_pure, After]
    exact h
  · exact OpK.store hi hx hy (h1 v (by simp)) (by rw [hb.cell, List.getElem?_eq_getElem (by simp only [List.length_cons, List.length_nil] at hl; omega)]; rfl) (hb.free o) h

theorem rep_one {w : World} {S : Nat → Prop} {T : Ty} : ∀ {v : V} {cs : List Value}, Rep w S T v cs → ∀ u ∈ cs, u.oneCell' = true := by
  induction T with
  | nil => intro v cs h; cases v <;> simp only [Rep] at h; rw [h.2]; intro u hu; cases hu
  | cons h t ih1 ih2 =>
    intro v cs hr u hu
    cases v <;> simp only [Rep] at hr
    obtain ⟨x, vs, c1, c2, e1, rfl, e3, h1, h2⟩ := hr
    rcases List.mem_append.1 hu with hu | hu
    · exact ih1 h1 u hu
    · exact ih2 h2 u hu
  | uuid => intro v cs h; cases v <;> simp only [Rep] at h; rw [h.2]; exact bv_one _
  | bool => intro v cs h; cases v <;> simp only [Rep] at h; rw [h]; simp [Value.oneCell']
  | int k => intro v cs h; cases v <;> simp only [Rep] at h; rw [h.1]; simp [Value.oneCell']
  | f64 => intro v cs h; cases v <;> simp only [Rep] at h; rw [h.1]; simp [Value.oneCell']
  | str => intro v cs h; cases v <;> simp only [Rep] at h; rw [h]; simp [Value.oneCell', strV]
  | nstr =>
    intro v cs h
    cases v <;> simp only [Rep] at h
    · rw [h]; simp [Value.oneCell']
    · obtain ⟨g, rfl, _⟩ := h; simp [Value.oneCell']
  | bytes =>
    intro v cs h
    cases v <;> simp only [Rep] at h
    · rw [h]; simp [Value.oneCell']
    · obtain ⟨a, c, rfl, _⟩ := h; simp [Value.oneCell']
  | arr e ih =>
    intro v cs h
    cases v <;> simp only [Rep] at h
    · rw [h]; simp [Value.oneCell']
    · obtain ⟨a, c, rfl, _⟩ := h; simp [Value.oneCell']
  | nst e ih =>
    intro v cs h
    cases v <;> simp only [Rep] at h
    · rw [h]; simp [Value.oneCell']
    · obtain ⟨g, ci, rfl, _⟩ := h; simp [Value.oneCell']
  | tags =>
    intro v cs h
    cases v <;> simp only [Rep] at h
    rcases h with ⟨rfl, _⟩ | ⟨r, es, clk, rfl, _⟩ <;> simp [Value.oneCell']
end Go.Kx
