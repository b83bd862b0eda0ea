/- Slices of tags in memory: read, grown, built. -/
import Derived.Test.YtagmcjolgfkcaaaKxLast
import Derived.Test.YtagmcjolgfkcaaaKxAgn
namespace Go.Kx
open Go.RowKit
set_option linter.unusedSimpArgs false
set_option linter.unusedVariables false

theorem SlIs.up' {w : World} {B B' : Nat} {l : List UInt8} {v : Value} (h : SlIs w B l v) (hb : B ≤ B') : SlIs w B' l v := by
  obtain ⟨a, c, h1, h2, h3, h4, h5⟩ := h
  exact ⟨a, c, h1, h2, h3, h4, fun a' ha => ⟨(h5 a' ha).1, fun hne => Nat.lt_of_lt_of_le ((h5 a' ha).2 hne) hb⟩⟩
/-- Octets, wherever they lie. -/
abbrev Oc (w : World) (l : List UInt8) (v : Value) : Prop := SlIs w w.heap.size l v
theorem SlIs.chw {w w' : World} {l : List UInt8} {v : Value} (h : Oc w l v) (hc : Ch (fun _ => False) w w') : Oc w' l v := (h.keep fun k hk => hc.block k hk fun h => h).up' hc.size
theorem Own.oc {e : TypeId} {w : World} {v : Value} {bs : List UInt8} (h : Own e w v bs) : Oc w bs v := by
  have hlt := fun k hk => h.lt (k := k) hk
  rcases h.2 with ⟨rfl, hn⟩ | ⟨g, cap, cur, rfl, hb, hg, hnc, hcm, hcs, htake⟩
  · have : bs = [] := List.eq_nil_of_length_eq_zero hn
    subst this
    exact ⟨none, 0, rfl, Nat.le_refl _, by simp [maxLen], fun _ => rfl, fun _ h => by cases h⟩
  · refine ⟨_, cap, rfl, hnc, hcm, (fun h => by cases h), fun a' ha => ⟨?_, fun _ => by cases ha; exact hlt g rfl⟩⟩
    cases ha
    intro i u hu
    exact World.ownsRow.cells h (g := g) rfl i (bv u) (by simp [hu])

/-- A slice of tags: a number and octets each. -/
def Ts (w : World) (l : List (Nat × List UInt8)) (v : Value) : Prop :=
  ∃ a c, v = .slice a l.length c ∧ l.length ≤ c ∧ c ≤ maxLen ∧ (a = none → l = []) ∧ ∀ a', a = some a' → (l ≠ [] → a'.block < w.heap.size) ∧
    ∀ i x, l[i]? = some x → x.1 < 4294967296 ∧ ∃ vv, AtA w (a'.add (i * 2)) [.int .u32 (x.1 : Int), vv] ∧ Oc w x.2 vv
theorem Ts.ch {w w' : World} {l : List (Nat × List UInt8)} {v : Value} (h : Ts w l v) (hc : Ch (fun _ => False) w w') : Ts w' l v := by
  obtain ⟨a, c, h1, h2, h3, h4, h5⟩ := h
  refine ⟨a, c, h1, h2, h3, h4, fun a' ha => ⟨fun hne => Nat.lt_of_lt_of_le ((h5 a' ha).1 hne) hc.size, fun i x hx => ?_⟩⟩
  obtain ⟨g1, g2⟩ := h5 a' ha
  obtain ⟨e0, vv, e1, e2⟩ := g2 i x hx
  exact ⟨e0, vv, e1.ch (by rw [add_block]; exact g1 (nil_of_get hx)) hc, e2.chw hc⟩
theorem Ts.one {w : World} {l : List (Nat × List UInt8)} {v : Value} (h : Ts w l v) : v.oneCell' = true := by obtain ⟨a, c, rfl, _⟩ := h; rfl
theorem Ts.few {w : World} {l : List (Nat × List UInt8)} {v : Value} (h : Ts w l v) : ∀ x ∈ l, x.1 < 4294967296 := by
  obtain ⟨a, c, h1, h2, h3, h4, h5⟩ := h
  intro x hx
  obtain ⟨i, hi⟩ := List.mem_iff_getElem?.1 hx
  cases a with
  | none => rw [h4 rfl] at hi; simp at hi
  | some a => exact ((h5 a rfl).2 i x hi).1
/-- Its place i. -/
theorem Ts.get {w : World} {l : List (Nat × List UInt8)} {v : Value} (h : Ts w l v) {i : Nat} {x : Nat × List UInt8} (hx : l[i]? = some x) : ∃ a c vv, v = .slice (some a) l.length c ∧ a.block < w.heap.size ∧ x.1 < 4294967296 ∧ AtA w (a.add (i * 2)) [.int .u32 (x.1 : Int), vv] ∧ Oc w x.2 vv := by
  obtain ⟨a, c, h1, h2, h3, h4, h5⟩ := h
  cases a with
  | none => rw [h4 rfl] at hx; simp at hx
  | some a =>
    obtain ⟨g1, g2⟩ := h5 a rfl
    obtain ⟨e0, vv, e1, e2⟩ := g2 i x hx
    exact ⟨a, c, vv, h1, g1 (nil_of_get hx), e0, e1, e2⟩

/-- The tags of a row are those of a slice. -/
abbrev TR (w : World) : Nat × Value → Nat × List UInt8 → Prop := TgR w w.heap.size
theorem TR.ch {w w' : World} {us : List (Nat × Value)} {l : List (Nat × List UInt8)} (h : All2 (TR w) us l) (hc : Ch (fun _ => False) w w') : All2 (TR w') us l := h.imp fun _ _ hR => ⟨hR.1, hR.2.chw hc⟩
theorem TOwn.ts {e : TypeId} {w : World} {v : Value} {us : List (Nat × Value)} {l : List (Nat × List UInt8)} (h : TOwn e w v us) (hA : All2 (TR w) us l) (hk : ∀ x ∈ l, x.1 < 4294967296) : Ts w l v := by
  have hlen := hA.size
  have hlt := fun k hk => h.lt (k := k) hk
  rcases h.2 with ⟨rfl, hn⟩ | ⟨g, cap, cur, rfl, hb, hg, hnc, hcm, hcs, htake⟩
  · have : l = [] := List.eq_nil_of_length_eq_zero (by omega)
    subst this
    exact ⟨none, 0, rfl, Nat.le_refl _, by simp [maxLen], fun _ => rfl, fun _ h => by cases h⟩
  · refine ⟨_, cap, by rw [hlen], by omega, hcm, (fun h => by cases h), fun a' ha => ⟨(fun _ => by cases ha; exact hlt g rfl), fun i x hx => ?_⟩⟩
    cases ha
    obtain ⟨u, hu, hR⟩ := hA.at2 hx
    refine ⟨hk x (List.mem_of_getElem? hx), u.2, ?_, hR.2⟩
    intro j q hj
    rw [Addr.add_add]
    rw [← hR.1] at hj
    exact World.ownsRow.cells h (g := g) rfl _ q (tgCells_get hu j q hj)

/-- Tags behind a row of tags. -/
theorem append_tags {P : Program} {w : World} {t e ty : TypeId} (ht : P.underlying t = some (.slice e)) (hz : (P.info? e).map (fun i => (i.zero.map (·.cells), i.size, i.bytes)) = some (some #[.int .u32 0, .slice none 0 0], 2, 32)) {v : Value} {us : List (Nat × Value)} (hv : TOwn e w v us)
    {a : Addr} {c : Nat} {news : List (Nat × Value)} (hl : us.length + news.length < 4294967296) (ha : ∀ i x, news[i]? = some x → AtA w (a.add (i * 2)) [.int .u32 (x.1 : Int), x.2] ∧ x.2.oneCell' = true) :
    ∃ v' w', (Builtin.append_ #[t, t] ty #[v, .slice (some a) news.length c]).run P w = .ok v' w' ∧ TOwn e w' v' (us ++ news) ∧ Ch (fun i => v.ownBlock = some i) w w' ∧ ∀ i, v'.ownBlock = some i → v.ownBlock = some i ∨ w.heap.size ≤ i := by
  obtain ⟨i, hi, hh⟩ := Option.map_eq_some_iff.1 hz
  simp only [Prod.mk.injEq] at hh
  obtain ⟨hz1, hs, hb⟩ := hh
  obtain ⟨z, hz2, hz3⟩ := Option.map_eq_some_iff.1 hz1
  have split2 : ∀ {j : Nat} {u : Value}, (tgCells news)[j]? = some u → ∃ i x, news[i]? = some x ∧ ∃ q, q < 2 ∧ j = i * 2 + q ∧ [Value.int .u32 (x.1 : Int), x.2][q]? = some u := by
    intro j u hj
    have hjl := (List.getElem?_eq_some_iff.1 hj).1
    rw [tgCells_len] at hjl
    obtain ⟨x, hx⟩ : ∃ x, news[j / 2]? = some x := ⟨_, List.getElem?_eq_getElem (by omega)⟩
    have hq : j % 2 < ([Value.int .u32 (x.1 : Int), x.2] : List Value).length := by simp only [List.length_cons, List.length_nil]; omega
    have h1 := tgCells_get hx (j % 2) _ (List.getElem?_eq_getElem hq)
    rw [show j / 2 * 2 + j % 2 = j by omega, hj] at h1
    exact ⟨j / 2, x, hx, j % 2, by omega, by omega, by rw [List.getElem?_eq_getElem hq]; exact h1.symm⟩
  obtain ⟨v', w', hr, hown, hg, _, hat⟩ := run_append_own_at (P := P) w 0 t ty e i z 2 32 ht hi hz2 hs hb (by rw [hz3]; rfl) (by omega) v us.length (tgCells us) hv a news.length c (tgCells news) (tgCells_len news)
    (fun j u hj => by
      obtain ⟨i, x, hx, q, hq, rfl, hu⟩ := split2 hj
      have := (ha i x hx).1 q u hu
      rwa [Addr.add_add] at this)
    (fun u hu => by
      obtain ⟨j, hj⟩ := List.mem_iff_getElem?.1 hu
      obtain ⟨i, x, hx, q, hq, rfl, hu⟩ := split2 hj
      match q, hu with
      | 0, hu => simp only [List.getElem?_cons_zero, Option.some.injEq] at hu; subst hu; rfl
      | 1, hu => simp only [List.getElem?_cons_succ, List.getElem?_cons_zero, Option.some.injEq] at hu; subst hu; exact (ha i x hx).2) (by simp only [maxLen]; omega) (by omega) (Nat.zero_le _)
  refine ⟨v', w', hr, ?_, Ch.of_grown hg fun k hk => hk, fun j hj => ?_⟩
  · unfold TOwn
    rw [List.length_append, tgCells_app]
    exact hown
  · rcases hat with h | h
    · exact .inl (h ▸ hj)
    · rw [h] at hj
      simp only [Option.some.injEq] at hj
      exact .inr (by omega)
/-- No tag behind a row. -/
theorem append_none {P : Program} {w : World} {t e ty : TypeId} (ht : P.underlying t = some (.slice e)) (hz : (P.info? e).map (fun i => (i.zero.map (·.cells), i.size, i.bytes)) = some (some #[.int .u32 0, .slice none 0 0], 2, 32)) {v : Value} {us : List (Nat × Value)} (hv : TOwn e w v us) {x : Value} (hx : x = .slice none 0 0 ∨ ∃ a c, x = .slice (some a) 0 c) :
    (Builtin.append_ #[t, t] ty #[v, x]).run P w = .ok v w := by
  obtain ⟨i, hi, hh⟩ := Option.map_eq_some_iff.1 hz
  simp only [Prod.mk.injEq] at hh
  refine run_append_none (size := 2) ht (by rw [hi]; simp [hh.2.1]) (.inr ⟨_, ht⟩) ?_ (by rcases hx with h | h; exact .inl h; exact .inr (.inl h))
  rcases hv.2 with ⟨rfl, _⟩ | ⟨g, cap, cur, rfl, _, _, hnc, _⟩
  · exact .inl rfl
  · exact .inr ⟨_, _, _, rfl, hnc⟩
/-- A new row of none. -/
theorem run_bs0 {P : Program} {w : World} {t e : TypeId} (ht : P.underlying t = some (.slice e)) (hz : (P.info? e).map (fun i => (i.zero.map (·.cells), i.size, i.bytes)) = some (some #[.int .u32 0, .slice none 0 0], 2, 32)) :
    (Instr.buildSlice t 0 #[]).run P w = .ok (.slice (some ⟨w.heap.size, 0, none⟩) 0 0) (w.alloc (.cells #[] e)) ∧ TOwn e (w.alloc (.cells #[] e)) (.slice (some ⟨w.heap.size, 0, none⟩) 0 0) [] := by
  obtain ⟨i, hi, hh⟩ := Option.map_eq_some_iff.1 hz
  simp only [Prod.mk.injEq] at hh
  obtain ⟨hz1, hs, hb⟩ := hh
  obtain ⟨z, hz2, hz3⟩ := Option.map_eq_some_iff.1 hz1
  refine ⟨?_, rfl, .inr ⟨w.heap.size, 0, #[], rfl, Nat.zero_le _, heap_alloc_new w _, Nat.le_refl _, by simp [maxLen], rfl, rfl⟩⟩
  simp [Instr.buildSlice, run_underlying ht, sizeOf, typeInfo, hi, hs, hz2, zeroValue, Instr.fill, newRow]
  exact congrArg (fun c => w.alloc (.cells c e)) (Array.ext' (by simp))
/-- A new row of one. -/
theorem run_bsT {P : Program} {w : World} {t e : TypeId} (ht : P.underlying t = some (.slice e)) (hz : (P.info? e).map (fun i => (i.zero.map (·.cells), i.size, i.bytes)) = some (some #[.int .u32 0, .slice none 0 0], 2, 32)) (x : Nat × Value) :
    (Instr.buildSlice t 1 #[(0, .agg #[.int .u32 (x.1 : Int), x.2])]).run P w = .ok (.slice (some ⟨w.heap.size, 0, none⟩) 1 1) (w.alloc (.cells #[.int .u32 (x.1 : Int), x.2] e)) := by
  obtain ⟨i, hi, hh⟩ := Option.map_eq_some_iff.1 hz
  simp only [Prod.mk.injEq] at hh
  obtain ⟨hz1, hs, hb⟩ := hh
  obtain ⟨z, hz2, hz3⟩ := Option.map_eq_some_iff.1 hz1
  simp [Instr.buildSlice, run_underlying ht, sizeOf, typeInfo, hi, hs, hz2, hz3, zeroValue, Instr.fill, Value.cells, newRow]
  refine congrArg (fun c => w.alloc (.cells c e)) (Array.ext' ?_)
  simp [List.range_succ, hz3]

theorem OpK.sliceFromS {P : Program} {ρ : Operand → Value} {w : World} {K : Value → World → Prop} {d : Option Tmp} {ty : TypeId} {pos : String} {af : Array Edge} {g : Option (Nat × Bool)} {x lo : Operand} {t e : TypeId} {s : Nat} {a : Option Addr} {n c j : Nat} {k : IntKind} (ht : P.underlying t = some (.slice e)) (hs : (P.info? e).map (·.size) = some s) (hx : ρ x = .slice a n c) (hj : ρ lo = .int k (j : Int)) (hn : j ≤ n) (hc : n ≤ c)
    (h : K (.slice (if c = j then a else a.map (·.add (j * s))) (n - j) (c - j)) w) : OpK P ρ ⟨d, .slice t x (some lo) none none, ty, pos, af, g⟩ w K := by
  have he : P.underlying t = some (.slice (P.elem t)) := by rw [ht]; simp [Program.elem, ht]
  have hel : P.elem t = e := by simp [Program.elem, ht]
  obtain ⟨i, hi, hsz⟩ := Option.map_eq_some_iff.1 hs
  simp only [OpK, execOp, Option.map_some, Option.map_none, hx, hj, Instr.sliceAt, Sem.run_bind, run_underlying ht, Result.andThen_ok]
  rw [run_slice_l w t a n c he k (j : Int) (by omega) (by omega)]
  simp only [hel, sizeOf, typeInfo, run_program, Sem.run_bind, Result.andThen_ok, hi, Sem.run_pure, sliced, Int.toNat_natCast, hsz, After]
  exact h

/-- A part of a row of tags, as append reads it. -/
def Part (w : World) (news : List (Nat × Value)) (x : Value) : Prop := ∃ a c, x = .slice a news.length c ∧ (a = none → c = 0 ∧ news = []) ∧ ∀ a', a = some a' → ∀ i y, news[i]? = some y → AtA w (a'.add (i * 2)) [.int .u32 (y.1 : Int), y.2] ∧ y.2.oneCell' = true
theorem TOwn.take {e : TypeId} {w : World} {v : Value} {us : List (Nat × Value)} (h : TOwn e w v us) (h1 : ∀ y ∈ us, y.2.oneCell' = true) : ∃ a c, v = .slice a us.length c ∧ us.length ≤ c ∧ ∀ p, p ≤ us.length → Part w (us.take p) (.slice a p c) ∧ Part w (us.drop p) (.slice (if c = p then a else a.map (·.add (p * 2))) (us.length - p) (c - p)) := by
  have h0 := h
  rcases h.2 with ⟨rfl, hn⟩ | ⟨g, cap, cur, rfl, hb, hg, hnc, hcm, hcs, htake⟩
  · have : us = [] := List.eq_nil_of_length_eq_zero hn
    subst this
    refine ⟨none, 0, rfl, Nat.le_refl _, fun p hp => ?_⟩
    obtain rfl : p = 0 := by simpa using hp
    exact ⟨⟨none, 0, rfl, fun _ => ⟨rfl, rfl⟩, fun _ h => by cases h⟩, ⟨none, 0, rfl, fun _ => ⟨rfl, rfl⟩, fun _ h => by cases h⟩⟩
  · have hat : ∀ i y, us[i]? = some y → AtA w ((⟨g, 0, none⟩ : Addr).add (i * 2)) [.int .u32 (y.1 : Int), y.2] := fun i y hy j q hj => by
      rw [Addr.add_add]
      exact World.ownsRow.cells h0 (g := g) rfl _ q (tgCells_get hy j q hj)
    refine ⟨_, cap, rfl, hnc, fun p hp => ⟨⟨_, cap, by rw [List.length_take, Nat.min_eq_left hp], (fun h => by cases h), fun a' ha i y hy => ?_⟩, ?_⟩⟩
    · cases ha
      rw [List.getElem?_take] at hy
      split at hy
      · exact ⟨hat i y hy, h1 y (List.mem_of_getElem? hy)⟩
      · cases hy
    · by_cases hcp : cap = p
      · rw [if_pos hcp]
        have : us.drop p = [] := List.drop_of_length_le (by omega)
        rw [this]
        exact ⟨_, cap - p, by rw [show us.length - p = 0 by omega]; rfl, (fun h => by cases h), fun _ _ i y hy => by simp at hy⟩
      · rw [if_neg hcp]
        refine ⟨_, cap - p, by rw [List.length_drop], (fun h => by cases h), fun a' ha i y hy => ?_⟩
        simp only [Option.map_some, Option.some.injEq] at ha
        subst ha
        rw [List.getElem?_drop] at hy
        refine ⟨?_, h1 y (List.mem_of_getElem? hy)⟩
        have := hat (p + i) y hy
        rw [show (p + i) * 2 = p * 2 + i * 2 by omega] at this
        rwa [Addr.add_add]
theorem Part.ch {w w' : World} {news : List (Nat × Value)} {x : Value} (h : Part w news x) (hlt : ∀ a n c, x = .slice (some a) n c → a.block < w.heap.size) (hc : Ch (fun _ => False) w w') : Part w' news x := by
  obtain ⟨a, c, h1, h2, h3⟩ := h
  refine ⟨a, c, h1, h2, fun a' ha i y hy => ⟨((h3 a' ha i y hy).1).ch ?_ hc, (h3 a' ha i y hy).2⟩⟩
  rw [add_block]
  exact hlt a' _ _ (by rw [h1, ha])
theorem append_part {P : Program} {w : World} {t e ty : TypeId} (ht : P.underlying t = some (.slice e)) (hz : (P.info? e).map (fun i => (i.zero.map (·.cells), i.size, i.bytes)) = some (some #[.int .u32 0, .slice none 0 0], 2, 32)) {v : Value} {us : List (Nat × Value)} (hv : TOwn e w v us)
    {news : List (Nat × Value)} {x : Value} (hx : Part w news x) (hl : us.length + news.length < 4294967296) :
    ∃ v' w', (Builtin.append_ #[t, t] ty #[v, x]).run P w = .ok v' w' ∧ TOwn e w' v' (us ++ news) ∧ Ch (fun i => v.ownBlock = some i) w w' ∧ ∀ i, v'.ownBlock = some i → v.ownBlock = some i ∨ w.heap.size ≤ i := by
  obtain ⟨a, c, rfl, h2, h3⟩ := hx
  cases a with
  | none =>
    obtain ⟨rfl, rfl⟩ := h2 rfl
    exact ⟨v, w, append_none ht hz hv (.inl rfl), by simpa using hv, Ch.refl _ _, fun _ h => .inl h⟩
  | some a => exact append_tags ht hz hv hl (h3 a rfl)

/-- A row of tags that is new since w0. -/
structure NewT (e : TypeId) (w0 w : World) (v : Value) (us : List (Nat × Value)) : Prop where
  own : TOwn e w v us
  ch : Ch (fun _ => False) w0 w
  lo : ∀ k, v.ownBlock = some k → w0.heap.size ≤ k
theorem NewT.nil (e : TypeId) (w : World) : NewT e w w (.slice none 0 0) [] := ⟨TOwn.nil _ _, Ch.refl _ _, fun k hk => by cases hk⟩
theorem NewT.later {e : TypeId} {w0 w w1 : World} {v : Value} {us : List (Nat × Value)} (h : NewT e w0 w v us) (hc : Ch (fun _ => False) w w1) : NewT e w0 w1 v us := ⟨h.own.ch hc, h.ch.trans' hc, h.lo⟩
theorem NewT.app {e : TypeId} {w0 w w1 : World} {v v' : Value} {us us' : List (Nat × Value)} (h : NewT e w0 w v us) (hown : TOwn e w1 v' us') (hch : Ch (fun i => v.ownBlock = some i) w w1) (hb : ∀ i, v'.ownBlock = some i → v.ownBlock = some i ∨ w.heap.size ≤ i) : NewT e w0 w1 v' us' := by
  refine ⟨hown, h.ch.trans hch fun k hk e => by have := h.lo k e; omega, fun k hk => ?_⟩
  rcases hb k hk with h1 | h1
  · exact h.lo k h1
  · exact Nat.le_trans h.ch.size h1
theorem Part.one {e : TypeId} {w : World} {x : Nat × Value} (h : x.2.oneCell' = true) : Part (w.alloc (.cells #[.int .u32 (x.1 : Int), x.2] e)) [x] (.slice (some ⟨w.heap.size, 0, none⟩) 1 1) :=
  ⟨_, 1, rfl, (fun h => by cases h), fun a' ha j y hy => by
    cases ha
    have hj : j = 0 := by have := (List.getElem?_eq_some_iff.1 hy).1; simp only [List.length_cons, List.length_nil] at this; omega
    subst hj
    simp only [List.getElem?_cons_zero, Option.some.injEq] at hy
    subst hy
    exact ⟨by rw [Nat.zero_mul, addr_add_zero]; exact (Blk.new w e [.int .u32 (x.1 : Int), x.2]).ata, h⟩⟩
theorem TR.ones {w : World} {us : List (Nat × Value)} {l : List (Nat × List UInt8)} (h : All2 (TR w) us l) : ∀ y ∈ us, y.2.oneCell' = true := by
  intro y hy
  obtain ⟨i, hi⟩ := List.mem_iff_getElem?.1 hy
  obtain ⟨z, _, hR⟩ := h.at1 hi
  exact hR.2.form
theorem NewT.base {e : TypeId} {w w0 w1 : World} {v : Value} {us : List (Nat × Value)} (h : NewT e w0 w1 v us) (hc : Ch (fun _ => False) w w0) : NewT e w w1 v us := ⟨h.own, hc.trans' h.ch, fun k hk => Nat.le_trans hc.size (h.lo k hk)⟩
theorem TOwn.parts {e : TypeId} {w : World} {a : Option Addr} {c : Nat} {us : List (Nat × Value)} (h : TOwn e w (.slice a us.length c) us) (h1 : ∀ y ∈ us, y.2.oneCell' = true) {p : Nat} (hp : p ≤ us.length) :
    us.length ≤ c ∧ Part w (us.take p) (.slice a p c) ∧ Part w (us.drop p) (.slice (if c = p then a else a.map (·.add (p * 2))) (us.length - p) (c - p)) := by
  obtain ⟨a', c', e1, e2, e3⟩ := TOwn.take h h1
  simp only [Value.slice.injEq, true_and] at e1
  obtain ⟨rfl, rfl⟩ := e1
  exact ⟨e2, e3 p hp⟩
theorem NewT.none {P : Program} {t e : TypeId} (w : World) (h : TOwn e (w.alloc (.cells #[] e)) (.slice (some ⟨w.heap.size, 0, Option.none⟩) 0 0) []) : NewT e w (w.alloc (.cells #[] e)) (.slice (some ⟨w.heap.size, 0, Option.none⟩) 0 0) [] :=
  ⟨h, Ch.alloc _ _ _, fun k hk => by simp only [Value.ownBlock, Option.some.injEq] at hk; omega⟩
end Go.Kx
