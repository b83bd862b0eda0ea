/- A slice of octets that grows: what it holds, and what appending to it leaves. -/
import Derived.Test.YtlmelgjepdbakaaDoorRKxVal
import Derived.Lib.AppendStr
import Derived.Maps.AppendAt
namespace Go.Kx
open Go.RowKit
set_option linter.unusedSimpArgs false
set_option linter.unusedVariables false

/-- No slice of octets comes to more than this. -/
def Lim : Nat := 140737488355328

def Own (e : TypeId) (w : World) (v : Value) (bs : List UInt8) : Prop := w.ownsRow 0 e 1 v bs.length (bs.map bv)

/-- From w, where v is the slice, to w', where v' holds bs: nothing else that was there has turned. -/
structure Grew (e : TypeId) (w : World) (v : Value) (w' : World) (v' : Value) (bs : List UInt8) : Prop where
  own : Own e w' v' bs
  ch : Ch (fun k => v.ownBlock = some k) w w'
  blk : ∀ k, v'.ownBlock = some k → v.ownBlock = some k ∨ w.heap.size ≤ k

theorem Own.nil (e : TypeId) (w : World) : Own e w (.slice none 0 0) [] := World.ownsRow_nil w 0 e 1

theorem Own.lt {e : TypeId} {w : World} {v : Value} {bs : List UInt8} (h : Own e w v bs) {k : Nat} (hk : v.ownBlock = some k) : k < w.heap.size :=
  (World.ownsRow.lt h k hk).2

theorem Own.keep {e : TypeId} {w w' : World} {v : Value} {bs : List UInt8} (h : Own e w v bs) (hk : ∀ k, v.ownBlock = some k → w'.heap[k]? = w.heap[k]?) : Own e w' v bs := by
  refine ⟨h.1, ?_⟩
  rcases h.2 with hn | ⟨g, cap, cur, rfl, hb, hg, rest⟩
  · exact .inl hn
  · exact .inr ⟨g, cap, cur, rfl, hb, (hk g rfl).trans hg, rest⟩

theorem Own.len {e : TypeId} {w : World} {v : Value} {bs : List UInt8} (h : Own e w v bs) : ∃ a c, v = .slice a bs.length c ∧ bs.length ≤ c ∧ ∀ a', a = some a' → Oct w a' bs := by
  rcases h.2 with ⟨rfl, hn⟩ | ⟨g, cap, cur, rfl, hb, hg, hnc, hm, hs, ht⟩
  · exact ⟨none, 0, by rw [hn], by rw [hn]; exact Nat.le_refl _, fun _ h => by cases h⟩
  · refine ⟨some ⟨g, 0, none⟩, cap, rfl, hnc, fun a' ha i u hu => ?_⟩
    cases ha
    exact World.ownsRow.cells h (g := g) rfl i (bv u) (by simp [hu])

theorem Grew.refl {e : TypeId} {w : World} {v : Value} {bs : List UInt8} (h : Own e w v bs) : Grew e w v w v bs := ⟨h, Ch.refl _ _, fun _ h => .inl h⟩

theorem Grew.trans {e : TypeId} {w w1 w2 : World} {v v1 v2 : Value} {b1 b2 : List UInt8} (h : Grew e w v w1 v1 b1) (k : Grew e w1 v1 w2 v2 b2) : Grew e w v w2 v2 b2 := by
  refine ⟨k.own, h.ch.trans k.ch fun i hi he => ?_, fun i hi => ?_⟩
  · rcases h.blk i he with h' | h'
    · exact h'
    · omega
  · rcases k.blk i hi with h' | h'
    · exact h.blk i h'
    · exact .inr (Nat.le_trans h.ch.size h')

/-- What lies in blocks that are there, and not the slice's own, is kept. -/
theorem Grew.keep {e : TypeId} {w w' : World} {v v' : Value} {bs : List UInt8} (h : Grew e w v w' v' bs) {k : Nat} (hk : k < w.heap.size) (hv : v.ownBlock ≠ some k) : w'.heap[k]? = w.heap[k]? := h.ch.block k hk hv

/-- The number of the type of octets: its zero, its size. -/
def U8 (P : Program) (e : TypeId) : Prop := (P.info? e).map (fun i => (i.zero, i.size, i.bytes)) = some (some (.int .u8 0), 1, 1)

theorem bv_one (l : List UInt8) : ∀ u ∈ l.map bv, u.oneCell' = true := by
  intro u hu
  obtain ⟨b, _, rfl⟩ := List.mem_map.1 hu
  rfl

/-- append of a slice of octets. -/
theorem run_append_oct {P : Program} {w : World} {t ty e : TypeId} (he : U8 P e) (ht : P.underlying t = some (.slice e)) {v : Value} {bs : List UInt8} (hv : Own e w v bs)
    {a : Option Addr} {l : List UInt8} {c : Nat} (ha : a = none → l = []) (hl : ∀ a', a = some a' → Oct w a' l) (hlim : bs.length + l.length ≤ Lim) :
    ∃ v' w', (Builtin.append_ #[t, t] ty #[v, .slice a l.length c]).run P w = .ok v' w' ∧ Grew e w v w' v' (bs ++ l) := by
  unfold U8 at he
  obtain ⟨i, hi, hh⟩ := Option.map_eq_some_iff.1 he
  simp only [Prod.mk.injEq] at hh
  obtain ⟨hz, hs, hb⟩ := hh
  cases a with
  | none =>
    obtain rfl := ha rfl
    refine ⟨v, w, ?_, by simpa using Grew.refl hv⟩
    rcases hv.2 with ⟨rfl, _⟩ | ⟨g, cap, cur, rfl, _, _, hnc, _⟩
    · simp [Builtin.append_, run_underlying ht, sizeOf, typeInfo, hi, Builtin.lenOf, Builtin.firstCells]
    · simp [Builtin.append_, run_underlying ht, sizeOf, typeInfo, hi, Builtin.lenOf, Builtin.firstCells, hnc, storeCells]
  | some a =>
    unfold Lim at hlim
    obtain ⟨v', w', hr, hown, hg, _, hat⟩ := run_append_own_at (P := P) w 0 t ty e i (.int .u8 0) 1 1 ht hi hz hs hb rfl (by omega) v bs.length (bs.map bv) hv a l.length c (l.map bv)
      (by simp) (fun j u hu => by
        rw [List.getElem?_map, Option.map_eq_some_iff] at hu
        obtain ⟨b, hb, rfl⟩ := hu
        exact hl a rfl j b hb) (bv_one l) (by simp only [maxLen]; omega) (by omega) (Nat.zero_le _)
    have hown' : Own e w' v' (bs ++ l) := by
      unfold Own
      rw [List.length_append, List.map_append]
      exact hown
    refine ⟨v', w', hr, hown', Ch.of_grown hg fun k hk => hk, fun k hk => ?_⟩
    rcases hat with h | h
    · exact .inl (h ▸ hk)
    · rw [h] at hk
      simp only [Option.some.injEq] at hk
      exact .inr (by omega)

theorem strCells_mk (l : List UInt8) : Lib.strCells ⟨l.toArray⟩ = l.map bv := by simp [Lib.strCells, bv]
theorem size_mk (l : List UInt8) : (⟨l.toArray⟩ : ByteArray).size = l.length := by simp [ByteArray.size]

/-- append of a text. -/
theorem run_append_str {P : Program} {w : World} {t u ty e : TypeId} (he : U8 P e) (ht : P.underlying t = some (.slice e)) (hu : P.underlying u = some .string) {v : Value} {bs : List UInt8} (hv : Own e w v bs)
    {l : List UInt8} (hlim : bs.length + l.length ≤ Lim) :
    ∃ v' w', (Builtin.append_ #[t, u] ty #[v, strV l]).run P w = .ok v' w' ∧ Grew e w v w' v' (bs ++ l) := by
  unfold U8 at he
  obtain ⟨i, hi, hh⟩ := Option.map_eq_some_iff.1 he
  simp only [Prod.mk.injEq] at hh
  obtain ⟨hz, hs, hb⟩ := hh
  unfold Lim at hlim
  have hsz := size_mk l
  obtain ⟨v', w', hr, hown, hg, hnil⟩ := Lib.run_append_own_string (P := P) w 0 t u ty e i ht hu hi hz hs hb v bs.length (bs.map bv) hv ⟨l.toArray⟩
    (by rw [hsz]; simp only [maxLen]; omega) (by rw [hsz]; omega) (Nat.zero_le _)
  rw [strCells_mk, hsz] at hown
  have hown' : Own e w' v' (bs ++ l) := by
    unfold Own
    rw [List.length_append, List.map_append]
    exact hown
  refine ⟨v', w', hr, hown', Ch.of_grown hg fun k hk => hk, fun k hk => ?_⟩
  rcases hv.2 with ⟨rfl, hn⟩ | ⟨g, cap, cur, rfl, hbg, hgg, hnc, hcm, hcs, htake⟩
  · by_cases hm : l.length = 0
    · rw [(hnil.2 ⟨rfl, by rw [hsz]; exact hm⟩)] at hk
      cases hk
    · have hr2 := run_append_nil_string (P := P) w t u ty e i (.int .u8 0) ht hu hi hz ⟨l.toArray⟩ (by rw [hsz]; omega) (by rw [hsz]; omega) (by rw [hb, hsz]; omega)
      have := hr.symm.trans hr2
      injection this with hv' _
      rw [hv'] at hk
      simp only [Value.ownBlock, Option.some.injEq] at hk
      exact .inr (by omega)
  · by_cases hroom : bs.length + l.length ≤ cap
    · have hcs' : cur.size = cap := by simpa using hcs
      have hr2 := Lib.run_append_room_string (P := P) w t u ty e i ht hu hi hs g bs.length cap cur hgg ⟨l.toArray⟩ (by rw [hsz]; omega) (by rw [hsz]; omega)
      have := hr.symm.trans hr2
      injection this with hv' _
      rw [hv'] at hk
      exact .inl hk
    · have holds : ∀ j u, (bs.map bv)[j]? = some u → w.cell? ((⟨g, 0, none⟩ : Addr).add j) = some u := World.ownsRow.cells hv (g := g) rfl
      have hr2 := Lib.run_append_grow_string (P := P) w t u ty e i (.int .u8 0) ht hu hi hz ⟨g, 0, none⟩ bs.length cap (bs.map bv) (by rw [hs]; simp) holds ⟨l.toArray⟩ (by rw [hsz]; omega) (by rw [hsz]; omega)
        (by rw [hb]; exact growslice_fits (by rw [hsz]; omega) (by rw [hsz]; omega))
      have := hr.symm.trans hr2
      injection this with hv' _
      rw [hv'] at hk
      simp only [Value.ownBlock, Option.some.injEq] at hk
      exact .inr (by omega)

/-- Octets behind a new row. -/
theorem Oct.new (w : World) (e : TypeId) (l : List UInt8) : Oct (w.alloc (.cells (l.map bv).toArray e)) ⟨w.heap.size, 0, none⟩ l := by
  intro i u hu
  rw [add_lit, Nat.zero_add]
  have := (Blk.new w e (l.map bv)).cell i
  rw [this, List.getElem?_map, hu]
  rfl

/-- A function that writes a value behind a slice of octets: which octets it writes. -/
def ApC (P : Program) (e : TypeId) (f : FuncId) (x : Array Value) (out : List UInt8) (w : World) : Prop :=
  ∀ v bs, Own e w v bs → bs.length + out.length ≤ Lim → Calls P f (#[v] ++ x) w fun en w' => ∃ v', en = .returned v' ∧ Grew e w v w' v' (bs ++ out)

end Go.Kx
