/- The operations that make or write blocks, over plain data. -/
import Derived.Test.YtlmelgjepdbakaaDoorRKxRun2
namespace Go.Kx
open Go.RowKit
set_option linter.unusedSimpArgs false
set_option linter.unusedVariables false

def AV.ok : AV → Bool
  | .c x => x.one
  | .agg l => l.all AC.one
theorem one_cells {v : Value} (h : v.oneCell' = true) : v.cells = #[v] := by cases v <;> first | rfl | (simp [Value.oneCell'] at h)
theorem AV.is.cells {E : En} {a : AV} {v : Value} (h : a.is E v) (ho : a.ok = true) : ∃ us, All2 (AC.is E) a.cells us ∧ v.cells = us.toArray ∧ ∀ u ∈ us, u.oneCell' = true := by
  cases a with
  | c x => exact ⟨[v], .cons h .nil, one_cells (AC.is.one h ho), by intro u hu; simp at hu; subst hu; exact AC.is.one h ho⟩
  | agg l =>
    obtain ⟨us, h1, rfl⟩ := h
    refine ⟨us, h1, rfl, ?_⟩
    simp only [AV.ok] at ho
    induction h1 with
    | nil => intro u hu; cases hu
    | cons h1 _ ih =>
      simp only [List.all_cons, Bool.and_eq_true] at ho
      intro u hu
      rcases List.mem_cons.1 hu with rfl | hu
      · exact h1.one ho.1
      · exact ih ho.2 u hu

def splice {α : Type} (cells l : List α) (off : Nat) : List α := cells.take off ++ l ++ cells.drop (off + l.length)
theorem All2.splice {α β : Type} {R : α → β → Prop} {a b : List α} {c d : List β} (h : All2 R a c) (k : All2 R b d) (off : Nat) : All2 R (splice a b off) (splice c d off) := by
  unfold Go.Kx.splice
  rw [k.len]
  exact ((h.take off).append k).append (h.drop _)
theorem splice_length {α : Type} {cells l : List α} {off : Nat} (h : off + l.length ≤ cells.length) : (splice cells l off).length = cells.length := by
  unfold splice; simp; omega

theorem fold_splice (off : Nat) : ∀ (l : List Value) (k : Nat) (A : List Value), off + k + l.length ≤ A.length →
    ((l.zipIdx k).foldl (fun (cs : Array Value) (x : Value × Nat) => cs.setIfInBounds (off + x.2) x.1) A.toArray) = (A.take (off + k) ++ l ++ A.drop (off + k + l.length)).toArray
  | [], k, A, h => by simp
  | c :: l, k, A, h => by
    simp only [List.length_cons] at h
    simp only [List.zipIdx_cons, List.foldl_cons, List.setIfInBounds_toArray]
    rw [fold_splice off l (k + 1) (A.set (off + k) c) (by simp; omega)]
    congr 1
    apply List.ext_getElem?
    intro i
    simp only [List.getElem?_append, List.length_append, List.length_take, List.length_set, List.getElem?_take, List.getElem?_drop, List.length_cons, List.getElem?_set, List.getElem?_cons]
    by_cases h1 : i < off + k
    · have : i ≠ off + k := by omega
      simp [h1, show i < off + (k + 1) by omega, show i < min (off + (k+1)) A.length by omega, show i < min (off + k) A.length by omega, show i < min (off + (k+1)) A.length + l.length by omega, show i < min (off + k) A.length + (l.length + 1) by omega, show ¬ off + k = i by omega]
    · by_cases h2 : i = off + k
      · subst h2
        simp [show off + k < min (off + (k+1)) A.length + l.length by omega, show off + k < min (off + (k+1)) A.length by omega, show off + k < off + (k+1) by omega, show ¬ off + k < min (off + k) A.length by omega, show off + k < min (off + k) A.length + (l.length + 1) by omega, show off + k < A.length by omega, show off + k - min (off + k) A.length = 0 by omega]
      · by_cases h3 : i < off + k + 1 + l.length
        · simp [show i < min (off + (k+1)) A.length + l.length by omega, show ¬ i < min (off + (k+1)) A.length by omega, show i < min (off + k) A.length + (l.length + 1) by omega, show ¬ i < min (off + k) A.length by omega, show i - min (off + k) A.length ≠ 0 by omega, show i - min (off + k) A.length - 1 = i - min (off + (k+1)) A.length by omega]
        · have hne : ¬ off + k = off + k + (l.length + 1) + (i - (min (off + k) A.length + (l.length + 1))) := by omega
          simp [hne, show ¬ i < min (off + (k+1)) A.length + l.length by omega, show ¬ i < min (off + k) A.length + (l.length + 1) by omega, show off + (k + 1) + l.length + (i - (min (off + (k+1)) A.length + l.length)) = off + k + (l.length + 1) + (i - (min (off + k) A.length + (l.length + 1))) by omega]

def afill (place : Nat → Option (Nat × Nat)) (cells : List AC) : List (Nat × AV) → Option (List AC)
  | [] => some cells
  | (i, v) :: rest =>
    match place i with
    | none => none
    | some (off, size) => if v.ok && Nat.beq v.cells.length size && Nat.ble (off + v.cells.length) cells.length then afill place (splice cells v.cells off) rest else none

theorem afill_sound {E : En} {place : Nat → Option (Nat × Nat)} : ∀ {ps : List (Nat × AV)} {qs : List (Nat × Value)} {cells cells' : List AC} {vs : List Value}, All2 (fun a b => a.1 = b.1 ∧ a.2.is E b.2) ps qs → All2 (AC.is E) cells vs →
    afill place cells ps = some cells' → ∃ vs', All2 (AC.is E) cells' vs' ∧ Instr.fill place vs.toArray qs = some vs'.toArray ∧ vs'.length = vs.length := by
  intro ps
  induction ps with
  | nil => intro qs cells cells' vs hq hc h; cases hq; cases h; exact ⟨vs, hc, rfl, rfl⟩
  | cons x ps ih =>
    intro qs cells cells' vs hq hc h
    cases hq with
    | cons h1 h2 =>
      rename_i y qs
      obtain ⟨i, v⟩ := x
      obtain ⟨j, u⟩ := y
      obtain ⟨rfl, hv⟩ := h1
      unfold afill at h
      split at h
      · cases h
      · rename_i off size hp
        split at h
        · rename_i hcond
          simp only [Bool.and_eq_true] at hcond
          obtain ⟨⟨ho, hsz⟩, hle⟩ := hcond
          have hsz := Nat.eq_of_beq_eq_true hsz
          have hle := Nat.le_of_ble_eq_true hle
          obtain ⟨us, hu1, hu2, _⟩ := hv.cells ho
          have hl : v.cells.length = us.length := hu1.len
          rw [hl] at hsz hle
          have hlc := hc.len
          have hlc : cells.length = vs.length := hlc
          rw [hlc] at hle
          obtain ⟨vs', k1, k2, k3⟩ := ih h2 (hc.splice hu1 off) h
          refine ⟨vs', k1, ?_, by rw [k3, splice_length (by omega)]⟩
          unfold Instr.fill
          have hf := fold_splice off us 0 vs (by omega)
          simp only [hp, hu2]
          rw [if_neg (by simp; omega)]
          simp only [Nat.add_zero] at hf
          have he : Array.foldl (fun (cs : Array Value) (x : Value × Nat) => match x with | (c, j) => cs.setIfInBounds (off + j) c) vs.toArray us.toArray.zipIdx = (splice vs us off).toArray := by
            rw [← Array.foldl_toList]
            have hz : (us.toArray.zipIdx).toList = us.zipIdx := by simp
            rw [hz]
            exact hf
          rw [he]
          exact k2
        · cases h

def lits (l : List Value) : List AC := l.map .lit
theorem lits_is (E : En) (l : List Value) : All2 (AC.is E) (lits l) l := by
  induction l with
  | nil => exact .nil
  | cons v l ih => exact .cons rfl ih

theorem map_parts {E : En} {ρa : Operand → AV} {ρ : Operand → Value} (hρ : ∀ x, (ρa x).is E (ρ x)) (l : List (Nat × Operand)) :
    All2 (fun (a : Nat × AV) (b : Nat × Value) => a.1 = b.1 ∧ a.2.is E b.2) (l.map fun x => (x.1, ρa x.2)) (l.map fun x => (x.1, ρ x.2)) := by
  induction l with
  | nil => exact .nil
  | cons x l ih => exact .cons ⟨rfl, hρ x.2⟩ ih

def places (P : Program) (t : TypeId) : Option (List AC × (Nat → Option (Nat × Nat))) :=
  match P.info? t, P.underlying t with
  | some it, some (.array _ e) =>
    match it.zero, P.info? e with
    | some z, some ie => some (lits z.cells.toList, fun i => some (i * ie.size, ie.size))
    | _, _ => none
  | some it, some (.struct fields) =>
    match it.zero, fields.toList.mapM (fun f => (P.info? f.type).map fun i => (f.offset, i.size)) with
    | some z, some pl => some (lits z.cells.toList, fun i => pl[i]?)
    | _, _ => none
  | _, _ => none

theorem places_built {P : Program} {E : En} {t : TypeId} {c0 cs : List AC} {pl : Nat → Option (Nat × Nat)} (h : places P t = some (c0, pl)) {ps : List (Nat × AV)} {qs : List (Nat × Value)}
    (hq : All2 (fun (a : Nat × AV) (b : Nat × Value) => a.1 = b.1 ∧ a.2.is E b.2) ps qs) (hf : afill pl c0 ps = some cs) : ∃ vs, All2 (AC.is E) cs vs ∧ P.built t qs = some vs.toArray := by
  unfold places at h
  unfold Program.built
  split at h
  · rename_i it n e hi hu
    split at h
    · rename_i z ie hz hie
      cases h
      obtain ⟨vs, h1, h2, _⟩ := afill_sound hq (lits_is E _) hf
      refine ⟨vs, h1, ?_⟩
      simp only [hi, hu, hz, hie]
      simpa using h2
    · cases h
  · rename_i it fields hi hu
    split at h
    · rename_i z l hz hl
      cases h
      obtain ⟨vs, h1, h2, _⟩ := afill_sound hq (lits_is E _) hf
      refine ⟨vs, h1, ?_⟩
      simp only [hi, hu, hz, hl]
      simpa using h2
    · cases h
  · cases h

def zeros (z : List AC) : Nat → List AC
  | 0 => []
  | n + 1 => z ++ zeros z n

def abuildS (P : Program) (t : TypeId) (len : Nat) (ps : List (Nat × AV)) : Option (TypeId × List AC) :=
  match P.underlying t with
  | some (.slice e) => match P.info? e with
    | some ie => match ie.zero with
      | some z =>
        if Nat.ble (len * ie.size) 16777216 && Nat.blt 0 (len * ie.size) then
          (afill (fun i => some (i * ie.size, ie.size)) (((Array.range (len * ie.size)).map (z.cells[· % z.cells.size]!)).toList.map .lit) ps).map fun cs => (e, cs)
        else none
      | none => none
    | none => none
  | _ => none

theorem abuildS_sound {P : Program} {E : En} {t e : TypeId} {len : Nat} {ps : List (Nat × AV)} {qs : Array (Nat × Value)} {cs : List AC} (h : abuildS P t len ps = some (e, cs))
    (hq : All2 (fun (a : Nat × AV) (b : Nat × Value) => a.1 = b.1 ∧ a.2.is E b.2) ps qs.toList) (w : World) : ∃ vs, All2 (AC.is E) cs vs ∧ (Instr.buildSlice t len qs).run P w = .ok (.slice (some ⟨w.heap.size, 0, none⟩) len len) (w.alloc (.cells vs.toArray e)) := by
  unfold abuildS at h
  split at h
  · rename_i e' hu
    split at h
    · rename_i ie hie
      split at h
      · rename_i z hz
        split at h
        · rename_i hc
          simp only [Bool.and_eq_true] at hc
          have h1 := Nat.le_of_ble_eq_true hc.1
          have h2 : 0 < len * ie.size := by simpa [Nat.blt_eq] using hc.2
          obtain ⟨c', hf, he⟩ := Option.map_eq_some_iff.1 h
          cases he
          obtain ⟨vs, k1, k2, _⟩ := afill_sound hq (lits_is E _) hf
          refine ⟨vs, k1, run_buildSlice w t _ len qs _ ie z hu hie hz (by omega) (by omega) ?_⟩
          rw [Array.toArray_toList] at k2
          exact k2
        · cases h
      · cases h
    · cases h
  · cases h

theorem OpK.build {P : Program} {ρ : Operand → Value} {w : World} {K : Value → World → Prop} {d : Option Tmp} {ty : TypeId} {pos : String} {af : Array Edge} {g : Option (Nat × Bool)} {t : TypeId} {parts : Array (Nat × Operand)} {cells : Array Value}
    (hb : P.built t (parts.toList.map fun x => (x.1, ρ x.2)) = some cells) (h : K (.agg cells) w) : OpK P ρ ⟨d, .build t parts, ty, pos, af, g⟩ w K := by
  have hr := run_build (P := P) w t (parts.map fun x => (x.1, ρ x.2)) cells (by rw [Array.toList_map]; exact hb)
  simp only [OpK, execOp, Sem.run_bind]
  rw [show (Array.map (fun (x : Nat × Operand) => match x with | (i, x) => (i, ρ x)) parts) = parts.map fun x => (x.1, ρ x.2) from rfl, hr]
  exact h

theorem run_append_none {P : Program} {w : World} {t u ty e : TypeId} {v x : Value} {size : Nat} (ht : P.underlying t = some (.slice e)) (hs : (P.info? e).map (·.size) = some size) (hu : P.underlying u = some .string ∨ ∃ e', P.underlying u = some (.slice e'))
    (hv : (v = .slice none 0 0) ∨ ∃ a n c, v = .slice (some a) n c ∧ n ≤ c) (hx : x = .slice none 0 0 ∨ (∃ a c, x = .slice (some a) 0 c) ∨ x = .string ⟨#[]⟩) : (Builtin.append_ #[t, u] ty #[v, x]).run P w = .ok v w := by
  obtain ⟨i, hi, his⟩ := Option.map_eq_some_iff.1 hs
  have hlen : (Builtin.lenOf x).run P w = .ok 0 w := by
    rcases hx with rfl | ⟨a, c, rfl⟩ | rfl <;> simp [Builtin.lenOf, ByteArray.size]
  have hcells : (Builtin.firstCells i.size 0 x).run P w = .ok #[] w := by
    rcases hx with rfl | ⟨a, c, rfl⟩ | rfl
    · simp [Builtin.firstCells]
    · simp [Builtin.firstCells, loadCells, loadCellsFrom]
    · have : ((⟨#[]⟩ : ByteArray).extract 0 0).data = #[] := rfl
      simp [Builtin.firstCells, this]
  have body : (Builtin.append_ #[t, u] ty #[v, x]).run P w = .ok v w := by
    rcases hu with hd | ⟨e', hd⟩ <;> rcases hv with rfl | ⟨a, n, c, rfl, hnc⟩
    · simp [Builtin.append_, run_underlying ht, run_underlying hd, sizeOf, typeInfo, hi, hlen, hcells]
    · simp [Builtin.append_, run_underlying ht, run_underlying hd, sizeOf, typeInfo, hi, hlen, hcells, hnc, storeCells]
    · simp [Builtin.append_, run_underlying ht, run_underlying hd, sizeOf, typeInfo, hi, hlen, hcells]
    · simp [Builtin.append_, run_underlying ht, run_underlying hd, sizeOf, typeInfo, hi, hlen, hcells, hnc, storeCells]
  exact body

end Go.Kx
