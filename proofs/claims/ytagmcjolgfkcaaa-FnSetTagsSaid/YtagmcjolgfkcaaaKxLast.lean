/- Tags, each once, of which the last one counts: plain laws, and slices of tags in memory. -/
import Derived.Test.YtagmcjolgfkcaaaKxAgn
import Derived.Test.YtagmcjolgfkcaaaKxRun4
import Derived.Test.YtagmcjolgfkcaaaKxSortP
namespace Go.Kx
open Go.RowKit
set_option linter.unusedSimpArgs false
set_option linter.unusedVariables false

/-- One tag more; what was there by its number gives way. -/
def lastU (out : List (Nat × List UInt8)) (x : Nat × List UInt8) : List (Nat × List UInt8) := if out.any (fun y => y.1 == x.1) then out.map (fun e => if e.1 == x.1 then x else e) else insTag x out
def lastT (l : List (Nat × List UInt8)) : List (Nat × List UInt8) := l.foldl lastU []
def setAll (t l : List (Nat × List UInt8)) : List (Nat × List UInt8) := l.foldl (fun t x => setTag t x.1 x.2) t

theorem rising_pw : ∀ {l : List (Nat × List UInt8)}, Rising l → l.Pairwise (fun x y => x.1 < y.1)
  | [], _ => List.Pairwise.nil
  | x :: t, h => List.pairwise_cons.2 ⟨h.1, rising_pw h.2⟩
theorem pw_rising : ∀ {l : List (Nat × List UInt8)}, l.Pairwise (fun x y => x.1 < y.1) → Rising l
  | [], _ => trivial
  | x :: t, h => ⟨(List.pairwise_cons.1 h).1, pw_rising (List.pairwise_cons.1 h).2⟩
theorem rising_eq {l m : List (Nat × List UInt8)} (hl : Rising l) (hm : Rising m) (h : l.Perm m) : l = m := by
  refine List.Perm.eq_of_pairwise (le := fun x y => x.1 < y.1) (fun a b _ _ h1 h2 => by omega) (rising_pw hl) (rising_pw hm) h
theorem setTag_old {t : List (Nat × List UInt8)} {x : Nat × List UInt8} (h : t.any (fun e => e.1 == x.1) = true) : setTag t x.1 x.2 = t.map fun e => if e.1 == x.1 then x else e := by
  unfold setTag
  rw [if_pos h]
theorem any_sort {k : Nat} {t : List (Nat × List UInt8)} : (sortTags t).any (fun e => e.1 == k) = t.any (fun e => e.1 == k) := by
  rw [Bool.eq_iff_iff]
  simp only [List.any_eq_true, sortTags_mem]
theorem map_key {x : Nat × List UInt8} (e : Nat × List UInt8) : (if e.1 == x.1 then x else e).1 = e.1 := by
  split
  · rename_i h; exact (beq_iff_eq.1 h).symm
  · rfl
theorem lastU_rising {out : List (Nat × List UInt8)} {x : Nat × List UInt8} (h : Rising out) : Rising (lastU out x) := by
  unfold lastU
  split
  · exact rising_map (fun e => map_key e) h
  · rename_i hn
    refine insTag_rising h fun y hy e => hn ?_
    rw [List.any_eq_true]
    exact ⟨y, hy, by simp [e]⟩
theorem keys_set {t : List (Nat × List UInt8)} {x : Nat × List UInt8} (hn : (tagKeys t).Nodup) : (tagKeys (setTag t x.1 x.2)).Nodup := by
  by_cases h : t.any (fun e => e.1 == x.1) = true
  · rw [setTag_old h]
    unfold tagKeys at hn ⊢
    rw [List.map_map]
    have : ((fun e : Nat × List UInt8 => e.1) ∘ fun e => if (e.1 == x.1) = true then x else e) = fun e => e.1 := by funext e; exact map_key e
    rw [this]
    exact hn
  · have hne : ∀ y ∈ t, y.1 ≠ x.1 := fun y hy e => h (List.any_eq_true.2 ⟨y, hy, by simp [e]⟩)
    rw [setTag_new hne]
    unfold tagKeys at hn ⊢
    rw [List.map_append, List.nodup_append]
    refine ⟨hn, by simp, fun a ha b hb => ?_⟩
    simp only [List.map_cons, List.map_nil, List.mem_singleton] at hb
    subst hb
    obtain ⟨y, hy, rfl⟩ := List.mem_map.1 ha
    exact hne y hy
theorem sort_set {t : List (Nat × List UInt8)} {x : Nat × List UInt8} (hn : (tagKeys t).Nodup) : sortTags (setTag t x.1 x.2) = lastU (sortTags t) x := by
  refine rising_eq (sortTags_rising (keys_set hn)) (lastU_rising (sortTags_rising hn)) ((sortTags_perm _).trans ?_)
  unfold lastU
  rw [any_sort]
  by_cases h : t.any (fun e => e.1 == x.1) = true
  · rw [if_pos h, setTag_old h]
    exact ((sortTags_perm t).map _).symm
  · rw [if_neg h]
    have hne : ∀ y ∈ t, y.1 ≠ x.1 := fun y hy e => h (List.any_eq_true.2 ⟨y, hy, by simp [e]⟩)
    rw [setTag_new hne]
    exact (List.perm_append_comm.trans ((sortTags_perm t).symm.cons x)).trans (insTag_perm x _).symm
theorem sort_all : ∀ (l : List (Nat × List UInt8)) {t : List (Nat × List UInt8)}, (tagKeys t).Nodup → sortTags (setAll t l) = l.foldl lastU (sortTags t) ∧ (tagKeys (setAll t l)).Nodup
  | [], t, h => ⟨rfl, h⟩
  | x :: l, t, h => by
    have h1 := sort_all l (keys_set (x := x) h)
    rw [sort_set h] at h1
    exact h1
/-- What setting leaves, sorted, is what the reference says. -/
theorem last_sort (l : List (Nat × List UInt8)) : sortTags (setAll [] l) = lastT l := (sort_all l (t := []) List.nodup_nil).1
theorem set_nodup (l : List (Nat × List UInt8)) : (tagKeys (setAll [] l)).Nodup := (sort_all l (t := []) List.nodup_nil).2
theorem lastT_rising (l : List (Nat × List UInt8)) : Rising (lastT l) := by rw [← last_sort]; exact sortTags_rising (set_nodup l)
theorem set_fresh : ∀ (l t : List (Nat × List UInt8)), (tagKeys (t ++ l)).Nodup → setAll t l = t ++ l
  | [], t, _ => by simp [setAll]
  | x :: l, t, h => by
    have h0 : t ++ x :: l = (t ++ [x]) ++ l := by simp
    have hne : ∀ y ∈ t, y.1 ≠ x.1 := by
      intro y hy e
      unfold tagKeys at h
      rw [List.map_append, List.nodup_append] at h
      exact h.2.2 y.1 (List.mem_map_of_mem hy) x.1 (by simp) e
    have : setAll t (x :: l) = setAll (t ++ [x]) l := by
      show setAll (setTag t x.1 x.2) l = _
      rw [setTag_new hne]
    rw [this, set_fresh l (t ++ [x]) (by rw [← h0]; exact h), h0]
/-- Tags that rise stay. -/
theorem lastT_of_rising {l : List (Nat × List UInt8)} (h : Rising l) : lastT l = l := by
  rw [← last_sort, set_fresh l [] (by simpa using rising_nodup h), List.nil_append, sortTags_of_rising h]
theorem set_len : ∀ (l t : List (Nat × List UInt8)), (setAll t l).length ≤ t.length + l.length
  | [], t => by simp [setAll]
  | x :: l, t => by
    have h1 := set_len l (setTag t x.1 x.2)
    have h2 : (setTag t x.1 x.2).length ≤ t.length + 1 := by unfold setTag; split <;> simp
    show (setAll (setTag t x.1 x.2) l).length ≤ _
    simp only [List.length_cons]
    omega
theorem set_mem : ∀ (l t : List (Nat × List UInt8)), ∀ y ∈ setAll t l, y ∈ t ∨ y ∈ l
  | [], t => fun y hy => .inl hy
  | x :: l, t => fun y hy => by
    rcases set_mem l (setTag t x.1 x.2) y hy with h | h
    · unfold setTag at h
      split at h
      · obtain ⟨z, hz, rfl⟩ := List.mem_map.1 h
        split
        · exact .inr (by simp)
        · exact .inl hz
      · rcases List.mem_append.1 h with h | h
        · exact .inl h
        · simp only [List.mem_singleton] at h; subst h; exact .inr (by simp)
    · exact .inr (List.mem_cons_of_mem _ h)
theorem lastT_mem {l : List (Nat × List UInt8)} : ∀ y ∈ lastT l, y ∈ l := fun y hy => by
  rw [← last_sort, sortTags_mem] at hy
  rcases set_mem l [] y hy with h | h
  · cases h
  · exact h

theorem lastU_at {x : Nat × List UInt8} {l : List (Nat × List UInt8)} (h : Rising l) : lastU l x = if (∃ y, l[posOf x.1 l]? = some y ∧ y.1 = x.1) then l.set (posOf x.1 l) x else l.take (posOf x.1 l) ++ x :: l.drop (posOf x.1 l) := by
  unfold lastU
  by_cases ha : l.any (fun y => y.1 == x.1) = true
  · obtain ⟨y, hy, hk⟩ := (any_at h).1 ha
    rw [if_pos ha, if_pos ⟨y, hy, hk⟩]
    refine List.ext_getElem? fun i => ?_
    rw [List.getElem?_map, List.getElem?_set]
    have hpl := (List.getElem?_eq_some_iff.1 hy).1
    by_cases hi : posOf x.1 l = i
    · subst hi
      rw [if_pos rfl, if_pos hpl, hy]
      simp [hk]
    · rw [if_neg hi]
      rcases Nat.lt_or_ge i l.length with hil | hil
      · rw [List.getElem?_eq_getElem hil]
        simp only [Option.map_some, Option.some.injEq]
        rw [if_neg]
        intro e
        have e1 := beq_iff_eq.1 e
        have hpw := List.pairwise_iff_getElem.1 (rising_pw h)
        have hyg : l[posOf x.1 l] = y := (List.getElem?_eq_some_iff.1 hy).2
        rcases Nat.lt_or_gt_of_ne hi with h5 | h5
        · have := hpw _ _ hpl hil h5; rw [hyg] at this; omega
        · have := hpw _ _ hil hpl h5; rw [hyg] at this; omega
      · rw [List.getElem?_eq_none hil]; rfl
  · rw [if_neg ha, if_neg (fun hh => ha ((any_at h).2 hh))]
    simp only [List.any_eq_true, beq_iff_eq, not_exists, not_and] at ha
    exact insTag_at fun y hy => ha y hy
theorem All2.setT {α β : Type} {R : α → β → Prop} {a : α} {b : β} (h : R a b) : ∀ {l : List α} {m : List β} (i : Nat), All2 R l m → All2 R (l.set i a) (m.set i b)
  | _, _, _, .nil => .nil
  | _, _, 0, .cons _ t => .cons h t
  | _, _, i + 1, .cons g t => .cons g (All2.setT h i t)
/-- One more tag, the last one counts: what the walk leaves. -/
theorem last_two {w : World} {B p : Nat} {x : Nat × List UInt8} {v : Value} {us : List (Nat × Value)} {out : List (Nat × List UInt8)} (h : All2 (TgR w B) us out) (hr : Rising out) (hv : SlIs w B x.2 v) (hp : p = posOf x.1 us) :
    ((∃ y, us[p]? = some y ∧ y.1 = x.1) → All2 (TgR w B) (us.set p (x.1, v)) (lastU out x)) ∧ ((¬ ∃ y, us[p]? = some y ∧ y.1 = x.1) → All2 (TgR w B) (us.take p ++ (x.1, v) :: us.drop p) (lastU out x)) := by
  have hp2 : p = posOf x.1 out := hp.trans (posOf_two h)
  rw [lastU_at hr]
  constructor
  · rintro ⟨y, hy, hk⟩
    obtain ⟨z, hz, hzy⟩ := h.at1 hy
    rw [if_pos ⟨z, by rw [← hp2]; exact hz, by rw [← hzy.1]; exact hk⟩, ← hp2]
    exact All2.setT (a := (x.1, v)) (b := x) ⟨rfl, hv⟩ p h
  · intro hn
    rw [if_neg, ← hp2]
    · exact (h.take p).app (.cons ⟨rfl, hv⟩ (h.drop p))
    · rintro ⟨y, hy, hk⟩
      rw [← hp2] at hy
      obtain ⟨z, hz, hzy⟩ := h.at2 hy
      exact hn ⟨z, hz, by rw [hzy.1]; exact hk⟩
theorem fold_rising : ∀ (l : List (Nat × List UInt8)) {t : List (Nat × List UInt8)}, Rising t → Rising (l.foldl lastU t)
  | [], _, h => h
  | x :: l, _, h => fold_rising l (lastU_rising h)
theorem lastU_len (t : List (Nat × List UInt8)) (x : Nat × List UInt8) : (lastU t x).length ≤ t.length + 1 := by
  unfold lastU
  split
  · simp
  · rw [insTag_len]; exact Nat.le_refl _
theorem fold_len : ∀ (l t : List (Nat × List UInt8)), (l.foldl lastU t).length ≤ t.length + l.length
  | [], t => by simp
  | x :: l, t => by
    have h1 := fold_len l (lastU t x)
    have h2 := lastU_len t x
    simp only [List.foldl_cons, List.length_cons]
    omega
end Go.Kx
