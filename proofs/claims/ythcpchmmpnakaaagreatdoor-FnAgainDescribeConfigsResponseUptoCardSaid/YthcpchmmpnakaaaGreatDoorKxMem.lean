/- Library texts Dec3 Dec4 Mem, joined. -/
import Derived.Test.YthcpchmmpnakaaaGreatDoorKxDec2
import Derived.Laws.Append
import Derived.Deep.MidRow
/- Lists, tags and whole parts as they are read. -/
namespace Go.Kx
open Go.RowKit
set_option linter.unusedSimpArgs false
set_option linter.unusedVariables false

/-- A reading function of plain octets. -/
abbrev Dc (α : Type) := List UInt8 → Option (α × List UInt8)

def decCnt (fx : Bool) : Dc Int := fun l => if fx then (decUv l).map fun x => (IntKind.i32.wrap (IntKind.i32.wrap (x.1 : Int) - 1), x.2) else decInt .i32 4 l
def decLen (fx : Bool) : Dc Int := fun l => (decCnt fx l).bind fun x => if (x.2.length : Int) < x.1 then none else some x
def decN {α : Type} (f : Dc α) : Nat → Dc (List α)
  | 0, l => some ([], l)
  | n + 1, l => (f l).bind fun x => (decN f n x.2).map fun y => (x.1 :: y.1, y.2)
/-- A list of n things that were read. -/
def arrOf (ver : Int) (nul : Option Int) (n : Int) (vs : List V) : V :=
  if n > 0 then .arr vs else match nul with | none => .arrN | some m => if ver < m ∨ n = 0 then .arr [] else .arrN
def setTag (t : List (Nat × List UInt8)) (k : Nat) (x : List UInt8) : List (Nat × List UInt8) :=
  if t.any (fun e => e.1 == k) then t.map fun e => if e.1 == k then (k, x) else e else t ++ [(k, x)]
def decTagsN : Nat → List (Nat × List UInt8) → Dc (List (Nat × List UInt8))
  | 0, t, l => some (t, l)
  | n + 1, t, l => (decUv l).bind fun k => (decUv k.2).bind fun s => (decSpan (s.1 : Int) s.2).bind fun x => decTagsN n (setTag t k.1 x.1) x.2
def decTags : Dc (List (Nat × List UInt8)) := fun l => (decUv l).bind fun n => decTagsN n.1 [] n.2

def V.put : V → Nat → V → V
  | .st l, k, x => .st (l.set k x)
  | v, _, _ => v

def dec (ver : Int) (fx : Bool) : Sch → V → Dc V
  | .nil, v, l => some (v, l)
  | .val c k w r, v, l => if c.ok ver then (decW fx w l).bind fun x => dec ver fx r (v.put k x.1) x.2 else dec ver fx r v l
  | .arrV c k nul w r, v, l => if c.ok ver then (decLen fx l).bind fun n => (decN (decW fx w) n.1.toNat n.2).bind fun x => dec ver fx r (v.put k (arrOf ver nul n.1 x.1)) x.2 else dec ver fx r v l
  | .arrS c k nul d e r, v, l => if c.ok ver then (decLen fx l).bind fun n => (decN (dec ver fx e d) n.1.toNat n.2).bind fun x => dec ver fx r (v.put k (arrOf ver nul n.1 x.1)) x.2 else dec ver fx r v l
  | .opt c k d e r, v, l => if c.ok ver then (decInt .i8 1 l).bind fun p => if p.1 = -1 then dec ver fx r v p.2 else (dec ver fx e d p.2).bind fun x => dec ver fx r (v.put k (.nst x.1)) x.2 else dec ver fx r v l
  | .tags k r, v, l => if fx then (decTags l).bind fun x => dec ver fx r (v.put k (.tags x.1)) x.2 else dec ver fx r v l

/-! ### More octets behind do no harm -/
theorem decLen_ext {fx : Bool} {l l' : List UInt8} {n : Int} (z : List UInt8) (h : decLen fx l = some (n, l')) : decLen fx (l ++ z) = some (n, l' ++ z) := by
  unfold decLen at h ⊢
  obtain ⟨⟨m, l1⟩, h1, h2⟩ := Option.bind_eq_some_iff.1 h
  simp only at h2
  have h3 : decCnt fx (l ++ z) = some (m, l1 ++ z) := by
    unfold decCnt at h1 ⊢
    cases fx
    · exact decInt_ext z h1
    · exact map_ext (fun _ _ => rfl) (fun a l1 h => decUv_ext z h) h1
  rw [h3]
  split at h2
  · cases h2
  · rename_i hlt
    simp only [Option.some.injEq, Prod.mk.injEq] at h2
    obtain ⟨rfl, rfl⟩ := h2
    simp only [Option.bind_some]
    rw [if_neg (by rw [List.length_append]; omega)]
theorem decN_ext {α : Type} {f : Dc α} (z : List UInt8) (hf : ∀ l x l', f l = some (x, l') → f (l ++ z) = some (x, l' ++ z)) : ∀ (n : Nat) {l l' : List UInt8} {vs : List α}, decN f n l = some (vs, l') → decN f n (l ++ z) = some (vs, l' ++ z)
  | 0, l, l', vs, h => by
    simp only [decN, Option.some.injEq, Prod.mk.injEq] at h ⊢
    exact ⟨h.1, by rw [h.2]⟩
  | n + 1, l, l', vs, h => by
    rw [decN] at h ⊢
    obtain ⟨⟨x, l1⟩, h1, h2⟩ := Option.bind_eq_some_iff.1 h
    obtain ⟨⟨y, l2⟩, h3, h4⟩ := Option.map_eq_some_iff.1 h2
    simp only [Prod.mk.injEq] at h4
    obtain ⟨rfl, rfl⟩ := h4
    rw [hf _ _ _ h1]
    simp only [Option.bind_some]
    rw [decN_ext z hf n h3]
    rfl
theorem decTagsN_ext (z : List UInt8) : ∀ (n : Nat) {t t' : List (Nat × List UInt8)} {l l' : List UInt8}, decTagsN n t l = some (t', l') → decTagsN n t (l ++ z) = some (t', l' ++ z)
  | 0, t, t', l, l', h => by
    simp only [decTagsN, Option.some.injEq, Prod.mk.injEq] at h ⊢
    exact ⟨h.1, by rw [h.2]⟩
  | n + 1, t, t', l, l', h => by
    rw [decTagsN] at h ⊢
    obtain ⟨⟨k, l1⟩, h1, h2⟩ := Option.bind_eq_some_iff.1 h
    obtain ⟨⟨s, l2⟩, h3, h4⟩ := Option.bind_eq_some_iff.1 h2
    obtain ⟨⟨x, l3⟩, h5, h6⟩ := Option.bind_eq_some_iff.1 h4
    rw [decUv_ext z h1]
    simp only [Option.bind_some]
    rw [decUv_ext z h3]
    simp only [Option.bind_some]
    rw [decSpan_ext z h5]
    exact decTagsN_ext z n h6
theorem decTags_ext {t : List (Nat × List UInt8)} {l l' : List UInt8} (z : List UInt8) (h : decTags l = some (t, l')) : decTags (l ++ z) = some (t, l' ++ z) := by
  unfold decTags at h ⊢
  obtain ⟨⟨n, l1⟩, h1, h2⟩ := Option.bind_eq_some_iff.1 h
  rw [decUv_ext z h1]
  exact decTagsN_ext z _ h2

theorem dec_ext {ver : Int} {fx : Bool} (s : Sch) : ∀ {v v' : V} {l l' : List UInt8} (z : List UInt8), dec ver fx s v l = some (v', l') → dec ver fx s v (l ++ z) = some (v', l' ++ z) := by
  induction s with
  | nil => intro v v' l l' z h; simp only [dec, Option.some.injEq, Prod.mk.injEq] at h ⊢; exact ⟨h.1, by rw [h.2]⟩
  | val c k w r ih =>
    intro v v' l l' z h
    simp only [dec] at h ⊢
    split at h
    · rename_i hc
      rw [if_pos hc]
      obtain ⟨⟨x, l1⟩, h1, h2⟩ := Option.bind_eq_some_iff.1 h
      rw [decW_ext z h1]
      exact ih z h2
    · rename_i hc
      rw [if_neg hc]
      exact ih z h
  | arrV c k nul w r ih =>
    intro v v' l l' z h
    simp only [dec] at h ⊢
    split at h
    · rename_i hc
      rw [if_pos hc]
      obtain ⟨⟨n, l1⟩, h1, h2⟩ := Option.bind_eq_some_iff.1 h
      obtain ⟨⟨x, l2⟩, h3, h4⟩ := Option.bind_eq_some_iff.1 h2
      rw [decLen_ext z h1]
      simp only [Option.bind_some]
      rw [decN_ext z (fun l x l' h => decW_ext z h) _ h3]
      exact ih z h4
    · rename_i hc
      rw [if_neg hc]
      exact ih z h
  | arrS c k nul d e r ihe ih =>
    intro v v' l l' z h
    simp only [dec] at h ⊢
    split at h
    · rename_i hc
      rw [if_pos hc]
      obtain ⟨⟨n, l1⟩, h1, h2⟩ := Option.bind_eq_some_iff.1 h
      obtain ⟨⟨x, l2⟩, h3, h4⟩ := Option.bind_eq_some_iff.1 h2
      rw [decLen_ext z h1]
      simp only [Option.bind_some]
      rw [decN_ext z (fun l x l' h => ihe z h) _ h3]
      exact ih z h4
    · rename_i hc
      rw [if_neg hc]
      exact ih z h
  | opt c k d e r ihe ih =>
    intro v v' l l' z h
    simp only [dec] at h ⊢
    split at h
    · rename_i hc
      rw [if_pos hc]
      obtain ⟨⟨n, l1⟩, h1, h2⟩ := Option.bind_eq_some_iff.1 h
      rw [decInt_ext z h1]
      simp only [Option.bind_some] at h2 ⊢
      split at h2
      · rename_i hn
        rw [if_pos hn]
        exact ih z h2
      · rename_i hn
        rw [if_neg hn]
        obtain ⟨⟨x, l2⟩, h3, h4⟩ := Option.bind_eq_some_iff.1 h2
        rw [ihe z h3]
        exact ih z h4
    · rename_i hc
      rw [if_neg hc]
      exact ih z h
  | tags k r ih =>
    intro v v' l l' z h
    simp only [dec] at h ⊢
    split at h
    · rename_i hc
      rw [if_pos hc]
      obtain ⟨⟨x, l1⟩, h1, h2⟩ := Option.bind_eq_some_iff.1 h
      rw [decTags_ext z h1]
      exact ih z h2
    · rename_i hc
      rw [if_neg hc]
      exact ih z h

/-! ### Tags -/
def tagKeys (t : List (Nat × List UInt8)) : List Nat := t.map (·.1)
structure GoodT (t : List (Nat × List UInt8)) : Prop where
  nodup : (tagKeys t).Nodup
  small : ∀ x ∈ t, x.1 < 4294967296 ∧ x.2.length < 4294967296
  many : t.length < 4294967296

theorem insTag_len (x : Nat × List UInt8) : ∀ t : List (Nat × List UInt8), (insTag x t).length = t.length + 1
  | [] => rfl
  | y :: t => by simp only [insTag]; split <;> simp [insTag_len x t]
theorem sortTags_len : ∀ t : List (Nat × List UInt8), (sortTags t).length = t.length
  | [] => rfl
  | x :: t => by rw [sortTags, insTag_len, sortTags_len t]; rfl
theorem insTag_mem {x y : Nat × List UInt8} : ∀ {t : List (Nat × List UInt8)}, y ∈ insTag x t ↔ y = x ∨ y ∈ t
  | [] => by simp [insTag]
  | z :: t => by
    simp only [insTag]
    split
    · simp
    · simp only [List.mem_cons, insTag_mem (t := t)]
      constructor
      · rintro (h | h | h) <;> simp [h]
      · rintro (h | h | h) <;> simp [h]
theorem sortTags_mem {y : Nat × List UInt8} : ∀ {t : List (Nat × List UInt8)}, y ∈ sortTags t ↔ y ∈ t
  | [] => by simp [sortTags]
  | x :: t => by rw [sortTags, insTag_mem, sortTags_mem (t := t)]; simp
/-- By rising numbers. -/
def Rising : List (Nat × List UInt8) → Prop
  | [] => True
  | x :: t => (∀ y ∈ t, x.1 < y.1) ∧ Rising t
theorem insTag_rising {x : Nat × List UInt8} : ∀ {t : List (Nat × List UInt8)}, Rising t → (∀ y ∈ t, x.1 ≠ y.1) → Rising (insTag x t)
  | [], _, _ => ⟨fun _ h => (by cases h), trivial⟩
  | z :: t, h, hn => by
    simp only [insTag]
    split
    · rename_i hlt
      refine ⟨fun y hy => ?_, h⟩
      rcases List.mem_cons.1 hy with rfl | hy
      · exact hlt
      · exact Nat.lt_trans hlt (h.1 y hy)
    · rename_i hlt
      refine ⟨fun y hy => ?_, insTag_rising h.2 fun y hy => hn y (List.mem_cons_of_mem _ hy)⟩
      rcases insTag_mem.1 hy with rfl | hy
      · have := hn z (by simp); omega
      · exact h.1 y hy
theorem sortTags_rising : ∀ {t : List (Nat × List UInt8)}, (tagKeys t).Nodup → Rising (sortTags t)
  | [], _ => trivial
  | x :: t, h => by
    rw [sortTags]
    simp only [tagKeys, List.map_cons, List.nodup_cons, List.mem_map, not_exists, not_and] at h
    exact insTag_rising (sortTags_rising h.2) fun y hy e => h.1 y (sortTags_mem.1 hy) e.symm
theorem insTag_first {x : Nat × List UInt8} {t : List (Nat × List UInt8)} (h : ∀ y ∈ t, x.1 < y.1) : insTag x t = x :: t := by
  cases t with
  | nil => rfl
  | cons y t => simp only [insTag]; rw [if_pos (h y (by simp))]
theorem sortTags_of_rising : ∀ {t : List (Nat × List UInt8)}, Rising t → sortTags t = t
  | [], _ => rfl
  | x :: t, h => by rw [sortTags, sortTags_of_rising h.2, insTag_first h.1]

theorem setTag_new {t : List (Nat × List UInt8)} {k : Nat} {x : List UInt8} (h : ∀ y ∈ t, y.1 ≠ k) : setTag t k x = t ++ [(k, x)] := by
  unfold setTag
  rw [if_neg]
  simp only [List.any_eq_true, beq_iff_eq, not_exists, not_and]
  exact h
/-- Tags that rise are read as they are. -/
theorem decTagsN_enc (z : List UInt8) : ∀ (t acc : List (Nat × List UInt8)), Rising t → (∀ x ∈ acc, ∀ y ∈ t, x.1 < y.1) → (∀ x ∈ t, x.1 < 4294967296 ∧ x.2.length < 4294967296) →
    decTagsN t.length acc (t.flatMap encTag ++ z) = some (acc ++ t, z)
  | [], acc, _, _, _ => by simp [decTagsN]
  | x :: t, acc, h, ha, hs => by
    have hx := hs x (by simp)
    rw [List.length_cons, decTagsN, List.flatMap_cons, encTag, List.append_assoc, List.append_assoc, List.append_assoc, decUv_uvar _ hx.1]
    simp only [Option.bind_some]
    rw [word_eq hx.2, decUv_uvar _ hx.2]
    simp only [Option.bind_some]
    rw [decSpan_app x.2 _ rfl]
    simp only [Option.bind_some]
    rw [setTag_new fun y hy => by have := ha y hy x (by simp); omega, decTagsN_enc z t (acc ++ [(x.1, x.2)]) h.2 ?_ fun y hy => hs y (List.mem_cons_of_mem _ hy)]
    · simp
    · intro a hm y hy
      rcases List.mem_append.1 hm with hm | hm
      · exact ha a hm y (List.mem_cons_of_mem _ hy)
      · simp only [List.mem_singleton] at hm
        subst hm
        exact h.1 y hy
theorem decTags_enc {t : List (Nat × List UInt8)} (h : GoodT t) (z : List UInt8) : decTags (encTags (.tags t) ++ z) = some (sortTags t, z) := by
  unfold decTags encTags encEach
  simp only [V.tagsOf]
  rw [List.append_assoc, word_eq h.many, decUv_uvar _ h.many]
  simp only [Option.bind_some]
  rw [← sortTags_len t]
  have := decTagsN_enc z (sortTags t) [] (sortTags_rising h.nodup) (fun _ h => by cases h) (fun x hx => h.small x (sortTags_mem.1 hx))
  simpa using this
theorem encTags_sort {t : List (Nat × List UInt8)} (h : GoodT t) : encTags (.tags (sortTags t)) = encTags (.tags t) := by
  unfold encTags encEach
  simp only [V.tagsOf]
  rw [sortTags_len, sortTags_of_rising (sortTags_rising h.nodup)]

/-- How many octets the tags' own take. -/
def tagsLen (t : List (Nat × List UInt8)) : Nat := (t.map fun x => (encTag x).length).sum
theorem insTag_sum (x : Nat × List UInt8) : ∀ t : List (Nat × List UInt8), tagsLen (insTag x t) = (encTag x).length + tagsLen t
  | [] => by simp [insTag, tagsLen]
  | y :: t => by
    simp only [insTag]
    split
    · simp [tagsLen]
    · have := insTag_sum x t
      simp only [tagsLen, List.map_cons, List.sum_cons] at this ⊢
      omega
theorem encEach_len : ∀ t : List (Nat × List UInt8), (encEach t).length = tagsLen t := by
  have key : ∀ t : List (Nat × List UInt8), (t.flatMap encTag).length = tagsLen t := by
    intro t
    induction t with
    | nil => rfl
    | cons x t ih => rw [List.flatMap_cons, List.length_append, ih]; simp [tagsLen]
  have hs : ∀ t : List (Nat × List UInt8), tagsLen (sortTags t) = tagsLen t := by
    intro t
    induction t with
    | nil => rfl
    | cons x t ih => rw [sortTags, insTag_sum, ih]; simp [tagsLen]
  intro t
  rw [encEach, key, hs]

theorem tagsLen_app (a b : List (Nat × List UInt8)) : tagsLen (a ++ b) = tagsLen a + tagsLen b := by simp [tagsLen]
theorem map_same {k : Nat} {x : List UInt8} : ∀ {t : List (Nat × List UInt8)}, (∀ e ∈ t, e.1 ≠ k) → (t.map fun e => if e.1 == k then (k, x) else e) = t
  | [], _ => rfl
  | e :: t, h => by
    rw [List.map_cons, if_neg (by have := h e (by simp); simpa using this), map_same fun y hy => h y (List.mem_cons_of_mem _ hy)]
theorem setTag_good {t : List (Nat × List UInt8)} {k : Nat} {x : List UInt8} (hn : (tagKeys t).Nodup) (hs : ∀ e ∈ t, e.1 < 4294967296 ∧ e.2.length < 4294967296) (hk : k < 4294967296) (hx : x.length < 4294967296) :
    (tagKeys (setTag t k x)).Nodup ∧ (∀ e ∈ setTag t k x, e.1 < 4294967296 ∧ e.2.length < 4294967296) ∧ (setTag t k x).length ≤ t.length + 1 ∧ tagsLen (setTag t k x) ≤ tagsLen t + (encTag (k, x)).length := by
  unfold setTag
  split
  · have hkeys : tagKeys (t.map fun e => if e.1 == k then (k, x) else e) = tagKeys t := by
      simp only [tagKeys, List.map_map]
      apply List.map_congr_left
      intro e _
      simp only [Function.comp]
      split
      · rename_i he; exact (beq_iff_eq.1 he).symm
      · rfl
    refine ⟨hkeys ▸ hn, fun e he => ?_, by simp, ?_⟩
    · obtain ⟨e', he', rfl⟩ := List.mem_map.1 he
      split
      · exact ⟨hk, hx⟩
      · exact hs e' he'
    · clear hkeys hs
      rename_i hany
      clear hany
      induction t with
      | nil => simp [tagsLen]
      | cons e t ih =>
        simp only [tagKeys, List.map_cons, List.nodup_cons, List.mem_map, not_exists, not_and] at hn
        by_cases he : e.1 = k
        · rw [List.map_cons, if_pos (by simpa using he), map_same fun y hy hyk => hn.1 y hy (hyk.trans he.symm)]
          simp only [tagsLen, List.map_cons, List.sum_cons]
          omega
        · rw [List.map_cons, if_neg (by simpa using he)]
          have := ih hn.2
          simp only [tagsLen, List.map_cons, List.sum_cons] at this ⊢
          omega
  · rename_i hany
    have hne : ∀ e ∈ t, e.1 ≠ k := by
      simp only [List.any_eq_true, beq_iff_eq, not_exists, not_and] at hany
      exact hany
    refine ⟨?_, fun e he => ?_, by simp, by rw [tagsLen_app]; simp [tagsLen]⟩
    · simp only [tagKeys, List.map_append, List.map_cons, List.map_nil]
      rw [List.nodup_append]
      refine ⟨hn, by simp, fun a ha b hb => ?_⟩
      simp only [List.mem_singleton] at hb
      subst hb
      obtain ⟨e, he, rfl⟩ := List.mem_map.1 ha
      exact hne e he
    · rcases List.mem_append.1 he with he | he
      · exact hs e he
      · simp only [List.mem_singleton] at he
        subst he
        exact ⟨hk, hx⟩

theorem decTagsN_good : ∀ (n : Nat) {t t' : List (Nat × List UInt8)} {l l' : List UInt8}, decTagsN n t l = some (t', l') → l.length < 4294967296 → (tagKeys t).Nodup → (∀ e ∈ t, e.1 < 4294967296 ∧ e.2.length < 4294967296) →
    (tagKeys t').Nodup ∧ (∀ e ∈ t', e.1 < 4294967296 ∧ e.2.length < 4294967296) ∧ t'.length ≤ t.length + n ∧ tagsLen t' + l'.length ≤ tagsLen t + l.length
  | 0, t, t', l, l', h, _, hn, hs => by
    simp only [decTagsN, Option.some.injEq, Prod.mk.injEq] at h
    obtain ⟨rfl, rfl⟩ := h
    exact ⟨hn, hs, by omega, by omega⟩
  | n + 1, t, t', l, l', h, hl, hn, hs => by
    rw [decTagsN] at h
    obtain ⟨⟨k, l1⟩, h1, h2⟩ := Option.bind_eq_some_iff.1 h
    obtain ⟨⟨s, l2⟩, h3, h4⟩ := Option.bind_eq_some_iff.1 h2
    obtain ⟨⟨x, l3⟩, h5, h6⟩ := Option.bind_eq_some_iff.1 h4
    have b1 := decUv_len h1
    have b2 := decUv_len h3
    have b3 := decSpan_len h5
    simp only at b1 b2 b3 h6
    obtain ⟨g1, g2, g3, g4⟩ := setTag_good (k := k) (x := x) hn hs (decUv_lt h1) (by omega)
    obtain ⟨f1, f2, f3, f4⟩ := decTagsN_good n h6 (by omega) g1 g2
    refine ⟨f1, f2, by omega, ?_⟩
    have e1 : (encTag (k, x)).length = (uvar k).length + (uvar s).length + x.length := by
      simp only [encTag, List.length_append]
      rw [word_eq (by omega), show x.length = s by omega]
    omega
theorem decTags_good {t : List (Nat × List UInt8)} {l l' : List UInt8} (h : decTags l = some (t, l')) (hl : l.length < 4294967296) : GoodT t ∧ (encTags (.tags t)).length + l'.length ≤ l.length := by
  unfold decTags at h
  obtain ⟨⟨n, l1⟩, h1, h2⟩ := Option.bind_eq_some_iff.1 h
  have b1 := decUv_len h1
  have b2 := decUv_lt h1
  simp only at b1 b2 h2
  obtain ⟨f1, f2, f3, f4⟩ := decTagsN_good n h2 (by omega) (by simp [tagKeys]) (fun _ h => by cases h)
  simp only [List.length_nil, Nat.zero_add] at f3
  refine ⟨⟨f1, f2, by omega⟩, ?_⟩
  unfold encTags
  simp only [V.tagsOf, List.length_append, encEach_len]
  have : (uvar (word t.length)).length ≤ (uvar n).length := by
    rw [word_eq (by omega), uvar_len (by omega), uvar_len (by omega)]
    unfold uvLen
    repeat' split
    all_goals omega
  have e0 : tagsLen [] = 0 := rfl
  omega
end Go.Kx

/- Whole parts: what was written is read, and written again as the same; what is read can be written. -/
namespace Go.Kx
open Go.RowKit
set_option linter.unusedSimpArgs false
set_option linter.unusedVariables false

def Sch.keys : Sch → List Nat
  | .nil => []
  | .val _ k _ r => k :: r.keys
  | .arrV _ k _ _ r => k :: r.keys
  | .arrS _ k _ _ _ r => k :: r.keys
  | .opt _ k _ _ r => k :: r.keys
  | .tags k r => k :: r.keys

/-- Lists and parts that may be null are not there yet. -/
def freshB : Sch → V → Bool
  | .nil, _ => true
  | .val _ _ _ r, v => freshB r v
  | .arrV _ k _ _ r, v => (match v.fld k with | .arrN => true | _ => false) && freshB r v
  | .arrS _ k _ _ _ r, v => (match v.fld k with | .arrN => true | _ => false) && freshB r v
  | .opt _ k _ _ r, v => (match v.fld k with | .nstN => true | _ => false) && freshB r v
  | .tags _ r, v => freshB r v
def startB (s : Sch) : V → Bool
  | .st l => s.keys.all (fun k => Nat.blt k l.length) && freshB s (.st l)
  | _ => false
/-- Some field is written at this version. -/
def posB (ver : Int) (fx : Bool) : Sch → Bool
  | .nil => false
  | .val c _ _ r => c.ok ver || posB ver fx r
  | .arrV c _ _ _ r => c.ok ver || posB ver fx r
  | .arrS c _ _ _ _ r => c.ok ver || posB ver fx r
  | .opt c _ _ _ r => c.ok ver || posB ver fx r
  | .tags _ r => fx || posB ver fx r
/-- Each field stands once; things of lists take room; new parts are new. -/
def okB (ver : Int) (fx : Bool) : Sch → Bool
  | .nil => true
  | .val _ k _ r => !r.keys.contains k && okB ver fx r
  | .arrV _ k _ _ r => !r.keys.contains k && okB ver fx r
  | .arrS c k _ d e r => !r.keys.contains k && (!c.ok ver || (posB ver fx e && okB ver fx e && startB e d)) && okB ver fx r
  | .opt c k d e r => !r.keys.contains k && (!c.ok ver || (okB ver fx e && startB e d)) && okB ver fx r
  | .tags k r => !r.keys.contains k && okB ver fx r

def GoodL (ver : Int) (nul : Option Int) (v : V) : Prop := v.elems.length < 1073741824 ∧ ∀ m, nul = some m → ver < m → v.isNil = false
/-- What is written is read again. -/
def Good (ver : Int) (fx : Bool) : Sch → V → Prop
  | .nil, _ => True
  | .val c k w r, v => (c.ok ver = true → GoodW fx w (v.fld k)) ∧ Good ver fx r v
  | .arrV c k nul w r, v => (c.ok ver = true → GoodL ver nul (v.fld k) ∧ ∀ x ∈ (v.fld k).elems, GoodW fx w x) ∧ Good ver fx r v
  | .arrS c k nul _ e r, v => (c.ok ver = true → GoodL ver nul (v.fld k) ∧ ∀ x ∈ (v.fld k).elems, Good ver fx e x) ∧ Good ver fx r v
  | .opt c k _ e r, v => (c.ok ver = true → ∀ x, v.fld k = .nst x → Good ver fx e x) ∧ Good ver fx r v
  | .tags k r, v => (fx = true → GoodT (v.fld k).tagsOf) ∧ Good ver fx r v

theorem fld_put {l : List V} {k : Nat} {x : V} (h : k < l.length) : (V.put (.st l) k x).fld k = x := by
  simp [V.put, V.fld, List.getD_eq_getElem?_getD, h]
theorem fld_put_ne {v : V} {k j : Nat} {x : V} (h : j ≠ k) : (V.put v k x).fld j = v.fld j := by
  cases v <;> try rfl
  simp [V.put, V.fld, List.getD_eq_getElem?_getD, List.getElem?_set, Ne.symm h]
theorem freshB_congr {s : Sch} {v v' : V} (h : ∀ k ∈ s.keys, v'.fld k = v.fld k) : freshB s v' = freshB s v := by
  induction s with
  | nil => rfl
  | val c k w r ih => simp only [freshB]; exact ih fun j hj => h j (by simp [Sch.keys, hj])
  | arrV c k nul w r ih => simp only [freshB]; rw [h k (by simp [Sch.keys]), ih fun j hj => h j (by simp [Sch.keys, hj])]
  | arrS c k nul d e r _ ih => simp only [freshB]; rw [h k (by simp [Sch.keys]), ih fun j hj => h j (by simp [Sch.keys, hj])]
  | opt c k d e r _ ih => simp only [freshB]; rw [h k (by simp [Sch.keys]), ih fun j hj => h j (by simp [Sch.keys, hj])]
  | tags k r ih => simp only [freshB]; exact ih fun j hj => h j (by simp [Sch.keys, hj])

theorem startB_fresh {s : Sch} {v : V} (h : startB s v = true) : freshB s v = true := by
  cases v <;> first | (cases h; done) | skip
  simp only [startB, Bool.and_eq_true] at h
  exact h.2
theorem startB_put {r : Sch} {v : V} {k : Nat} {x : V} (hr : r.keys.contains k = false) (h : startB r v = true) : startB r (v.put k x) = true := by
  cases v <;> first | (cases h; done) | skip
  rename_i l
  have h2 := startB_fresh h
  simp only [startB, Bool.and_eq_true] at h
  show (r.keys.all (fun j => Nat.blt j (l.set k x).length) && freshB r (V.put (.st l) k x)) = true
  rw [List.length_set, h.1, freshB_congr (v := .st l) fun j hj => fld_put_ne fun e => ?_, h2]
  · rfl
  · subst e
    rw [List.contains_eq_mem, decide_eq_false_iff_not] at hr
    exact hr hj
theorem startB_tail {s r : Sch} {k : Nat} {v : V} (hk : s.keys = k :: r.keys) (hf : freshB s v = true → freshB r v = true) (h : startB s v = true) : startB r v = true ∧ ∃ l, v = .st l ∧ k < l.length := by
  cases v <;> first | (cases h; done) | skip
  rename_i l
  simp only [startB, Bool.and_eq_true] at h
  rw [hk, List.all_cons, Bool.and_eq_true] at h
  refine ⟨?_, l, rfl, by simpa using h.1.1⟩
  simp only [startB, Bool.and_eq_true]
  exact ⟨h.1.2, hf h.2⟩

/-! ### Lists -/
theorem decN_enc {f : Dc V} {g : V → List UInt8} (z : List UInt8) : ∀ (vs : List V), (∀ x ∈ vs, ∀ z, ∃ x', f (g x ++ z) = some (x', z) ∧ g x' = g x) →
    ∃ vs', decN f vs.length (vs.flatMap g ++ z) = some (vs', z) ∧ vs'.flatMap g = vs.flatMap g ∧ vs'.length = vs.length
  | [], _ => ⟨[], rfl, rfl, rfl⟩
  | x :: vs, h => by
    obtain ⟨x', h1, h2⟩ := h x (by simp) (vs.flatMap g ++ z)
    obtain ⟨vs', h3, h4, h5⟩ := decN_enc z vs fun y hy => h y (List.mem_cons_of_mem _ hy)
    refine ⟨x' :: vs', ?_, by rw [List.flatMap_cons, List.flatMap_cons, h2, h4], by simp [h5]⟩
    rw [List.length_cons, decN, List.flatMap_cons, List.append_assoc, h1]
    simp only [Option.bind_some]
    rw [h3]
    rfl
theorem flatMap_len {g : V → List UInt8} : ∀ {vs : List V}, (∀ x ∈ vs, 1 ≤ (g x).length) → vs.length ≤ (vs.flatMap g).length
  | [], _ => by simp
  | x :: vs, h => by
    have h1 := h x (by simp)
    have h2 := flatMap_len fun y hy => h y (List.mem_cons_of_mem _ hy)
    rw [List.flatMap_cons, List.length_append, List.length_cons]
    omega

def cntOf (nul : Bool) (v : V) : Int := if nul && v.isNil then -1 else v.elems.length
theorem decCnt_enc {fx nul : Bool} {v : V} (h : v.elems.length < 1073741824) (z : List UInt8) : decCnt fx (encLen fx nul v ++ z) = some (cntOf nul v, z) := by
  unfold decCnt encLen cntOf
  cases fx
  · simp only [Bool.false_eq_true, if_false]
    split
    · exact decInt_be .i32 4 rfl _ (by decide) z
    · exact decInt_be .i32 4 rfl _ (i32_len (by omega)) z
  · simp only [if_true]
    split
    · rw [decUv_uvar 0 (by decide)]
      rfl
    · rw [word_eq (by omega), decUv_uvar _ (by omega)]
      simp only [Option.map_some, Option.some.injEq, Prod.mk.injEq, and_true]
      rw [i32_len (by omega), IntKind.wrap_i32]
      omega
theorem encLen_congr {fx nul : Bool} {v v' : V} (h : v'.elems.length = v.elems.length) (hn : nul = true → v'.isNil = v.isNil) : encLen fx nul v' = encLen fx nul v := by
  unfold encLen
  rw [h]
  cases nul
  · rfl
  · rw [hn rfl]
theorem isNil_elems {v : V} (h : v.isNil = true) : v.elems = [] := by cases v <;> first | rfl | cases h
/-- A list that was written is read. -/
theorem decArr_enc {ver : Int} {fx : Bool} {nul : Option Int} {f : Dc V} {g : V → List UInt8} {v : V} (hv : GoodL ver nul v) (hf : ∀ x ∈ v.elems, ∀ z, ∃ x', f (g x ++ z) = some (x', z) ∧ g x' = g x) (hp : ∀ x ∈ v.elems, 1 ≤ (g x).length) (z : List UInt8) :
    ∃ v', ((decLen fx (encLen fx nul.isSome v ++ (v.elems.flatMap g ++ z))).bind fun n => (decN f n.1.toNat n.2).map fun x => (arrOf ver nul n.1 x.1, x.2)) = some (v', z) ∧ encLen fx nul.isSome v' ++ v'.elems.flatMap g = encLen fx nul.isSome v ++ v.elems.flatMap g := by
  unfold decLen
  rw [decCnt_enc hv.1]
  have hlen := flatMap_len hp
  simp only [Option.bind_some]
  by_cases hn : (nul.isSome && v.isNil) = true
  · have hnil : v.isNil = true := by simp only [Bool.and_eq_true] at hn; exact hn.2
    have hc : cntOf nul.isSome v = -1 := by unfold cntOf; rw [if_pos hn]
    rw [hc, if_neg (by omega)]
    simp only [Option.bind_some, isNil_elems hnil, List.flatMap_nil, List.nil_append, List.append_nil]
    refine ⟨arrOf ver nul (-1) [], rfl, ?_⟩
    obtain ⟨m, rfl⟩ : ∃ m, nul = some m := by cases nul with | none => simp at hn | some m => exact ⟨m, rfl⟩
    have hge : ¬ ver < m := fun h => by have := hv.2 m rfl h; rw [hnil] at this; cases this
    have ha : arrOf ver (some m) (-1) [] = .arrN := by simp [arrOf, hge]
    rw [ha]
    unfold encLen
    rw [hnil]
    simp [V.isNil, V.elems]
  · have hc : cntOf nul.isSome v = v.elems.length := by unfold cntOf; rw [if_neg hn]
    rw [hc, if_neg (by rw [List.length_append]; omega)]
    simp only [Option.bind_some, Int.toNat_natCast]
    obtain ⟨vs', h1, h2, h3⟩ := decN_enc z v.elems hf
    rw [h1]
    refine ⟨_, rfl, ?_⟩
    by_cases h0 : v.elems.length = 0
    · have hv0 : v.elems = [] := List.eq_nil_of_length_eq_zero h0
      simp only [hv0, List.flatMap_nil, List.append_nil, List.length_nil, Int.natCast_zero] at h2 ⊢
      cases nul with
      | none =>
        have ha : arrOf ver none 0 vs' = .arrN := rfl
        rw [ha]
        simp only [V.elems, List.flatMap_nil, List.append_nil]
        exact encLen_congr (by rw [hv0]; rfl) (fun h => by cases h)
      | some m =>
        have hnn : v.isNil = false := by simpa using hn
        have ha : arrOf ver (some m) 0 vs' = .arr [] := by simp [arrOf]
        rw [ha]
        simp only [V.elems, List.flatMap_nil, List.append_nil]
        exact encLen_congr (by rw [hv0]; rfl) (fun _ => by rw [hnn]; rfl)
    · have ha : arrOf ver nul (v.elems.length : Int) vs' = .arr vs' := by unfold arrOf; rw [if_pos (by omega)]
      rw [ha]
      have e1 : (V.arr vs').elems = vs' := rfl
      rw [e1, h2]
      congr 1
      refine encLen_congr (by rw [e1, h3]) fun hnul => ?_
      rw [hnul, Bool.true_and] at hn
      show false = v.isNil
      cases h : v.isNil
      · rfl
      · exact absurd h hn

theorem decLen_len {fx : Bool} {l l' : List UInt8} {n : Int} (h : decLen fx l = some (n, l')) : n ≤ l'.length ∧ l'.length ≤ l.length ∧ (fx = true → (uvar (n + 1).toNat).length + l'.length ≤ l.length) ∧ (fx = false → 4 + l'.length = l.length) := by
  unfold decLen at h
  obtain ⟨⟨m, l1⟩, h1, h2⟩ := Option.bind_eq_some_iff.1 h
  simp only at h2
  split at h2
  · cases h2
  · rename_i hlt
    simp only [Option.some.injEq, Prod.mk.injEq] at h2
    obtain ⟨rfl, rfl⟩ := h2
    unfold decCnt at h1
    cases fx
    · have := decInt_len h1
      exact ⟨by omega, by omega, (fun h => by cases h), fun _ => this⟩
    · obtain ⟨⟨k, l2⟩, h3, h4⟩ := Option.map_eq_some_iff.1 h1
      simp only [Prod.mk.injEq] at h4
      obtain ⟨rfl, rfl⟩ := h4
      have h5 := decUv_len h3
      have h6 := decUv_lt h3
      refine ⟨by omega, by omega, fun _ => ?_, fun h => by cases h⟩
      have h7 : (uvar (IntKind.i32.wrap (IntKind.i32.wrap (k : Int) - 1) + 1).toNat).length ≤ (uvar k).length := by
        rw [IntKind.wrap_i32, IntKind.wrap_i32]
        by_cases hk : k < 2147483648
        · rw [show (((k : Int) + 2147483648) % 4294967296 - 2147483648 - 1 + 2147483648) % 4294967296 - 2147483648 + 1 = k by omega, Int.toNat_natCast]; exact Nat.le_refl _
        · by_cases hk2 : k = 2147483648
          · subst hk2
            decide +kernel
          · rw [show ((((k : Int) + 2147483648) % 4294967296 - 2147483648 - 1 + 2147483648) % 4294967296 - 2147483648 + 1).toNat = 0 by omega, uvar_small (by omega)]
            exact uvar_pos k
      omega

theorem decN_good {f : Dc V} {g : V → List UInt8} {G : V → Prop} (M : Nat) (hf : ∀ l x l', l.length < M → f l = some (x, l') → G x ∧ (g x).length + l'.length ≤ l.length) : ∀ (n : Nat) {l l' : List UInt8} {vs : List V}, l.length < M → decN f n l = some (vs, l') →
    (∀ x ∈ vs, G x) ∧ (vs.flatMap g).length + l'.length ≤ l.length ∧ vs.length = n
  | 0, l, l', vs, _, h => by
    simp only [decN, Option.some.injEq, Prod.mk.injEq] at h
    obtain ⟨rfl, rfl⟩ := h
    exact ⟨(fun _ h => by cases h), by simp, rfl⟩
  | n + 1, l, l', vs, hM, h => by
    rw [decN] at h
    obtain ⟨⟨x, l1⟩, h1, h2⟩ := Option.bind_eq_some_iff.1 h
    obtain ⟨⟨y, l2⟩, h3, h4⟩ := Option.map_eq_some_iff.1 h2
    simp only [Prod.mk.injEq] at h4
    obtain ⟨rfl, rfl⟩ := h4
    obtain ⟨g1, g2⟩ := hf _ _ _ hM h1
    obtain ⟨g3, g4, g5⟩ := decN_good M hf n (by simp only at h3 ⊢; omega) h3
    refine ⟨fun z hz => ?_, by rw [List.flatMap_cons, List.length_append]; simp only at g4; omega, by simp [g5]⟩
    rcases List.mem_cons.1 hz with rfl | hz
    · exact g1
    · exact g3 z hz

theorem decArr_good {ver : Int} {fx : Bool} {nul : Option Int} {f : Dc V} {g : V → List UInt8} {G : V → Prop} {n : Int} {l l1 l' : List UInt8} {vs : List V} (hM : l.length < 1073741824)
    (hf : ∀ l x l', l.length < 1073741824 → f l = some (x, l') → G x ∧ (g x).length + l'.length ≤ l.length) (h1 : decLen fx l = some (n, l1)) (h2 : decN f n.toNat l1 = some (vs, l')) :
    GoodL ver nul (arrOf ver nul n vs) ∧ (∀ x ∈ (arrOf ver nul n vs).elems, G x) ∧ (encLen fx nul.isSome (arrOf ver nul n vs)).length + ((arrOf ver nul n vs).elems.flatMap g).length + l'.length ≤ l.length := by
  obtain ⟨a1, a2, a3, a4⟩ := decLen_len h1
  obtain ⟨g1, g2, g3⟩ := decN_good (g := g) (G := G) 1073741824 hf n.toNat (by omega) h2
  by_cases hn : n > 0
  · have ha : arrOf ver nul n vs = .arr vs := by unfold arrOf; rw [if_pos hn]
    rw [ha]
    refine ⟨⟨show vs.length < 1073741824 by omega, fun m _ _ => rfl⟩, g1, ?_⟩
    show (encLen fx nul.isSome (.arr vs)).length + (vs.flatMap g).length + l'.length ≤ l.length
    unfold encLen
    simp only [V.isNil, Bool.and_false, Bool.false_eq_true, if_false, V.elems]
    cases fx
    · have := a4 rfl
      simp only [Bool.false_eq_true, if_false, be_length]; omega
    · have := a3 rfl
      simp only [if_true]
      rw [word_eq (by omega), show vs.length + 1 = (n + 1).toNat by omega]; omega
  · have hel : (arrOf ver nul n vs).elems = [] := by
      unfold arrOf
      rw [if_neg hn]
      split
      · rfl
      · split <;> rfl
    rw [hel]
    refine ⟨⟨by rw [hel]; decide, fun m hm hlt => ?_⟩, (fun _ h => by cases h), ?_⟩
    · subst hm
      unfold arrOf
      rw [if_neg hn]
      simp only
      rw [if_pos (.inl hlt)]
      rfl
    · have hl : (encLen fx nul.isSome (arrOf ver nul n vs)).length ≤ if fx then 1 else 4 := by
        unfold encLen
        rw [hel]
        cases fx
        · simp only [Bool.false_eq_true, if_false]
          split <;> simp [be_length]
        · simp only [if_true]
          split <;> simp [uvar_small, word]
      simp only [List.flatMap_nil, List.length_nil]
      cases fx
      · have := a4 rfl
        simp only [Bool.false_eq_true, if_false] at hl; omega
      · have := a3 rfl
        have := uvar_pos (n + 1).toNat
        simp only [if_true] at hl; omega

theorem enc_pos {ver : Int} {fx : Bool} : ∀ {s : Sch} {v : V}, posB ver fx s = true → Good ver fx s v → 1 ≤ (enc ver fx s v).length := by
  have hl : ∀ nul v, 1 ≤ (encLen fx nul v).length := by
    intro nul v
    unfold encLen
    cases fx <;> simp only [Bool.false_eq_true, if_false, if_true]
    · split <;> simp [be_length]
    · split <;> exact uvar_pos _
  intro s
  induction s with
  | nil => intro v h; cases h
  | val c k w r ih =>
    intro v h hg
    simp only [enc, List.length_append]
    by_cases hc : c.ok ver = true
    · rw [if_pos hc]
      have := encW_pos (hg.1 hc)
      omega
    · simp only [posB, Bool.or_eq_true] at h
      have := ih (h.resolve_left hc) hg.2
      omega
  | arrV c k nul w r ih =>
    intro v h hg
    simp only [enc, List.length_append]
    by_cases hc : c.ok ver = true
    · rw [if_pos hc, List.length_append]
      have := hl nul.isSome (v.fld k)
      omega
    · simp only [posB, Bool.or_eq_true] at h
      have := ih (h.resolve_left hc) hg.2
      omega
  | arrS c k nul d e r _ ih =>
    intro v h hg
    simp only [enc, List.length_append]
    by_cases hc : c.ok ver = true
    · rw [if_pos hc, List.length_append]
      have := hl nul.isSome (v.fld k)
      omega
    · simp only [posB, Bool.or_eq_true] at h
      have := ih (h.resolve_left hc) hg.2
      omega
  | opt c k d e r _ ih =>
    intro v h hg
    simp only [enc, List.length_append]
    by_cases hc : c.ok ver = true
    · rw [if_pos hc]
      split <;> simp <;> omega
    · simp only [posB, Bool.or_eq_true] at h
      have := ih (h.resolve_left hc) hg.2
      omega
  | tags k r ih =>
    intro v h hg
    simp only [enc, List.length_append]
    by_cases hc : fx = true
    · rw [if_pos hc]
      unfold encTags
      rw [List.length_append]
      have := uvar_pos (word (v.fld k).tagsOf.length)
      omega
    · simp only [posB, Bool.or_eq_true] at h
      have := ih (h.resolve_left hc) hg.2
      omega

theorem enc_opt_else {ver : Int} {fx : Bool} {c : Vc} {k : Nat} {d : V} {e r : Sch} {v : V} (hc : c.ok ver = true) (hx : ¬ ∃ x, v.fld k = .nst x) : enc ver fx (.opt c k d e r) v = [255] ++ enc ver fx r v := by
  simp only [enc, if_pos hc]
  congr 1
  generalize v.fld k = y at hx ⊢
  cases y <;> first | rfl | exact absurd ⟨_, rfl⟩ hx
theorem notin {k : Nat} {l : List Nat} (h : (!l.contains k) = true) : l.contains k = false ∧ ∀ j ∈ l, j ≠ k := by
  rw [Bool.not_eq_true'] at h
  refine ⟨h, fun j hj e => ?_⟩
  subst e
  rw [List.contains_eq_mem, decide_eq_false_iff_not] at h
  exact h hj

set_option maxHeartbeats 2000000 in
/-- What was written is read; what is read is written as the same. -/
theorem dec_enc {ver : Int} {fx : Bool} (s : Sch) : ∀ {v0 v : V} (z : List UInt8), okB ver fx s = true → startB s v0 = true → Good ver fx s v →
    ∃ v', dec ver fx s v0 (enc ver fx s v ++ z) = some (v', z) ∧ enc ver fx s v' = enc ver fx s v ∧ ∀ k, k ∉ s.keys → v'.fld k = v0.fld k := by
  induction s with
  | nil => intro v0 v z _ _ _; exact ⟨v0, rfl, rfl, fun _ _ => rfl⟩
  | val c k w r ih =>
    intro v0 v z hok hs hg
    simp only [okB, Bool.and_eq_true] at hok
    obtain ⟨hk, hok⟩ := hok
    obtain ⟨hk1, hk2⟩ := notin hk
    obtain ⟨hs1, l, rfl, hkl⟩ := startB_tail (s := (.val c k w r)) (r := r) (k := k) rfl (fun h => h) hs
    simp only [dec, enc]
    by_cases hc : c.ok ver = true
    · simp only [if_pos hc]
      rw [List.append_assoc, decW_encW (hg.1 hc)]
      simp only [Option.bind_some]
      obtain ⟨v', h1, h2, h3⟩ := ih z hok (startB_put (x := v.fld k) hk1 hs1) hg.2
      refine ⟨v', h1, ?_, fun j hj => ?_⟩
      · rw [h2, h3 k (fun h => hk2 k h rfl), fld_put hkl]
      · simp only [Sch.keys, List.mem_cons, not_or] at hj
        rw [h3 j hj.2, fld_put_ne hj.1]
    · simp only [if_neg hc, List.nil_append]
      obtain ⟨v', h1, h2, h3⟩ := ih z hok hs1 hg.2
      exact ⟨v', h1, h2, fun j hj => h3 j fun h => hj (List.mem_cons_of_mem _ h)⟩
  | arrV c k nul w r ih =>
    intro v0 v z hok hs hg
    simp only [okB, Bool.and_eq_true] at hok
    obtain ⟨hk, hok⟩ := hok
    obtain ⟨hk1, hk2⟩ := notin hk
    obtain ⟨hs1, l, rfl, hkl⟩ := startB_tail (s := (.arrV c k nul w r)) (r := r) (k := k) rfl (fun h => by simp only [freshB, Bool.and_eq_true] at h; exact h.2) hs
    simp only [dec, enc]
    by_cases hc : c.ok ver = true
    · simp only [if_pos hc]
      obtain ⟨hgl, hge⟩ := hg.1 hc
      obtain ⟨a, h1, h2⟩ := decArr_enc (fx := fx) (f := decW fx w) (g := encW fx w) hgl (fun x hx z => ⟨x, decW_encW (hge x hx) z, rfl⟩) (fun x hx => encW_pos (hge x hx)) (enc ver fx r v ++ z)
      obtain ⟨⟨n, l1⟩, e1, e2⟩ := Option.bind_eq_some_iff.1 h1
      obtain ⟨⟨vs, l2⟩, e3, e4⟩ := Option.map_eq_some_iff.1 e2
      simp only [Prod.mk.injEq] at e4
      obtain ⟨rfl, rfl⟩ := e4
      rw [List.append_assoc, List.append_assoc, e1]
      simp only [Option.bind_some]
      simp only at e3
      rw [e3]
      simp only [Option.bind_some]
      obtain ⟨v', g1, g2, g3⟩ := ih z hok (startB_put (x := arrOf ver nul n vs) hk1 hs1) hg.2
      refine ⟨v', g1, ?_, fun j hj => ?_⟩
      · rw [g2, g3 k (fun h => hk2 k h rfl), fld_put hkl, h2]
      · simp only [Sch.keys, List.mem_cons, not_or] at hj
        rw [g3 j hj.2, fld_put_ne hj.1]
    · simp only [if_neg hc, List.nil_append]
      obtain ⟨v', h1, h2, h3⟩ := ih z hok hs1 hg.2
      exact ⟨v', h1, h2, fun j hj => h3 j fun h => hj (List.mem_cons_of_mem _ h)⟩
  | arrS c k nul d e r ihe ih =>
    intro v0 v z hok hs hg
    simp only [okB, Bool.and_eq_true] at hok
    obtain ⟨⟨hk, hoke⟩, hok⟩ := hok
    obtain ⟨hk1, hk2⟩ := notin hk
    obtain ⟨hs1, l, rfl, hkl⟩ := startB_tail (s := (.arrS c k nul d e r)) (r := r) (k := k) rfl (fun h => by simp only [freshB, Bool.and_eq_true] at h; exact h.2) hs
    simp only [dec, enc]
    by_cases hc : c.ok ver = true
    · simp only [if_pos hc]
      obtain ⟨hgl, hge⟩ := hg.1 hc
      rw [hc] at hoke
      simp only [Bool.not_true, Bool.false_or, Bool.and_eq_true] at hoke
      obtain ⟨⟨hpos, hoe⟩, hst⟩ := hoke
      obtain ⟨a, h1, h2⟩ := decArr_enc (fx := fx) (f := dec ver fx e d) (g := enc ver fx e) hgl (fun x hx z => by obtain ⟨x', q1, q2, _⟩ := ihe z hoe hst (hge x hx); exact ⟨x', q1, q2⟩) (fun x hx => enc_pos hpos (hge x hx)) (enc ver fx r v ++ z)
      obtain ⟨⟨n, l1⟩, e1, e2⟩ := Option.bind_eq_some_iff.1 h1
      obtain ⟨⟨vs, l2⟩, e3, e4⟩ := Option.map_eq_some_iff.1 e2
      simp only [Prod.mk.injEq] at e4
      obtain ⟨rfl, rfl⟩ := e4
      rw [List.append_assoc, List.append_assoc, e1]
      simp only [Option.bind_some]
      simp only at e3
      rw [e3]
      simp only [Option.bind_some]
      obtain ⟨v', g1, g2, g3⟩ := ih z hok (startB_put (x := arrOf ver nul n vs) hk1 hs1) hg.2
      refine ⟨v', g1, ?_, fun j hj => ?_⟩
      · rw [g2, g3 k (fun h => hk2 k h rfl), fld_put hkl, h2]
      · simp only [Sch.keys, List.mem_cons, not_or] at hj
        rw [g3 j hj.2, fld_put_ne hj.1]
    · simp only [if_neg hc, List.nil_append]
      obtain ⟨v', h1, h2, h3⟩ := ih z hok hs1 hg.2
      exact ⟨v', h1, h2, fun j hj => h3 j fun h => hj (List.mem_cons_of_mem _ h)⟩
  | opt c k d e r ihe ih =>
    intro v0 v z hok hs hg
    simp only [okB, Bool.and_eq_true] at hok
    obtain ⟨⟨hk, hoke⟩, hok⟩ := hok
    obtain ⟨hk1, hk2⟩ := notin hk
    have hfr := startB_fresh hs
    obtain ⟨hs1, l, rfl, hkl⟩ := startB_tail (s := (.opt c k d e r)) (r := r) (k := k) rfl (fun h => by simp only [freshB, Bool.and_eq_true] at h; exact h.2) hs
    simp only [dec, enc]
    by_cases hc : c.ok ver = true
    · simp only [if_pos hc]
      have hge := hg.1 hc
      rw [hc] at hoke
      simp only [Bool.not_true, Bool.false_or, Bool.and_eq_true] at hoke
      obtain ⟨hoe, hst⟩ := hoke
      by_cases hx : ∃ x, v.fld k = .nst x
      · obtain ⟨x, hx⟩ := hx
        simp only [hx]
        obtain ⟨x', q1, q2, _⟩ := ihe (enc ver fx r v ++ z) hoe hst (hge x hx)
        have e1 : decInt .i8 1 ((1 :: enc ver fx e x) ++ enc ver fx r v ++ z) = some (1, enc ver fx e x ++ (enc ver fx r v ++ z)) := by
          rw [List.append_assoc]; exact decInt_be .i8 1 rfl 1 (by decide) _
        rw [e1]
        simp only [Option.bind_some]
        rw [if_neg (by decide), q1]
        simp only [Option.bind_some]
        obtain ⟨v', g1, g2, g3⟩ := ih z hok (startB_put (x := .nst x') hk1 hs1) hg.2
        refine ⟨v', g1, ?_, fun j hj => ?_⟩
        · rw [g2, g3 k (fun h => hk2 k h rfl), fld_put hkl]
          simp only [q2]
        · simp only [Sch.keys, List.mem_cons, not_or] at hj
          rw [g3 j hj.2, fld_put_ne hj.1]
      · have e0 := enc_opt_else (ver := ver) (fx := fx) (d := d) (e := e) (r := r) hc hx
        simp only [enc, if_pos hc] at e0
        rw [e0]
        have e1 : decInt .i8 1 ([255] ++ enc ver fx r v ++ z) = some (-1, enc ver fx r v ++ z) := by
          rw [List.append_assoc]; exact decInt_be .i8 1 rfl (-1) (by decide) _
        rw [e1]
        simp only [Option.bind_some, if_true]
        obtain ⟨v', g1, g2, g3⟩ := ih z hok hs1 hg.2
        refine ⟨v', g1, ?_, fun j hj => g3 j fun h => hj (List.mem_cons_of_mem _ h)⟩
        rw [g2, g3 k (fun h => hk2 k h rfl)]
        simp only [freshB, Bool.and_eq_true] at hfr
        have hn := hfr.1
        split at hn
        · rename_i he; rw [he]
        · cases hn
    · simp only [if_neg hc, List.nil_append]
      obtain ⟨v', h1, h2, h3⟩ := ih z hok hs1 hg.2
      exact ⟨v', h1, h2, fun j hj => h3 j fun h => hj (List.mem_cons_of_mem _ h)⟩
  | tags k r ih =>
    intro v0 v z hok hs hg
    simp only [okB, Bool.and_eq_true] at hok
    obtain ⟨hk, hok⟩ := hok
    obtain ⟨hk1, hk2⟩ := notin hk
    obtain ⟨hs1, l, rfl, hkl⟩ := startB_tail (s := (.tags k r)) (r := r) (k := k) rfl (fun h => h) hs
    simp only [dec, enc]
    by_cases hc : fx = true
    · simp only [if_pos hc]
      have hgt := hg.1 hc
      have e1 : encTags (v.fld k) = encTags (.tags (v.fld k).tagsOf) := rfl
      rw [List.append_assoc, e1, decTags_enc hgt]
      simp only [Option.bind_some]
      obtain ⟨v', h1, h2, h3⟩ := ih z hok (startB_put (x := .tags (sortTags (v.fld k).tagsOf)) hk1 hs1) hg.2
      refine ⟨v', h1, ?_, fun j hj => ?_⟩
      · rw [h2, h3 k (fun h => hk2 k h rfl), fld_put hkl, encTags_sort hgt]
      · simp only [Sch.keys, List.mem_cons, not_or] at hj
        rw [h3 j hj.2, fld_put_ne hj.1]
    · simp only [if_neg hc, List.nil_append]
      obtain ⟨v', h1, h2, h3⟩ := ih z hok hs1 hg.2
      exact ⟨v', h1, h2, fun j hj => h3 j fun h => hj (List.mem_cons_of_mem _ h)⟩

set_option maxHeartbeats 2000000 in
/-- What is read can be written: in no more octets. -/
theorem dec_good {ver : Int} {fx : Bool} (s : Sch) : ∀ {v0 v : V} {l l' : List UInt8}, okB ver fx s = true → startB s v0 = true → l.length < 1073741824 → dec ver fx s v0 l = some (v, l') →
    Good ver fx s v ∧ (enc ver fx s v).length + l'.length ≤ l.length ∧ ∀ k, k ∉ s.keys → v.fld k = v0.fld k := by
  induction s with
  | nil =>
    intro v0 v l l' _ _ _ h
    simp only [dec, Option.some.injEq, Prod.mk.injEq] at h
    obtain ⟨rfl, rfl⟩ := h
    exact ⟨trivial, by simp [enc], fun _ _ => rfl⟩
  | val c k w r ih =>
    intro v0 v l l' hok hs hl h
    simp only [okB, Bool.and_eq_true] at hok
    obtain ⟨hk, hok⟩ := hok
    obtain ⟨hk1, hk2⟩ := notin hk
    obtain ⟨hs1, st, rfl, hkl⟩ := startB_tail (s := (.val c k w r)) (r := r) (k := k) rfl (fun h => h) hs
    simp only [dec, enc, Good] at h ⊢
    by_cases hc : c.ok ver = true
    · rw [if_pos hc] at h ⊢
      obtain ⟨⟨x, l1⟩, h1, h2⟩ := Option.bind_eq_some_iff.1 h
      obtain ⟨g1, g2⟩ := decW_good h1
      simp only at h2
      obtain ⟨f1, f2, f3⟩ := ih hok (startB_put (x := x) hk1 hs1) (by omega) h2
      have hx : v.fld k = x := by rw [f3 k (fun h => hk2 k h rfl), fld_put hkl]
      rw [hx, List.length_append]
      refine ⟨⟨fun _ => g1, f1⟩, by omega, fun j hj => ?_⟩
      simp only [Sch.keys, List.mem_cons, not_or] at hj
      rw [f3 j hj.2, fld_put_ne hj.1]
    · rw [if_neg hc] at h ⊢
      obtain ⟨f1, f2, f3⟩ := ih hok hs1 hl h
      exact ⟨⟨fun h => absurd h hc, f1⟩, by simpa using f2, fun j hj => f3 j fun h => hj (List.mem_cons_of_mem _ h)⟩
  | arrV c k nul w r ih =>
    intro v0 v l l' hok hs hl h
    simp only [okB, Bool.and_eq_true] at hok
    obtain ⟨hk, hok⟩ := hok
    obtain ⟨hk1, hk2⟩ := notin hk
    obtain ⟨hs1, st, rfl, hkl⟩ := startB_tail (s := (.arrV c k nul w r)) (r := r) (k := k) rfl (fun h => by simp only [freshB, Bool.and_eq_true] at h; exact h.2) hs
    simp only [dec, enc, Good] at h ⊢
    by_cases hc : c.ok ver = true
    · rw [if_pos hc] at h ⊢
      obtain ⟨⟨n, l1⟩, h1, h2⟩ := Option.bind_eq_some_iff.1 h
      obtain ⟨⟨vs, l2⟩, h3, h4⟩ := Option.bind_eq_some_iff.1 h2
      simp only at h3 h4
      obtain ⟨g1, g2, g3⟩ := decArr_good (ver := ver) (nul := nul) (g := encW fx w) (G := GoodW fx w) hl (fun l x l' _ h => decW_good h) h1 h3
      obtain ⟨f1, f2, f3⟩ := ih hok (startB_put (x := arrOf ver nul n vs) hk1 hs1) (by omega) h4
      have hx : v.fld k = arrOf ver nul n vs := by rw [f3 k (fun h => hk2 k h rfl), fld_put hkl]
      rw [hx, List.length_append, List.length_append]
      refine ⟨⟨fun _ => ⟨g1, g2⟩, f1⟩, by omega, fun j hj => ?_⟩
      simp only [Sch.keys, List.mem_cons, not_or] at hj
      rw [f3 j hj.2, fld_put_ne hj.1]
    · rw [if_neg hc] at h ⊢
      obtain ⟨f1, f2, f3⟩ := ih hok hs1 hl h
      exact ⟨⟨fun h => absurd h hc, f1⟩, by simpa using f2, fun j hj => f3 j fun h => hj (List.mem_cons_of_mem _ h)⟩
  | arrS c k nul d e r ihe ih =>
    intro v0 v l l' hok hs hl h
    simp only [okB, Bool.and_eq_true] at hok
    obtain ⟨⟨hk, hoke⟩, hok⟩ := hok
    obtain ⟨hk1, hk2⟩ := notin hk
    obtain ⟨hs1, st, rfl, hkl⟩ := startB_tail (s := (.arrS c k nul d e r)) (r := r) (k := k) rfl (fun h => by simp only [freshB, Bool.and_eq_true] at h; exact h.2) hs
    simp only [dec, enc, Good] at h ⊢
    by_cases hc : c.ok ver = true
    · rw [if_pos hc] at h ⊢
      rw [hc] at hoke
      simp only [Bool.not_true, Bool.false_or, Bool.and_eq_true] at hoke
      obtain ⟨⟨hpos, hoe⟩, hst⟩ := hoke
      obtain ⟨⟨n, l1⟩, h1, h2⟩ := Option.bind_eq_some_iff.1 h
      obtain ⟨⟨vs, l2⟩, h3, h4⟩ := Option.bind_eq_some_iff.1 h2
      simp only at h3 h4
      obtain ⟨g1, g2, g3⟩ := decArr_good (ver := ver) (nul := nul) (g := enc ver fx e) (G := Good ver fx e) hl (fun l x l' hl h => by obtain ⟨q1, q2, _⟩ := ihe hoe hst hl h; exact ⟨q1, q2⟩) h1 h3
      obtain ⟨f1, f2, f3⟩ := ih hok (startB_put (x := arrOf ver nul n vs) hk1 hs1) (by omega) h4
      have hx : v.fld k = arrOf ver nul n vs := by rw [f3 k (fun h => hk2 k h rfl), fld_put hkl]
      rw [hx, List.length_append, List.length_append]
      refine ⟨⟨fun _ => ⟨g1, g2⟩, f1⟩, by omega, fun j hj => ?_⟩
      simp only [Sch.keys, List.mem_cons, not_or] at hj
      rw [f3 j hj.2, fld_put_ne hj.1]
    · rw [if_neg hc] at h ⊢
      obtain ⟨f1, f2, f3⟩ := ih hok hs1 hl h
      exact ⟨⟨fun h => absurd h hc, f1⟩, by simpa using f2, fun j hj => f3 j fun h => hj (List.mem_cons_of_mem _ h)⟩
  | opt c k d e r ihe ih =>
    intro v0 v l l' hok hs hl h
    simp only [okB, Bool.and_eq_true] at hok
    obtain ⟨⟨hk, hoke⟩, hok⟩ := hok
    obtain ⟨hk1, hk2⟩ := notin hk
    have hfr := startB_fresh hs
    obtain ⟨hs1, st, rfl, hkl⟩ := startB_tail (s := (.opt c k d e r)) (r := r) (k := k) rfl (fun h => by simp only [freshB, Bool.and_eq_true] at h; exact h.2) hs
    simp only [dec, enc, Good] at h ⊢
    by_cases hc : c.ok ver = true
    · rw [if_pos hc] at h ⊢
      rw [hc] at hoke
      simp only [Bool.not_true, Bool.false_or, Bool.and_eq_true] at hoke
      obtain ⟨hoe, hst⟩ := hoke
      obtain ⟨⟨n, l1⟩, h1, h2⟩ := Option.bind_eq_some_iff.1 h
      have hb := decInt_len h1
      simp only at h2
      split at h2
      · obtain ⟨f1, f2, f3⟩ := ih hok hs1 (by omega) h2
        have hx : v.fld k = .nstN := by
          rw [f3 k (fun h => hk2 k h rfl)]
          simp only [freshB, Bool.and_eq_true] at hfr
          have hn := hfr.1
          split at hn
          · rename_i he; exact he
          · cases hn
        rw [hx, List.length_append]
        refine ⟨⟨fun _ x hx => (by cases hx), f1⟩, by simp only [List.length_cons, List.length_nil]; omega, fun j hj => f3 j fun h => hj (List.mem_cons_of_mem _ h)⟩
      · obtain ⟨⟨x, l2⟩, h3, h4⟩ := Option.bind_eq_some_iff.1 h2
        simp only at h4
        obtain ⟨q1, q2, _⟩ := ihe hoe hst (by omega) h3
        obtain ⟨f1, f2, f3⟩ := ih hok (startB_put (x := .nst x) hk1 hs1) (by omega) h4
        have hx : v.fld k = .nst x := by rw [f3 k (fun h => hk2 k h rfl), fld_put hkl]
        rw [hx, List.length_append]
        refine ⟨⟨fun _ y hy => (by cases hy; exact q1), f1⟩, by simp only [List.length_cons]; omega, fun j hj => ?_⟩
        simp only [Sch.keys, List.mem_cons, not_or] at hj
        rw [f3 j hj.2, fld_put_ne hj.1]
    · rw [if_neg hc] at h ⊢
      obtain ⟨f1, f2, f3⟩ := ih hok hs1 hl h
      exact ⟨⟨fun h => absurd h hc, f1⟩, by simpa using f2, fun j hj => f3 j fun h => hj (List.mem_cons_of_mem _ h)⟩
  | tags k r ih =>
    intro v0 v l l' hok hs hl h
    simp only [okB, Bool.and_eq_true] at hok
    obtain ⟨hk, hok⟩ := hok
    obtain ⟨hk1, hk2⟩ := notin hk
    obtain ⟨hs1, st, rfl, hkl⟩ := startB_tail (s := (.tags k r)) (r := r) (k := k) rfl (fun h => h) hs
    simp only [dec, enc, Good] at h ⊢
    by_cases hc : fx = true
    · rw [if_pos hc] at h ⊢
      obtain ⟨⟨t, l1⟩, h1, h2⟩ := Option.bind_eq_some_iff.1 h
      obtain ⟨g1, g2⟩ := decTags_good h1 (by omega)
      simp only at h2
      obtain ⟨f1, f2, f3⟩ := ih hok (startB_put (x := .tags t) hk1 hs1) (by omega) h2
      have hx : v.fld k = .tags t := by rw [f3 k (fun h => hk2 k h rfl), fld_put hkl]
      rw [hx, List.length_append]
      refine ⟨⟨fun _ => g1, f1⟩, by omega, fun j hj => ?_⟩
      simp only [Sch.keys, List.mem_cons, not_or] at hj
      rw [f3 j hj.2, fld_put_ne hj.1]
    · rw [if_neg hc] at h ⊢
      obtain ⟨f1, f2, f3⟩ := ih hok hs1 hl h
      exact ⟨⟨fun h => absurd h hc, f1⟩, by simpa using f2, fun j hj => f3 j fun h => hj (List.mem_cons_of_mem _ h)⟩
end Go.Kx

/- A part of a message in memory while it is read: cells that are put, the reader, what is kept. -/
namespace Go.Kx
open Go.RowKit
set_option linter.unusedSimpArgs false
set_option linter.unusedVariables false

/-! ### Cells that are put into a row -/
def spl (cs : List Value) (o : Nat) (c : List Value) : List Value := cs.take o ++ c ++ cs.drop (o + c.length)
theorem spl_len {cs c : List Value} {o : Nat} (h : o + c.length ≤ cs.length) : (spl cs o c).length = cs.length := by
  simp [spl]; omega
theorem spl_get {cs c : List Value} {o : Nat} (h : o + c.length ≤ cs.length) (i : Nat) : (spl cs o c)[i]? = if i < o then cs[i]? else if i < o + c.length then c[i - o]? else cs[i]? := by
  unfold spl
  by_cases h1 : i < o
  · rw [if_pos h1, List.append_assoc, List.getElem?_append_left (by simp; omega), List.getElem?_take, if_pos h1]
  · rw [if_neg h1]
    by_cases h2 : i < o + c.length
    · rw [if_pos h2, List.getElem?_append_left (by simp; omega), List.getElem?_append_right (by simp; omega)]
      congr 1
      simp; omega
    · rw [if_neg h2, List.getElem?_append_right (by simp; omega), List.getElem?_drop]
      congr 1
      simp; omega
theorem spl_one {cs : List Value} {o : Nat} {v : Value} (h : o < cs.length) : cs.set o v = spl cs o [v] := by
  apply List.ext_getElem?
  intro i
  rw [spl_get (by simp; omega), List.getElem?_set]
  simp only [List.length_cons, List.length_nil]
  by_cases h1 : o = i
  · subst h1
    rw [if_pos rfl, if_pos h, if_neg (by omega), if_pos (by omega), Nat.sub_self]
    rfl
  · rw [if_neg h1]
    split
    · rfl
    · rw [if_neg (by omega)]
/-- Of the cells of a part some are put. -/
theorem spl_sub {cs c : List Value} {o n p : Nat} (h : p + c.length ≤ n) (hn : o + n ≤ cs.length) : ((spl cs (o + p) c).drop o).take n = spl ((cs.drop o).take n) p c := by
  apply List.ext_getElem?
  intro i
  have hl : ((cs.drop o).take n).length = n := by simp; omega
  rw [spl_get (by rw [hl]; exact h), List.getElem?_take, List.getElem?_drop, spl_get (by omega), List.getElem?_take, List.getElem?_drop]
  by_cases h1 : i < n
  · rw [if_pos h1, if_pos h1]
    by_cases h2 : i < p
    · rw [if_pos h2, if_pos (by omega)]
    · rw [if_neg h2, if_neg (by omega)]
      by_cases h3 : i < p + c.length
      · rw [if_pos h3, if_pos (by omega)]
        congr 1
        omega
      · rw [if_neg h3, if_neg (by omega)]
  · rw [if_neg h1, if_neg (by omega), if_neg (by omega), if_neg h1]
theorem spl_splice {cs c1 c2 : List Value} {o : Nat} (h : c1.length = c2.length) (hn : o + c1.length ≤ cs.length) : spl (spl cs o c1) o c2 = spl cs o c2 := by
  apply List.ext_getElem?
  intro i
  rw [spl_get (by rw [spl_len hn]; omega), spl_get hn, spl_get (by omega)]
  by_cases h1 : i < o
  · simp [h1]
  · by_cases h2 : i < o + c2.length
    · simp [h1, h2]
    · simp [h1, h2, show ¬ i < o + c1.length by omega]
theorem spl_at {cs c : List Value} {o : Nat} (h : o + c.length ≤ cs.length) : ((spl cs o c).drop o).take c.length = c := by
  apply List.ext_getElem?
  intro i
  rw [List.getElem?_take, List.getElem?_drop, spl_get h]
  by_cases h1 : i < c.length
  · rw [if_pos h1, if_neg (by omega), if_pos (by omega)]
    congr 1
    omega
  · rw [if_neg h1, List.getElem?_eq_none (by omega)]
/-- Ahead of a place, and behind it, all is as it was. -/
def Outside (cs cs' : List Value) (o n : Nat) : Prop := cs'.length = cs.length ∧ ∀ i, i < o ∨ o + n ≤ i → cs'[i]? = cs[i]?
theorem Outside.refl (cs : List Value) (o n : Nat) : Outside cs cs o n := ⟨rfl, fun _ _ => rfl⟩
theorem Outside.trans {a b c : List Value} {o n : Nat} (h : Outside a b o n) (k : Outside b c o n) : Outside a c o n := ⟨k.1.trans h.1, fun i hi => (k.2 i hi).trans (h.2 i hi)⟩
theorem Outside.spl {cs c : List Value} {o n p : Nat} (h : p + c.length ≤ n) (hn : o + n ≤ cs.length) : Outside cs (spl cs (o + p) c) o n := by
  refine ⟨spl_len (by omega), fun i hi => ?_⟩
  rw [spl_get (by omega)]
  rcases hi with hi | hi
  · rw [if_pos (by omega)]
  · rw [if_neg (by omega), if_neg (by omega)]

theorem spl_left {a b c : List Value} {p : Nat} (h : p + c.length ≤ a.length) : spl (a ++ b) p c = spl a p c ++ b := by
  apply List.ext_getElem?
  intro i
  rw [spl_get (by rw [List.length_append]; omega)]
  have hl := spl_len h
  by_cases h3 : i < a.length
  · rw [List.getElem?_append_left h3, List.getElem?_append_left (l₁ := spl a p c) (by omega), spl_get h]
  · rw [List.getElem?_append_right (l₁ := spl a p c) (by omega), if_neg (by omega), if_neg (by omega), List.getElem?_append_right (by omega), hl]
theorem spl_right {a b c : List Value} {p : Nat} (h : p + c.length ≤ b.length) : spl (a ++ b) (a.length + p) c = a ++ spl b p c := by
  apply List.ext_getElem?
  intro i
  rw [spl_get (by rw [List.length_append]; omega)]
  by_cases h3 : i < a.length
  · rw [if_pos (by omega), List.getElem?_append_left h3, List.getElem?_append_left h3]
  · rw [List.getElem?_append_right (by omega), List.getElem?_append_right (by omega), spl_get h]
    by_cases h4 : i - a.length < p
    · rw [if_pos (by omega), if_pos h4]
    · rw [if_neg (by omega), if_neg h4]
      by_cases h5 : i - a.length < p + c.length
      · rw [if_pos (by omega), if_pos h5]
        congr 1; omega
      · rw [if_neg (by omega), if_neg h5]

theorem Rep.put {w : World} {S : Nat → Prop} {T f : Ty} : ∀ {v u : V} {cs c : List Value} {k o : Nat}, Rep w S T v cs → T.fld k = some (f, o) → Rep w S f u c → Rep w S T (v.put k u) (spl cs o c) := by
  induction T with
  | cons h t ih1 ih2 =>
    intro v u cs c k o hr hf hu
    cases v <;> simp only [Rep] at hr
    obtain ⟨x, vs, c1, c2, rfl, rfl, e3, h1, h2⟩ := hr
    have hlen2 := h2.size
    have hcl := hu.size
    cases k with
    | zero =>
      simp only [Ty.fld, Option.some.injEq, Prod.mk.injEq] at hf
      obtain ⟨rfl, rfl⟩ := hf
      show Rep w S (.cons h t) (.st (u :: vs)) _
      refine ⟨u, vs, c, c2, rfl, ?_, hcl, hu, h2⟩
      rw [spl_left (by omega)]
      congr 1
      simp only [spl, List.take_zero, List.nil_append, Nat.zero_add]
      rw [List.drop_of_length_le (by omega), List.append_nil]
    | succ k =>
      simp only [Ty.fld, Option.map_eq_some_iff, Prod.exists, Prod.mk.injEq] at hf
      obtain ⟨f', o', hf', rfl, rfl⟩ := hf
      have hb := (h2.fld hf')
      obtain ⟨_, _, _, _, hbl⟩ := hb
      show Rep w S (.cons h t) (.st (x :: vs.set k u)) _
      refine ⟨x, vs.set k u, c1, spl c2 o' c, rfl, ?_, e3, h1, ih2 h2 hf' hu⟩
      rw [← e3, spl_right (by omega)]
  | _ => intro v u cs c k o _ hf; cases k <;> simp [Ty.fld] at hf

/-! ### A store of a whole value -/
theorem setCells_heap (g : Nat) : ∀ (vs : List Value) (o : Nat) (w : World) (k : Nat), k ≠ g → (w.setCells g o vs).heap[k]? = w.heap[k]?
  | [], _, _, _, _ => rfl
  | v :: vs, o, w, k, h => by rw [World.setCells, setCells_heap g vs _ _ k h, setCell_other w _ v k h]
theorem setCells_ch (g : Nat) : ∀ (vs : List Value) (o : Nat) (w : World), Ch (fun k => k = g) w (w.setCells g o vs)
  | [], _, w => Ch.refl _ w
  | v :: vs, o, w => by rw [World.setCells]; exact (Ch.set (S := fun k => k = g) w rfl v).trans' (setCells_ch g vs (o + 1) _)
theorem Blk.setCells {g : Nat} {t : TypeId} : ∀ (vs : List Value) {w : World} {cs : List Value} (o : Nat), Blk w g t cs → o + vs.length ≤ cs.length → Blk (w.setCells g o vs) g t (spl cs o vs)
  | [], w, cs, o, h, _ => by simpa [World.setCells, spl] using h
  | v :: vs, w, cs, o, h, hl => by
    simp only [List.length_cons] at hl
    rw [World.setCells]
    have := Blk.setCells vs (o + 1) (h.set o v) (by rw [List.length_set]; omega)
    refine (congrArg (Blk _ g t) ?_).mp this
    apply List.ext_getElem?
    intro i
    rw [spl_get (by rw [List.length_set]; omega), spl_get (by simp; omega), List.getElem?_set]
    simp only [List.length_cons]
    by_cases h1 : i < o
    · rw [if_pos (by omega), if_neg (by omega), if_pos h1]
    · by_cases h2 : i = o
      · subst h2
        rw [if_pos (by omega), if_pos rfl, if_pos (by omega), if_neg (by omega), if_pos (by omega), Nat.sub_self]
        rfl
      · rw [if_neg (by omega), if_neg h1]
        by_cases h3 : i < o + 1 + vs.length
        · rw [if_pos h3, if_pos (by omega), show i - o = (i - (o + 1)) + 1 by omega, List.getElem?_cons_succ]
        · rw [if_neg h3, if_neg (by omega), if_neg (by omega)]

/-- A value as it is stored: what its cells are. -/
theorem OpK.storeV {P : Program} {ρ : Operand → Value} {w : World} {K : Value → World → Prop} {d : Option Tmp} {tt t : TypeId} {pos : String} {af : Array Edge} {gd : Option (Nat × Bool)} {x y : Operand} {g o : Nat} {tG : TypeId} {cells c : List Value} {v : Value}
    (hi : (P.info? t).map (·.size) = some c.length) (hx : ρ x = .pointer (some ⟨g, o, none⟩)) (hy : ρ y = v) (hv : v = .agg c.toArray ∨ c = [v]) (h1 : ∀ u ∈ c, u.oneCell' = true) (hb : Blk w g tG cells) (hl : o + c.length ≤ cells.length)
    (h : K undef (w.setCells g o c)) : OpK P ρ ⟨d, .store t x y, tt, pos, af, gd⟩ w K := by
  rcases hv with rfl | rfl
  · have hr := run_storeAt_mid (P := P) w g o t c.toArray (fun j hj => by
        rw [hb.cell, hb.free]
        refine ⟨?_, rfl⟩
        rw [List.getElem?_eq_getElem (by simp at hj; omega)]
        rfl) (by simpa using hi) (by
        rw [Array.all_eq_true']
        intro u hu
        exact h1 u (by simpa using hu))
    simp only [OpK, execOp, hx, hy, Sem.run_bind, hr, Result.andThen_ok, Sem.run_pure, After]
    exact h
  · exact OpK.store hi hx hy (h1 v (by simp)) (by rw [hb.cell, List.getElem?_eq_getElem (by simp only [List.length_cons, List.length_nil] at hl; omega)]; rfl) (hb.free o) h

theorem rep_one {w : World} {S : Nat → Prop} {T : Ty} : ∀ {v : V} {cs : List Value}, Rep w S T v cs → ∀ u ∈ cs, u.oneCell' = true := by
  induction T with
  | nil => intro v cs h; cases v <;> simp only [Rep] at h; rw [h.2]; intro u hu; cases hu
  | cons h t ih1 ih2 =>
    intro v cs hr u hu
    cases v <;> simp only [Rep] at hr
    obtain ⟨x, vs, c1, c2, e1, rfl, e3, h1, h2⟩ := hr
    rcases List.mem_append.1 hu with hu | hu
    · exact ih1 h1 u hu
    · exact ih2 h2 u hu
  | uuid => intro v cs h; cases v <;> simp only [Rep] at h; rw [h.2]; exact bv_one _
  | bool => intro v cs h; cases v <;> simp only [Rep] at h; rw [h]; simp [Value.oneCell']
  | int k => intro v cs h; cases v <;> simp only [Rep] at h; rw [h.1]; simp [Value.oneCell']
  | f64 => intro v cs h; cases v <;> simp only [Rep] at h; rw [h.1]; simp [Value.oneCell']
  | str => intro v cs h; cases v <;> simp only [Rep] at h; rw [h]; simp [Value.oneCell', strV]
  | nstr =>
    intro v cs h
    cases v <;> simp only [Rep] at h
    · rw [h]; simp [Value.oneCell']
    · obtain ⟨g, rfl, _⟩ := h; simp [Value.oneCell']
  | bytes =>
    intro v cs h
    cases v <;> simp only [Rep] at h
    · rw [h]; simp [Value.oneCell']
    · obtain ⟨a, c, rfl, _⟩ := h; simp [Value.oneCell']
  | arr e ih =>
    intro v cs h
    cases v <;> simp only [Rep] at h
    · rw [h]; simp [Value.oneCell']
    · obtain ⟨a, c, rfl, _⟩ := h; simp [Value.oneCell']
  | nst e ih =>
    intro v cs h
    cases v <;> simp only [Rep] at h
    · rw [h]; simp [Value.oneCell']
    · obtain ⟨g, ci, rfl, _⟩ := h; simp [Value.oneCell']
  | tags =>
    intro v cs h
    cases v <;> simp only [Rep] at h
    rcases h with ⟨rfl, _⟩ | ⟨r, es, clk, rfl, _⟩ <;> simp [Value.oneCell']
end Go.Kx
