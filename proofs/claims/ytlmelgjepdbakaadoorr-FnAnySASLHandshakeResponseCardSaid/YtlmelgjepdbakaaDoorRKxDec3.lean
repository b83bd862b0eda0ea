/- Lists, tags and whole parts as they are read. -/
import Derived.Test.YtlmelgjepdbakaaDoorRKxDec2
namespace Go.Kx
open Go.RowKit
set_option linter.unusedSimpArgs false
set_option linter.unusedVariables false

/-- A reading function of plain octets. -/
abbrev Dc (α : Type) := List UInt8 → Option (α × List UInt8)

def decCnt (fx : Bool) : Dc Int := fun l => if fx then (decUv l).map fun x => (IntKind.i32.wrap (IntKind.i32.wrap (x.1 : Int) - 1), x.2) else decInt .i32 4 l
def decLen (fx : Bool) : Dc Int := fun l => (decCnt fx l).bind fun x => if (x.2.length : Int) < x.1 then none else some x
def decN {α : Type} (f : Dc α) : Nat → Dc (List α)
  | 0, l => some ([], l)
  | n + 1, l => (f l).bind fun x => (decN f n x.2).map fun y => (x.1 :: y.1, y.2)
/-- A list of n things that were read. -/
def arrOf (ver : Int) (nul : Option Int) (n : Int) (vs : List V) : V :=
  if n > 0 then .arr vs else match nul with | none => .arrN | some m => if ver < m ∨ n = 0 then .arr [] else .arrN
def setTag (t : List (Nat × List UInt8)) (k : Nat) (x : List UInt8) : List (Nat × List UInt8) :=
  if t.any (fun e => e.1 == k) then t.map fun e => if e.1 == k then (k, x) else e else t ++ [(k, x)]
def decTagsN : Nat → List (Nat × List UInt8) → Dc (List (Nat × List UInt8))
  | 0, t, l => some (t, l)
  | n + 1, t, l => (decUv l).bind fun k => (decUv k.2).bind fun s => (decSpan (s.1 : Int) s.2).bind fun x => decTagsN n (setTag t k.1 x.1) x.2
def decTags : Dc (List (Nat × List UInt8)) := fun l => (decUv l).bind fun n => decTagsN n.1 [] n.2

def V.put : V → Nat → V → V
  | .st l, k, x => .st (l.set k x)
  | v, _, _ => v

def dec (ver : Int) (fx : Bool) : Sch → V → Dc V
  | .nil, v, l => some (v, l)
  | .val c k w r, v, l => if c.ok ver then (decW fx w l).bind fun x => dec ver fx r (v.put k x.1) x.2 else dec ver fx r v l
  | .arrV c k nul w r, v, l => if c.ok ver then (decLen fx l).bind fun n => (decN (decW fx w) n.1.toNat n.2).bind fun x => dec ver fx r (v.put k (arrOf ver nul n.1 x.1)) x.2 else dec ver fx r v l
  | .arrS c k nul d e r, v, l => if c.ok ver then (decLen fx l).bind fun n => (decN (dec ver fx e d) n.1.toNat n.2).bind fun x => dec ver fx r (v.put k (arrOf ver nul n.1 x.1)) x.2 else dec ver fx r v l
  | .opt c k d e r, v, l => if c.ok ver then (decInt .i8 1 l).bind fun p => if p.1 = -1 then dec ver fx r v p.2 else (dec ver fx e d p.2).bind fun x => dec ver fx r (v.put k (.nst x.1)) x.2 else dec ver fx r v l
  | .tags k r, v, l => if fx then (decTags l).bind fun x => dec ver fx r (v.put k (.tags x.1)) x.2 else dec ver fx r v l

/-! ### More octets behind do no harm -/
theorem decLen_ext {fx : Bool} {l l' : List UInt8} {n : Int} (z : List UInt8) (h : decLen fx l = some (n, l')) : decLen fx (l ++ z) = some (n, l' ++ z) := by
  unfold decLen at h ⊢
  obtain ⟨⟨m, l1⟩, h1, h2⟩ := Option.bind_eq_some_iff.1 h
  simp only at h2
  have h3 : decCnt fx (l ++ z) = some (m, l1 ++ z) := by
    unfold decCnt at h1 ⊢
    cases fx
    · exact decInt_ext z h1
    · exact map_ext (fun _ _ => rfl) (fun a l1 h => decUv_ext z h) h1
  rw [h3]
  split at h2
  · cases h2
  · rename_i hlt
    simp only [Option.some.injEq, Prod.mk.injEq] at h2
    obtain ⟨rfl, rfl⟩ := h2
    simp only [Option.bind_some]
    rw [if_neg (by rw [List.length_append]; omega)]
theorem decN_ext {α : Type} {f : Dc α} (z : List UInt8) (hf : ∀ l x l', f l = some (x, l') → f (l ++ z) = some (x, l' ++ z)) : ∀ (n : Nat) {l l' : List UInt8} {vs : List α}, decN f n l = some (vs, l') → decN f n (l ++ z) = some (vs, l' ++ z)
  | 0, l, l', vs, h => by
    simp only [decN, Option.some.injEq, Prod.mk.injEq] at h ⊢
    exact ⟨h.1, by rw [h.2]⟩
  | n + 1, l, l', vs, h => by
    rw [decN] at h ⊢
    obtain ⟨⟨x, l1⟩, h1, h2⟩ := Option.bind_eq_some_iff.1 h
    obtain ⟨⟨y, l2⟩, h3, h4⟩ := Option.map_eq_some_iff.1 h2
    simp only [Prod.mk.injEq] at h4
    obtain ⟨rfl, rfl⟩ := h4
    rw [hf _ _ _ h1]
    simp only [Option.bind_some]
    rw [decN_ext z hf n h3]
    rfl
theorem decTagsN_ext (z : List UInt8) : ∀ (n : Nat) {t t' : List (Nat × List UInt8)} {l l' : List UInt8}, decTagsN n t l = some (t', l') → decTagsN n t (l ++ z) = some (t', l' ++ z)
  | 0, t, t', l, l', h => by
    simp only [decTagsN, Option.some.injEq, Prod.mk.injEq] at h ⊢
    exact ⟨h.1, by rw [h.2]⟩
  | n + 1, t, t', l, l', h => by
    rw [decTagsN] at h ⊢
    obtain ⟨⟨k, l1⟩, h1, h2⟩ := Option.bind_eq_some_iff.1 h
    obtain ⟨⟨s, l2⟩, h3, h4⟩ := Option.bind_eq_some_iff.1 h2
    obtain ⟨⟨x, l3⟩, h5, h6⟩ := Option.bind_eq_some_iff.1 h4
    rw [decUv_ext z h1]
    simp only [Option.bind_some]
    rw [decUv_ext z h3]
    simp only [Option.bind_some]
    rw [decSpan_ext z h5]
    exact decTagsN_ext z n h6
theorem decTags_ext {t : List (Nat × List UInt8)} {l l' : List UInt8} (z : List UInt8) (h : decTags l = some (t, l')) : decTags (l ++ z) = some (t, l' ++ z) := by
  unfold decTags at h ⊢
  obtain ⟨⟨n, l1⟩, h1, h2⟩ := Option.bind_eq_some_iff.1 h
  rw [decUv_ext z h1]
  exact decTagsN_ext z _ h2

theorem dec_ext {ver : Int} {fx : Bool} (s : Sch) : ∀ {v v' : V} {l l' : List UInt8} (z : List UInt8), dec ver fx s v l = some (v', l') → dec ver fx s v (l ++ z) = some (v', l' ++ z) := by
  induction s with
  | nil => intro v v' l l' z h; simp only [dec, Option.some.injEq, Prod.mk.injEq] at h ⊢; exact ⟨h.1, by rw [h.2]⟩
  | val c k w r ih =>
    intro v v' l l' z h
    simp only [dec] at h ⊢
    split at h
    · rename_i hc
      rw [if_pos hc]
      obtain ⟨⟨x, l1⟩, h1, h2⟩ := Option.bind_eq_some_iff.1 h
      rw [decW_ext z h1]
      exact ih z h2
    · rename_i hc
      rw [if_neg hc]
      exact ih z h
  | arrV c k nul w r ih =>
    intro v v' l l' z h
    simp only [dec] at h ⊢
    split at h
    · rename_i hc
      rw [if_pos hc]
      obtain ⟨⟨n, l1⟩, h1, h2⟩ := Option.bind_eq_some_iff.1 h
      obtain ⟨⟨x, l2⟩, h3, h4⟩ := Option.bind_eq_some_iff.1 h2
      rw [decLen_ext z h1]
      simp only [Option.bind_some]
      rw [decN_ext z (fun l x l' h => decW_ext z h) _ h3]
      exact ih z h4
    · rename_i hc
      rw [if_neg hc]
      exact ih z h
  | arrS c k nul d e r ihe ih =>
    intro v v' l l' z h
    simp only [dec] at h ⊢
    split at h
    · rename_i hc
      rw [if_pos hc]
      obtain ⟨⟨n, l1⟩, h1, h2⟩ := Option.bind_eq_some_iff.1 h
      obtain ⟨⟨x, l2⟩, h3, h4⟩ := Option.bind_eq_some_iff.1 h2
      rw [decLen_ext z h1]
      simp only [Option.bind_some]
      rw [decN_ext z (fun l x l' h => ihe z h) _ h3]
      exact ih z h4
    · rename_i hc
      rw [if_neg hc]
      exact ih z h
  | opt c k d e r ihe ih =>
    intro v v' l l' z h
    simp only [dec] at h ⊢
    split at h
    · rename_i hc
      rw [if_pos hc]
      obtain ⟨⟨n, l1⟩, h1, h2⟩ := Option.bind_eq_some_iff.1 h
      rw [decInt_ext z h1]
      simp only [Option.bind_some] at h2 ⊢
      split at h2
      · rename_i hn
        rw [if_pos hn]
        exact ih z h2
      · rename_i hn
        rw [if_neg hn]
        obtain ⟨⟨x, l2⟩, h3, h4⟩ := Option.bind_eq_some_iff.1 h2
        rw [ihe z h3]
        exact ih z h4
    · rename_i hc
      rw [if_neg hc]
      exact ih z h
  | tags k r ih =>
    intro v v' l l' z h
    simp only [dec] at h ⊢
    split at h
    · rename_i hc
      rw [if_pos hc]
      obtain ⟨⟨x, l1⟩, h1, h2⟩ := Option.bind_eq_some_iff.1 h
      rw [decTags_ext z h1]
      exact ih z h2
    · rename_i hc
      rw [if_neg hc]
      exact ih z h

/-! ### Tags -/
def tagKeys (t : List (Nat × List UInt8)) : List Nat := t.map (·.1)
structure GoodT (t : List (Nat × List UInt8)) : Prop where
  nodup : (tagKeys t).Nodup
  small : ∀ x ∈ t, x.1 < 4294967296 ∧ x.2.length < 4294967296
  many : t.length < 4294967296

theorem insTag_len (x : Nat × List UInt8) : ∀ t : List (Nat × List UInt8), (insTag x t).length = t.length + 1
  | [] => rfl
  | y :: t => by simp only [insTag]; split <;> simp [insTag_len x t]
theorem sortTags_len : ∀ t : List (Nat × List UInt8), (sortTags t).length = t.length
  | [] => rfl
  | x :: t => by rw [sortTags, insTag_len, sortTags_len t]; rfl
theorem insTag_mem {x y : Nat × List UInt8} : ∀ {t : List (Nat × List UInt8)}, y ∈ insTag x t ↔ y = x ∨ y ∈ t
  | [] => by simp [insTag]
  | z :: t => by
    simp only [insTag]
    split
    · simp
    · simp only [List.mem_cons, insTag_mem (t := t)]
      constructor
      · rintro (h | h | h) <;> simp [h]
      · rintro (h | h | h) <;> simp [h]
theorem sortTags_mem {y : Nat × List UInt8} : ∀ {t : List (Nat × List UInt8)}, y ∈ sortTags t ↔ y ∈ t
  | [] => by simp [sortTags]
  | x :: t => by rw [sortTags, insTag_mem, sortTags_mem (t := t)]; simp
/-- By rising numbers. -/
def Rising : List (Nat × List UInt8) → Prop
  | [] => True
  | x :: t => (∀ y ∈ t, x.1 < y.1) ∧ Rising t
theorem insTag_rising {x : Nat × List UInt8} : ∀ {t : List (Nat × List UInt8)}, Rising t → (∀ y ∈ t, x.1 ≠ y.1) → Rising (insTag x t)
  | [], _, _ => ⟨fun _ h => (by cases h), trivial⟩
  | z :: t, h, hn => by
    simp only [insTag]
    split
    · rename_i hlt
      refine ⟨fun y hy => ?_, h⟩
      rcases List.mem_cons.1 hy with rfl | hy
      · exact hlt
      · exact Nat.lt_trans hlt (h.1 y hy)
    · rename_i hlt
      refine ⟨fun y hy => ?_, insTag_rising h.2 fun y hy => hn y (List.mem_cons_of_mem _ hy)⟩
      rcases insTag_mem.1 hy with rfl | hy
      · have := hn z (by simp); omega
      · exact h.1 y hy
theorem sortTags_rising : ∀ {t : List (Nat × List UInt8)}, (tagKeys t).Nodup → Rising (sortTags t)
  | [], _ => trivial
  | x :: t, h => by
    rw [sortTags]
    simp only [tagKeys, List.map_cons, List.nodup_cons, List.mem_map, not_exists, not_and] at h
    exact insTag_rising (sortTags_rising h.2) fun y hy e => h.1 y (sortTags_mem.1 hy) e.symm
theorem insTag_first {x : Nat × List UInt8} {t : List (Nat × List UInt8)} (h : ∀ y ∈ t, x.1 < y.1) : insTag x t = x :: t := by
  cases t with
  | nil => rfl
  | cons y t => simp only [insTag]; rw [if_pos (h y (by simp))]
theorem sortTags_of_rising : ∀ {t : List (Nat × List UInt8)}, Rising t → sortTags t = t
  | [], _ => rfl
  | x :: t, h => by rw [sortTags, sortTags_of_rising h.2, insTag_first h.1]

theorem setTag_new {t : List (Nat × List UInt8)} {k : Nat} {x : List UInt8} (h : ∀ y ∈ t, y.1 ≠ k) : setTag t k x = t ++ [(k, x)] := by
  unfold setTag
  rw [if_neg]
  simp only [List.any_eq_true, beq_iff_eq, not_exists, not_and]
  exact h
/-- Tags that rise are read as they are. -/
theorem decTagsN_enc (z : List UInt8) : ∀ (t acc : List (Nat × List UInt8)), Rising t → (∀ x ∈ acc, ∀ y ∈ t, x.1 < y.1) → (∀ x ∈ t, x.1 < 4294967296 ∧ x.2.length < 4294967296) →
    decTagsN t.length acc (t.flatMap encTag ++ z) = some (acc ++ t, z)
  | [], acc, _, _, _ => by simp [decTagsN]
  | x :: t, acc, h, ha, hs => by
    have hx := hs x (by simp)
    rw [List.length_cons, decTagsN, List.flatMap_cons, encTag, List.append_assoc, List.append_assoc, List.append_assoc, decUv_uvar _ hx.1]
    simp only [Option.bind_some]
    rw [word_eq hx.2, decUv_uvar _ hx.2]
    simp only [Option.bind_some]
    rw [decSpan_app x.2 _ rfl]
    simp only [Option.bind_some]
    rw [setTag_new fun y hy => by have := ha y hy x (by simp); omega, decTagsN_enc z t (acc ++ [(x.1, x.2)]) h.2 ?_ fun y hy => hs y (List.mem_cons_of_mem _ hy)]
    · simp
    · intro a hm y hy
      rcases List.mem_append.1 hm with hm | hm
      · exact ha a hm y (List.mem_cons_of_mem _ hy)
      · simp only [List.mem_singleton] at hm
        subst hm
        exact h.1 y hy
theorem decTags_enc {t : List (Nat × List UInt8)} (h : GoodT t) (z : List UInt8) : decTags (encTags (.tags t) ++ z) = some (sortTags t, z) := by
  unfold decTags encTags encEach
  simp only [V.tagsOf]
  rw [List.append_assoc, word_eq h.many, decUv_uvar _ h.many]
  simp only [Option.bind_some]
  rw [← sortTags_len t]
  have := decTagsN_enc z (sortTags t) [] (sortTags_rising h.nodup) (fun _ h => by cases h) (fun x hx => h.small x (sortTags_mem.1 hx))
  simpa using this
theorem encTags_sort {t : List (Nat × List UInt8)} (h : GoodT t) : encTags (.tags (sortTags t)) = encTags (.tags t) := by
  unfold encTags encEach
  simp only [V.tagsOf]
  rw [sortTags_len, sortTags_of_rising (sortTags_rising h.nodup)]

/-- How many octets the tags' own take. -/
def tagsLen (t : List (Nat × List UInt8)) : Nat := (t.map fun x => (encTag x).length).sum
theorem insTag_sum (x : Nat × List UInt8) : ∀ t : List (Nat × List UInt8), tagsLen (insTag x t) = (encTag x).length + tagsLen t
  | [] => by simp [insTag, tagsLen]
  | y :: t => by
    simp only [insTag]
    split
    · simp [tagsLen]
    · have := insTag_sum x t
      simp only [tagsLen, List.map_cons, List.sum_cons] at this ⊢
      omega
theorem encEach_len : ∀ t : List (Nat × List UInt8), (encEach t).length = tagsLen t := by
  have key : ∀ t : List (Nat × List UInt8), (t.flatMap encTag).length = tagsLen t := by
    intro t
    induction t with
    | nil => rfl
    | cons x t ih => rw [List.flatMap_cons, List.length_append, ih]; simp [tagsLen]
  have hs : ∀ t : List (Nat × List UInt8), tagsLen (sortTags t) = tagsLen t := by
    intro t
    induction t with
    | nil => rfl
    | cons x t ih => rw [sortTags, insTag_sum, ih]; simp [tagsLen]
  intro t
  rw [encEach, key, hs]

theorem tagsLen_app (a b : List (Nat × List UInt8)) : tagsLen (a ++ b) = tagsLen a + tagsLen b := by simp [tagsLen]
theorem map_same {k : Nat} {x : List UInt8} : ∀ {t : List (Nat × List UInt8)}, (∀ e ∈ t, e.1 ≠ k) → (t.map fun e => if e.1 == k then (k, x) else e) = t
  | [], _ => rfl
  | e :: t, h => by
    rw [List.map_cons, if_neg (by have := h e (by simp); simpa using this), map_same fun y hy => h y (List.mem_cons_of_mem _ hy)]
theorem setTag_good {t : List (Nat × List UInt8)} {k : Nat} {x : List UInt8} (hn : (tagKeys t).Nodup) (hs : ∀ e ∈ t, e.1 < 4294967296 ∧ e.2.length < 4294967296) (hk : k < 4294967296) (hx : x.length < 4294967296) :
    (tagKeys (setTag t k x)).Nodup ∧ (∀ e ∈ setTag t k x, e.1 < 4294967296 ∧ e.2.length < 4294967296) ∧ (setTag t k x).length ≤ t.length + 1 ∧ tagsLen (setTag t k x) ≤ tagsLen t + (encTag (k, x)).length := by
  unfold setTag
  split
  · have hkeys : tagKeys (t.map fun e => if e.1 == k then (k, x) else e) = tagKeys t := by
      simp only [tagKeys, List.map_map]
      apply List.map_congr_left
      intro e _
      simp only [Function.comp]
      split
      · rename_i he; exact (beq_iff_eq.1 he).symm
      · rfl
    refine ⟨hkeys ▸ hn, fun e he => ?_, by simp, ?_⟩
    · obtain ⟨e', he', rfl⟩ := List.mem_map.1 he
      split
      · exact ⟨hk, hx⟩
      · exact hs e' he'
    · clear hkeys hs
      rename_i hany
      clear hany
      induction t with
      | nil => simp [tagsLen]
      | cons e t ih =>
        simp only [tagKeys, List.map_cons, List.nodup_cons, List.mem_map, not_exists, not_and] at hn
        by_cases he : e.1 = k
        · rw [List.map_cons, if_pos (by simpa using he), map_same fun y hy hyk => hn.1 y hy (hyk.trans he.symm)]
          simp only [tagsLen, List.map_cons, List.sum_cons]
          omega
        · rw [List.map_cons, if_neg (by simpa using he)]
          have := ih hn.2
          simp only [tagsLen, List.map_cons, List.sum_cons] at this ⊢
          omega
  · rename_i hany
    have hne : ∀ e ∈ t, e.1 ≠ k := by
      simp only [List.any_eq_true, beq_iff_eq, not_exists, not_and] at hany
      exact hany
    refine ⟨?_, fun e he => ?_, by simp, by rw [tagsLen_app]; simp [tagsLen]⟩
    · simp only [tagKeys, List.map_append, List.map_cons, List.map_nil]
      rw [List.nodup_append]
      refine ⟨hn, by simp, fun a ha b hb => ?_⟩
      simp only [List.mem_singleton] at hb
      subst hb
      obtain ⟨e, he, rfl⟩ := List.mem_map.1 ha
      exact hne e he
    · rcases List.mem_append.1 he with he | he
      · exact hs e he
      · simp only [List.mem_singleton] at he
        subst he
        exact ⟨hk, hx⟩

theorem decTagsN_good : ∀ (n : Nat) {t t' : List (Nat × List UInt8)} {l l' : List UInt8}, decTagsN n t l = some (t', l') → l.length < 4294967296 → (tagKeys t).Nodup → (∀ e ∈ t, e.1 < 4294967296 ∧ e.2.length < 4294967296) →
    (tagKeys t').Nodup ∧ (∀ e ∈ t', e.1 < 4294967296 ∧ e.2.length < 4294967296) ∧ t'.length ≤ t.length + n ∧ tagsLen t' + l'.length ≤ tagsLen t + l.length
  | 0, t, t', l, l', h, _, hn, hs => by
    simp only [decTagsN, Option.some.injEq, Prod.mk.injEq] at h
    obtain ⟨rfl, rfl⟩ := h
    exact ⟨hn, hs, by omega, by omega⟩
  | n + 1, t, t', l, l', h, hl, hn, hs => by
    rw [decTagsN] at h
    obtain ⟨⟨k, l1⟩, h1, h2⟩ := Option.bind_eq_some_iff.1 h
    obtain ⟨⟨s, l2⟩, h3, h4⟩ := Option.bind_eq_some_iff.1 h2
    obtain ⟨⟨x, l3⟩, h5, h6⟩ := Option.bind_eq_some_iff.1 h4
    have b1 := decUv_len h1
    have b2 := decUv_len h3
    have b3 := decSpan_len h5
    simp only at b1 b2 b3 h6
    obtain ⟨g1, g2, g3, g4⟩ := setTag_good (k := k) (x := x) hn hs (decUv_lt h1) (by omega)
    obtain ⟨f1, f2, f3, f4⟩ := decTagsN_good n h6 (by omega) g1 g2
    refine ⟨f1, f2, by omega, ?_⟩
    have e1 : (encTag (k, x)).length = (uvar k).length + (uvar s).length + x.length := by
      simp only [encTag, List.length_append]
      rw [word_eq (by omega), show x.length = s by omega]
    omega
theorem decTags_good {t : List (Nat × List UInt8)} {l l' : List UInt8} (h : decTags l = some (t, l')) (hl : l.length < 4294967296) : GoodT t ∧ (encTags (.tags t)).length + l'.length ≤ l.length := by
  unfold decTags at h
  obtain ⟨⟨n, l1⟩, h1, h2⟩ := Option.bind_eq_some_iff.1 h
  have b1 := decUv_len h1
  have b2 := decUv_lt h1
  simp only at b1 b2 h2
  obtain ⟨f1, f2, f3, f4⟩ := decTagsN_good n h2 (by omega) (by simp [tagKeys]) (fun _ h => by cases h)
  simp only [List.length_nil, Nat.zero_add] at f3
  refine ⟨⟨f1, f2, by omega⟩, ?_⟩
  unfold encTags
  simp only [V.tagsOf, List.length_append, encEach_len]
  have : (uvar (word t.length)).length ≤ (uvar n).length := by
    rw [word_eq (by omega), uvar_len (by omega), uvar_len (by omega)]
    unfold uvLen
    repeat' split
    all_goals omega
  have e0 : tagsLen [] = 0 := rfl
  omega
end Go.Kx
