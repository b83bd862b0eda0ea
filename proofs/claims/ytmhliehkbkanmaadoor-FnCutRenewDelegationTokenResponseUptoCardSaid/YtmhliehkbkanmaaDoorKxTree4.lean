/- Library texts Tree2 Tree3 Tree4, joined. -/
import Derived.Test.YtmhliehkbkanmaaDoorKxTree
import Derived.ChangeSlices
import Derived.WalkKit
import Derived.ProofKit
import Derived.OpenShut
import Derived.Test.YtmhliehkbkanmaaDoorKxEach
/- What the reference writes of a tree is what the message's fields write of a value: the law. -/
namespace Go.Kx
set_option linter.unusedSimpArgs false
set_option linter.unusedVariables false

theorem contains_cons_false {k j : Nat} {l : List Nat} (h : (j :: l).contains k = false) : j ≠ k ∧ l.contains k = false := by
  simp only [List.contains_cons, Bool.or_eq_false_iff, beq_eq_false_iff_ne, ne_eq] at h
  exact ⟨fun e => h.1 e.symm, h.2⟩
theorem enc_put {ver : Int} {fx : Bool} {k : Nat} {x : V} : ∀ {s : Sch} {v : V}, s.keys.contains k = false → enc ver fx s (v.put k x) = enc ver fx s v := by
  intro s
  induction s with
  | nil => intro v _; rfl
  | val c j w r ih => intro v h; obtain ⟨h1, h2⟩ := contains_cons_false h; simp only [enc, ih h2, fld_put_ne h1]
  | arrV c j nul w r ih => intro v h; obtain ⟨h1, h2⟩ := contains_cons_false h; simp only [enc, ih h2, fld_put_ne h1]
  | arrS c j nul d e r _ ih => intro v h; obtain ⟨h1, h2⟩ := contains_cons_false h; simp only [enc, ih h2, fld_put_ne h1]
  | opt c j d e r _ ih => intro v h; obtain ⟨h1, h2⟩ := contains_cons_false h; simp only [enc, ih h2, fld_put_ne h1]
  | tags j r ih => intro v h; obtain ⟨h1, h2⟩ := contains_cons_false h; simp only [enc, ih h2, fld_put_ne h1]
theorem Good_put {ver : Int} {fx : Bool} {k : Nat} {x : V} : ∀ {s : Sch} {v : V}, s.keys.contains k = false → Good ver fx s v → Good ver fx s (v.put k x) := by
  intro s
  induction s with
  | nil => intro v _ _; trivial
  | val c j w r ih => intro v h g; obtain ⟨h1, h2⟩ := contains_cons_false h; simp only [Good, fld_put_ne h1] at g ⊢; exact ⟨g.1, ih h2 g.2⟩
  | arrV c j nul w r ih => intro v h g; obtain ⟨h1, h2⟩ := contains_cons_false h; simp only [Good, fld_put_ne h1] at g ⊢; exact ⟨g.1, ih h2 g.2⟩
  | arrS c j nul d e r _ ih => intro v h g; obtain ⟨h1, h2⟩ := contains_cons_false h; simp only [Good, fld_put_ne h1] at g ⊢; exact ⟨g.1, ih h2 g.2⟩
  | opt c j d e r _ ih => intro v h g; obtain ⟨h1, h2⟩ := contains_cons_false h; simp only [Good, fld_put_ne h1] at g ⊢; exact ⟨g.1, ih h2 g.2⟩
  | tags j r ih => intro v h g; obtain ⟨h1, h2⟩ := contains_cons_false h; simp only [Good, fld_put_ne h1] at g ⊢; exact ⟨g.1, ih h2 g.2⟩

theorem put_st {k : Nat} {x v : V} (h : ∃ xs, v = .st xs ∧ xs.length = 64) : ∃ xs, v.put k x = .st xs ∧ xs.length = 64 := by
  obtain ⟨xs, rfl, h⟩ := h
  exact ⟨_, rfl, by simpa using h⟩
theorem mkV_st {ver : Int} {fx : Bool} : ∀ (s : Sch) (l : List (Fld × Nat)) (t : Tr), ∃ xs, mkV ver fx s l t = .st xs ∧ xs.length = 64 := by
  intro s
  induction s with
  | nil => intro l t; exact ⟨_, rfl, by simp⟩
  | val c j w r ih => intro l t; simp only [mkV]; split; · (split; · exact put_st (ih _ _)); · exact ih _ _
                      · exact ih _ _
  | arrV c j nul w r ih => intro l t; simp only [mkV]; split; · (split; · exact put_st (ih _ _)); · exact ih _ _
                           · exact ih _ _
  | arrS c j nul d e r _ ih => intro l t; simp only [mkV]; split; · (split; · exact put_st (ih _ _)); · exact ih _ _
                               · exact ih _ _
  | opt c j d e r _ ih => intro l t; simp only [mkV]; split; · (split; · exact put_st (ih _ _)); · exact ih _ _
                          · exact ih _ _
  | tags j r ih => intro l t; exact put_st (ih _ _)
theorem mkV_fld {ver : Int} {fx : Bool} {s : Sch} {l : List (Fld × Nat)} {t : Tr} {k : Nat} {x : V} (h : Nat.blt k 64 = true) : ((mkV ver fx s l t).put k x).fld k = x := by
  obtain ⟨xs, e, hl⟩ := mkV_st (ver := ver) (fx := fx) s l t
  rw [e]
  exact fld_put (by rw [hl]; exact Nat.le_of_ble_eq_true h)

theorem plain_part {ver : Int} {fx : Bool} {d : Nat} {sub : List Fld} (h : plainB d sub = true) : ∃ d', d = d' + 1 ∧ ∀ x ∈ acts ver sub, (!x.1.parts || plainB d' x.1.sub) = true := by
  cases d with
  | zero => simp [plainB] at h
  | succ d =>
    refine ⟨d, rfl, fun x hx => ?_⟩
    simp only [plainB, List.all_eq_true, Bool.and_eq_true] at h
    simp only [acts, List.mem_filter] at hx
    exact (h x.1 (List.fst_mem_of_mem_zipIdx hx.1)).2

theorem thingsL_len (null : Bool) (t : Tr) : (thingsL null t).length ≤ 32767 := by unfold thingsL; split <;> simp <;> omega
theorem counted_len {fx nul : Bool} {v : V} {n : Nat} (hv : v.isNil = false) (hn : v.elems.length = n) (h : n ≤ 32767) : encLen fx nul v = countedL fx false n 4 := by
  unfold encLen countedL
  rw [hv, Bool.and_false, hn]
  cases fx
  · rfl
  · simp only [if_true]; rw [word_eq (by omega)]; rfl
theorem flatMap_map_congr {α β : Type} {g : β → List UInt8} {f : α → β} {k : α → List UInt8} {l : List α} (h : ∀ x ∈ l, g (f x) = k x) : (l.map f).flatMap g = l.flatMap k := by
  induction l with
  | nil => rfl
  | cons x l ih => simp only [List.map_cons, List.flatMap_cons, h x (by simp), ih fun y hy => h y (by simp [hy])]

theorem fldL_val {pt : List Fld → Tr → List UInt8} {f : Fld} {ver : Int} {fx : Bool} {t : Tr} (h : ¬ f.kind = 11) (h2 : ¬ f.kind = 10) : fldL pt f ver fx t = valL pt f.kind f.sub (nullL f ver t) fx t := by
  unfold fldL
  rw [if_neg h, if_neg fun e => h2 e.1]
theorem fldL_list {pt : List Fld → Tr → List UInt8} {f : Fld} {ver : Int} {fx : Bool} {t : Tr} (h : f.kind = 11) : fldL pt f ver fx t = countedL fx (nullL f ver t) (thingsL (nullL f ver t) t).length 4 ++ (thingsL (nullL f ver t) t).flatMap (valL pt f.of f.sub false fx) := by
  unfold fldL
  rw [if_pos h]
theorem fldL_opt {pt : List Fld → Tr → List UInt8} {f : Fld} {ver : Int} {fx : Bool} {t : Tr} (h : f.kind = 10) (h2 : f.null ≥ 0) : fldL pt f ver fx t = if nullL f ver t then [255] else 1 :: pt f.sub t := by
  unfold fldL
  rw [if_neg (by omega), if_pos ⟨h, h2⟩]

set_option maxHeartbeats 4000000 in
theorem mkV_enc {ver : Int} {fx : Bool} : ∀ (s : Sch) (d : Nat) (l : List (Fld × Nat)) (t : Tr), matchS ver fx s l = true → okB ver fx s = true → smallB s = true → (∀ x ∈ l, (!x.1.parts || plainB d x.1.sub) = true) →
    enc ver fx s (mkV ver fx s l t) = l.flatMap (fun x => fldL (partF ver fx d) x.1 ver fx (t.at x.2)) ++ (if fx then tagsL t else []) ∧ Good ver fx s (mkV ver fx s l t) := by
  intro s
  induction s with
  | nil =>
    intro d l t hm _ _ _
    simp only [matchS, Bool.and_eq_true, List.isEmpty_iff, Bool.not_eq_true'] at hm
    obtain ⟨rfl, rfl⟩ := hm
    exact ⟨rfl, trivial⟩
  | val c k w r ih =>
    intro d l t hm hok hsm hpl
    simp only [okB, Bool.and_eq_true] at hok
    obtain ⟨hk, hok⟩ := hok
    obtain ⟨hk1, _⟩ := notin hk
    simp only [smallB, Bool.and_eq_true] at hsm
    simp only [matchS] at hm
    by_cases hc : c.ok ver = true
    · simp only [if_pos hc] at hm
      split at hm
      · rename_i x l'
        simp only [Bool.and_eq_true, bne_iff_ne, ne_eq] at hm
        obtain ⟨⟨⟨⟨h11, h10⟩, hkw⟩, hn⟩, hm⟩ := hm
        obtain ⟨i1, i2⟩ := ih d l' t hm hok hsm.2 fun y hy => hpl y (by simp [hy])
        obtain ⟨j1, j2⟩ := valV_enc (pt := partF ver fx d) (fx := fx) (sub := x.1.sub) (null := nullL x.1 ver (t.at x.2)) (t := t.at x.2) hkw (fun h => by
          simp only [nullL, Bool.and_eq_true] at h
          simpa [h.2] using hn)
        simp only [enc, Good, mkV, if_pos hc, mkV_fld hsm.1]
        refine ⟨?_, fun _ => j2, Good_put hk1 i2⟩
        rw [enc_put hk1, i1, j1, List.flatMap_cons, List.append_assoc]
        rw [fldL_val h11 h10]
      · cases hm
    · simp only [if_neg hc] at hm
      obtain ⟨i1, i2⟩ := ih d l t hm hok hsm.2 hpl
      simp only [enc, Good, mkV, if_neg hc, List.nil_append]
      exact ⟨i1, fun h => absurd h hc, i2⟩
  | arrV c k nul w r ih =>
    intro d l t hm hok hsm hpl
    simp only [okB, Bool.and_eq_true] at hok
    obtain ⟨hk, hok⟩ := hok
    obtain ⟨hk1, _⟩ := notin hk
    simp only [smallB, Bool.and_eq_true] at hsm
    simp only [matchS] at hm
    by_cases hc : c.ok ver = true
    · simp only [if_pos hc] at hm
      split at hm
      · rename_i x l'
        simp only [Bool.and_eq_true, beq_iff_eq] at hm
        obtain ⟨⟨⟨h11, hkw⟩, hn⟩, hm⟩ := hm
        obtain ⟨i1, i2⟩ := ih d l' t hm hok hsm.2 fun y hy => hpl y (by simp [hy])
        simp only [enc, Good, mkV, if_pos hc, mkV_fld hsm.1]
        rw [enc_put hk1, i1, List.flatMap_cons, List.append_assoc]
        rw [fldL_list h11]
        have hgood : ∀ y : Tr, GoodW fx w (valV w false y) ∧ encW fx w (valV w false y) = valL (partF ver fx d) x.1.of x.1.sub false fx y := fun y => by
          obtain ⟨a, b⟩ := valV_enc (pt := partF ver fx d) (fx := fx) (sub := x.1.sub) (null := false) (t := y) hkw (fun h => by cases h)
          exact ⟨b, a⟩
        by_cases hnul : nullL x.1 ver (t.at x.2) = true
        · have hcan : canNull x.1 ver = true := by simp only [nullL, Bool.and_eq_true] at hnul; exact hnul.2
          simp only [nulA, hcan, Bool.not_true, Bool.false_or] at hn
          split at hn
          · rename_i m
            simp only [decide_eq_true_eq] at hn
            simp only [hnul, if_true]
            refine ⟨?_, fun _ => ⟨⟨by simp [V.elems], fun m' e hlt => ?_⟩, fun y hy => by simp [V.elems] at hy⟩, Good_put hk1 i2⟩
            · rw [counted_nul]
              simp only [encLen, V.isNil, V.elems, Option.isSome, Bool.and_self, if_true, List.flatMap_nil, show thingsL true (t.at x.2) = [] from rfl, List.append_nil, List.nil_append, List.append_assoc]
            · simp only [Option.some.injEq] at e; omega
          · cases hn
        · simp only [Bool.not_eq_true] at hnul
          simp only [hnul, if_neg (show ¬ (false = true) by decide)]
          have hlen := thingsL_len false (t.at x.2)
          refine ⟨?_, fun _ => ⟨⟨by simp only [V.elems, List.length_map]; omega, fun _ _ _ => rfl⟩, fun y hy => ?_⟩, Good_put hk1 i2⟩
          · rw [counted_len (n := (thingsL false (t.at x.2)).length) rfl (by simp [V.elems]) hlen]
            simp only [V.elems]
            rw [flatMap_map_congr fun y _ => (hgood y).2]
            simp only [List.append_assoc]
          · simp only [V.elems, List.mem_map] at hy
            obtain ⟨z, _, rfl⟩ := hy
            exact (hgood z).1
      · cases hm
    · simp only [if_neg hc] at hm
      obtain ⟨i1, i2⟩ := ih d l t hm hok hsm.2 hpl
      simp only [enc, Good, mkV, if_neg hc, List.nil_append]
      exact ⟨i1, fun h => absurd h hc, i2⟩
  | arrS c k nul dv e r ihe ih =>
    intro d l t hm hok hsm hpl
    simp only [okB, Bool.and_eq_true] at hok
    obtain ⟨⟨hk, hoke⟩, hok⟩ := hok
    obtain ⟨hk1, _⟩ := notin hk
    simp only [smallB, Bool.and_eq_true] at hsm
    simp only [matchS] at hm
    by_cases hc : c.ok ver = true
    · simp only [if_pos hc] at hm
      simp only [hc, Bool.not_true, Bool.false_or, Bool.and_eq_true] at hoke
      split at hm
      · rename_i x l'
        simp only [Bool.and_eq_true, beq_iff_eq] at hm
        obtain ⟨⟨⟨⟨h11, hof⟩, hn⟩, hme⟩, hm⟩ := hm
        obtain ⟨i1, i2⟩ := ih d l' t hm hok hsm.2 fun y hy => hpl y (by simp [hy])
        have hp0 : plainB d x.1.sub = true := by
          have := hpl x (by simp)
          simpa [Fld.parts, h11, hof] using this
        obtain ⟨d', rfl, hp1⟩ := plain_part (ver := ver) (fx := fx) hp0
        simp only [enc, Good, mkV, if_pos hc, mkV_fld hsm.1.1]
        rw [enc_put hk1, i1, List.flatMap_cons, List.append_assoc]
        rw [fldL_list h11]
        have hgood : ∀ y : Tr, Good ver fx e (mkV ver fx e (acts ver x.1.sub) y) ∧ enc ver fx e (mkV ver fx e (acts ver x.1.sub) y) = valL (partF ver fx (d' + 1)) x.1.of x.1.sub false fx y := fun y => by
          obtain ⟨a, b⟩ := ihe d' (acts ver x.1.sub) y hme hoke.1.2 hsm.1.2 hp1
          refine ⟨b, a.trans ?_⟩
          rw [hof]
          rfl
        by_cases hnul : nullL x.1 ver (t.at x.2) = true
        · have hcan : canNull x.1 ver = true := by simp only [nullL, Bool.and_eq_true] at hnul; exact hnul.2
          simp only [nulA, hcan, Bool.not_true, Bool.false_or] at hn
          split at hn
          · rename_i m
            simp only [decide_eq_true_eq] at hn
            simp only [hnul, if_true]
            refine ⟨?_, fun _ => ⟨⟨by simp [V.elems], fun m' e hlt => ?_⟩, fun y hy => by simp [V.elems] at hy⟩, Good_put hk1 i2⟩
            · rw [counted_nul]
              simp only [encLen, V.isNil, V.elems, Option.isSome, Bool.and_self, if_true, List.flatMap_nil, show thingsL true (t.at x.2) = [] from rfl, List.append_nil, List.nil_append, List.append_assoc]
            · simp only [Option.some.injEq] at e; omega
          · cases hn
        · simp only [Bool.not_eq_true] at hnul
          simp only [hnul, if_neg (show ¬ (false = true) by decide)]
          have hlen := thingsL_len false (t.at x.2)
          refine ⟨?_, fun _ => ⟨⟨by simp only [V.elems, List.length_map]; omega, fun _ _ _ => rfl⟩, fun y hy => ?_⟩, Good_put hk1 i2⟩
          · rw [counted_len (n := (thingsL false (t.at x.2)).length) rfl (by simp [V.elems]) hlen]
            simp only [V.elems]
            rw [flatMap_map_congr fun y _ => (hgood y).2]
            simp only [List.append_assoc]
          · simp only [V.elems, List.mem_map] at hy
            obtain ⟨z, _, rfl⟩ := hy
            exact (hgood z).1
      · cases hm
    · simp only [if_neg hc] at hm
      obtain ⟨i1, i2⟩ := ih d l t hm hok hsm.2 hpl
      simp only [enc, Good, mkV, if_neg hc, List.nil_append]
      exact ⟨i1, fun h => absurd h hc, i2⟩
  | opt c k dv e r ihe ih =>
    intro d l t hm hok hsm hpl
    simp only [okB, Bool.and_eq_true] at hok
    obtain ⟨⟨hk, hoke⟩, hok⟩ := hok
    obtain ⟨hk1, _⟩ := notin hk
    simp only [smallB, Bool.and_eq_true] at hsm
    simp only [matchS] at hm
    by_cases hc : c.ok ver = true
    · simp only [if_pos hc] at hm
      simp only [hc, Bool.not_true, Bool.false_or, Bool.and_eq_true] at hoke
      split at hm
      · rename_i x l'
        simp only [Bool.and_eq_true, beq_iff_eq, decide_eq_true_eq] at hm
        obtain ⟨⟨⟨h10, hnn⟩, hme⟩, hm⟩ := hm
        obtain ⟨i1, i2⟩ := ih d l' t hm hok hsm.2 fun y hy => hpl y (by simp [hy])
        have hp0 : plainB d x.1.sub = true := by
          have := hpl x (by simp)
          simpa [Fld.parts, h10] using this
        obtain ⟨d', rfl, hp1⟩ := plain_part (ver := ver) (fx := fx) hp0
        simp only [enc, Good, mkV, if_pos hc, mkV_fld hsm.1.1]
        rw [enc_put hk1, i1, List.flatMap_cons, List.append_assoc]
        rw [fldL_opt h10 hnn]
        obtain ⟨a, b⟩ := ihe d' (acts ver x.1.sub) (t.at x.2) hme hoke.1 hsm.1.2 hp1
        by_cases hnul : nullL x.1 ver (t.at x.2) = true
        · simp only [hnul, if_true]
          exact ⟨trivial, fun _ y h => (by cases h), Good_put hk1 i2⟩
        · simp only [Bool.not_eq_true] at hnul
          simp only [hnul, if_neg (show ¬ (false = true) by decide)]
          refine ⟨?_, fun _ y h => (by cases h; exact b), Good_put hk1 i2⟩
          rw [a]
          rfl
      · cases hm
    · simp only [if_neg hc] at hm
      obtain ⟨i1, i2⟩ := ih d l t hm hok hsm.2 hpl
      simp only [enc, Good, mkV, if_neg hc, List.nil_append]
      exact ⟨i1, fun h => absurd h hc, i2⟩
  | tags k r ih =>
    intro d l t hm hok hsm hpl
    simp only [okB, Bool.and_eq_true] at hok
    obtain ⟨hk, hok⟩ := hok
    obtain ⟨hk1, _⟩ := notin hk
    simp only [smallB, Bool.and_eq_true] at hsm
    simp only [matchS] at hm
    obtain ⟨j1, j2⟩ := tagV_enc t
    cases fx with
    | true =>
      simp only [if_true] at hm
      split at hm
      · simp only [List.isEmpty_iff] at hm
        subst hm
        simp only [enc, Good, mkV, if_true, mkV_fld hsm.1, List.flatMap_nil, List.nil_append, List.append_nil]
        simp only [show ((V.st (List.replicate 64 (V.b false))).put k (tagV t)).fld k = tagV t from mkV_fld (ver := ver) (fx := true) (s := .nil) (l := []) (t := t) hsm.1]
        exact ⟨j1, fun _ => j2, trivial⟩
      · cases hm
    | false =>
      simp only [if_neg (show ¬ (false = true) by decide)] at hm
      obtain ⟨i1, i2⟩ := ih d l t hm hok hsm.2 hpl
      simp only [enc, Good, mkV, if_neg (show ¬ (false = true) by decide), List.nil_append]
      rw [enc_put hk1]
      exact ⟨i1, fun h => (by cases h), Good_put hk1 i2⟩
end Go.Kx

/- How long what the reference writes of a tree may be. -/
namespace Go.Kx
set_option linter.unusedSimpArgs false
set_option linter.unusedVariables false

def twU : List (UInt32 × List UInt8) → Nat
  | [] => 0
  | x :: r => 3 + x.2.length + twU r
mutual
/-- How many values and letters a tree holds, at least. -/
def Tr.tw : Tr → Nat
  | .mk _ s _ l u => 6 + s.length + twL l + twU u
def twL : List Tr → Nat
  | [] => 0
  | t :: r => t.tw + twL r
end
theorem Tr.tw_eq (t : Tr) : t.tw = 6 + t.s.length + twL t.l + twU t.u := by cases t; simp only [Tr.tw, Tr.s, Tr.l, Tr.u]
theorem twL_mem : ∀ {l : List Tr} {i : Nat} {x : Tr}, l[i]? = some x → x.tw ≤ twL l
  | [], _, _, h => by simp at h
  | y :: l, 0, x, h => by simp only [List.getElem?_cons_zero, Option.some.injEq] at h; subst h; simp only [twL]; omega
  | y :: l, i + 1, x, h => by
    simp only [List.getElem?_cons_succ] at h
    have := twL_mem h
    simp only [twL]; omega
theorem tw_at (t : Tr) (i : Nat) : (t.at i).tw ≤ t.tw := by
  unfold Tr.at
  rw [List.getD_eq_getElem?_getD]
  have h6 := t.tw_eq
  cases h : t.l[i]? with
  | none => simp only [Option.getD_none]; show Tr.tw (.mk 0 [] false [] []) ≤ _; simp only [Tr.tw, List.length_nil, twL, twU]; omega
  | some x => have := twL_mem h; simp only [Option.getD_some]; omega
theorem twL_take : ∀ (n : Nat) (l : List Tr), twL (l.take n) ≤ twL l
  | 0, l => by simp [twL]
  | n + 1, [] => by simp [twL]
  | n + 1, x :: l => by have := twL_take n l; simp only [List.take_succ_cons, twL]; omega

theorem uvar_le : ∀ (k n : Nat), n < 128 ^ (k + 1) → (uvar n).length ≤ k + 1
  | 0, n, h => by rw [uvar_small (by omega)]; simp
  | k + 1, n, h => by
    by_cases hn : n < 128
    · rw [uvar_small hn]; simp
    · rw [uvar_big hn, List.length_cons]
      have := uvar_le k (n / 128) (by rw [Nat.pow_succ] at h; omega)
      omega

def wsum (l : List (Nat × List UInt8)) : Nat := (l.map fun x => 3 + x.2.length).sum
theorem wsum_ins (x : Nat × List UInt8) : ∀ l, wsum (insTag x l) = 3 + x.2.length + wsum l
  | [] => by simp [insTag, wsum]
  | y :: l => by
    simp only [insTag]
    split
    · simp [wsum]
    · have := wsum_ins x l
      simp only [wsum, List.map_cons, List.sum_cons] at *
      omega
theorem wsum_insU (out : List (Nat × List UInt8)) (x : Nat × List UInt8) : wsum (insU out x) ≤ 3 + x.2.length + wsum out := by
  unfold insU
  split
  · omega
  · rw [wsum_ins]; omega
theorem wsum_fold : ∀ (l out : List (Nat × List UInt8)), wsum (l.foldl insU out) ≤ wsum l + wsum out
  | [], out => by simp [wsum]
  | x :: l, out => by
    have h1 := wsum_fold l (insU out x)
    have h2 := wsum_insU out x
    have h3 : wsum (x :: l) = 3 + x.2.length + wsum l := by simp [wsum]
    simp only [List.foldl_cons]; omega
theorem wsum_unk (u : List (UInt32 × List UInt8)) : wsum (unkL u) ≤ twU u := by
  have h1 := wsum_fold ((u.take 32767).map fun x => (x.1.toNat, x.2)) []
  have h2 : ∀ (n : Nat) (u : List (UInt32 × List UInt8)), wsum ((u.take n).map fun x => (x.1.toNat, x.2)) ≤ twU u := by
    intro n u
    induction u generalizing n with
    | nil => simp [wsum, twU]
    | cons x u ih =>
      cases n with
      | zero => simp [wsum]
      | succ n =>
        have := ih n
        simp only [List.take_succ_cons, List.map_cons, wsum, List.sum_cons, twU] at *
        omega
  have h3 := h2 32767 u
  have h4 : wsum [] = 0 := rfl
  unfold unkL
  omega
theorem tags_sum : ∀ {l : List (Nat × List UInt8)}, (∀ y ∈ l, y.1 < 4294967296) → (l.flatMap tagL).length ≤ 4 * wsum l
  | [], _ => by simp [wsum]
  | x :: l, h => by
    have h1 := tags_sum (l := l) fun y hy => h y (by simp [hy])
    have h2 := uvar_le 4 x.1 (by have := h x (by simp); omega)
    have h3 := wholeL_len x.2
    have h4 := uvar_le 2 (wholeL x.2).length (by omega)
    have h5 : (wholeL x.2).length ≤ x.2.length := by unfold wholeL; simp; omega
    simp only [List.flatMap_cons, List.length_append, tagL, wsum, List.map_cons, List.sum_cons] at *
    omega
theorem tagsL_len (t : Tr) : (tagsL t).length ≤ 4 * t.tw := by
  obtain ⟨_, h2, h3⟩ := unkL_props t.u
  have h4 := tags_sum h2
  have h5 := wsum_unk t.u
  have h6 := uvar_le 2 (unkL t.u).length (by omega)
  have h7 := t.tw_eq
  simp only [tagsL, List.length_append]
  omega

def costK (c : List Fld → Nat) (kind : Int) (sub : List Fld) : Nat := if kind = 10 then c sub else 3
def costFld (c : List Fld → Nat) (f : Fld) : Nat := 1 + if f.kind = 11 then costK c f.of f.sub else costK c f.kind f.sub
def costF : Nat → List Fld → Nat
  | 0, _ => 0
  | d + 1, flds => 4 + (flds.map (costFld (costF d))).sum

theorem countedL_len {fx null : Bool} {n size : Nat} (hn : n ≤ 32767) (hs : size ≤ 4) : (countedL fx null n size).length ≤ 4 := by
  unfold countedL
  split
  · split
    · simp
    · have := uvar_le 2 (n + 1) (by omega)
      omega
  · split <;> rw [be_length] <;> omega
theorem valL_len {pt : List Fld → Tr → List UInt8} {c : List Fld → Nat} {kind : Int} {sub : List Fld} {null fx : Bool} {t : Tr} (hp : (pt sub t).length ≤ c sub * t.tw) : (valL pt kind sub null fx t).length ≤ costK c kind sub * t.tw := by
  have h6 := t.tw_eq
  have hw := wholeL_len t.s
  have hw2 : (wholeL t.s).length ≤ t.s.length := by unfold wholeL; simp; omega
  unfold valL costK
  by_cases h10 : kind = 10
  · subst h10; simpa using hp
  · rw [if_neg h10]
    split
    · simp; omega
    · split
      · rw [uuidL_len]; omega
      · split
        · rw [List.length_append]
          have := countedL_len (fx := fx) (null := null) (n := (if null = true then [] else wholeL t.s).length) (size := 2) (by split <;> first | (simp; done) | omega) (by omega)
          have h9 : (if null = true then ([] : List UInt8) else wholeL t.s).length ≤ t.s.length := by split <;> first | (simp; done) | omega
          omega
        · split
          · rw [List.length_append]
            have := countedL_len (fx := fx) (null := null) (n := (if null = true then [] else wholeL t.s).length) (size := 4) (by split <;> first | (simp; done) | omega) (by omega)
            have h9 : (if null = true then ([] : List UInt8) else wholeL t.s).length ≤ t.s.length := by split <;> first | (simp; done) | omega
            omega
          · rw [be_length]
            unfold widthL
            split
            · omega
            · split
              · omega
              · split <;> omega
theorem list_len {k : Nat} {g : Tr → List UInt8} : ∀ {l : List Tr}, (∀ x ∈ l, (g x).length ≤ k * x.tw) → (l.flatMap g).length ≤ k * twL l
  | [], _ => by simp
  | x :: l, h => by
    have h1 := list_len (k := k) (l := l) fun y hy => h y (by simp [hy])
    have h2 := h x (by simp)
    simp only [List.flatMap_cons, List.length_append, twL, Nat.mul_add]
    omega
theorem fldL_len {pt : List Fld → Tr → List UInt8} {c : List Fld → Nat} {f : Fld} {ver : Int} {fx : Bool} {t : Tr} (hp : ∀ t, (pt f.sub t).length ≤ c f.sub * t.tw) : (fldL pt f ver fx t).length ≤ costFld c f * t.tw := by
  have h6 := t.tw_eq
  unfold costFld
  by_cases h11 : f.kind = 11
  · rw [fldL_list h11, if_pos h11, List.length_append, Nat.add_mul]
    have h1 := countedL_len (fx := fx) (null := nullL f ver t) (n := (thingsL (nullL f ver t) t).length) (size := 4) (thingsL_len _ _) (by omega)
    have h2 := list_len (k := costK c f.of f.sub) (g := valL pt f.of f.sub false fx) (l := thingsL (nullL f ver t) t) fun x _ => valL_len (hp x)
    have h3 : twL (thingsL (nullL f ver t) t) ≤ twL t.l := by
      unfold thingsL
      split
      · simp [twL]
      · exact twL_take _ _
    have h4 : costK c f.of f.sub * twL (thingsL (nullL f ver t) t) ≤ costK c f.of f.sub * t.tw := Nat.mul_le_mul_left _ (by omega)
    omega
  · rw [if_neg h11, Nat.add_mul]
    by_cases h10 : f.kind = 10 ∧ f.null ≥ 0
    · rw [fldL_opt h10.1 h10.2]
      have := hp t
      simp only [costK, h10.1, if_true]
      split
      · simp; omega
      · simp only [List.length_cons]; omega
    · have e : fldL pt f ver fx t = valL pt f.kind f.sub (nullL f ver t) fx t := by unfold fldL; rw [if_neg h11, if_neg h10]
      rw [e]
      have := valL_len (kind := f.kind) (null := nullL f ver t) (fx := fx) (hp t)
      omega
theorem acts_sum {ver : Int} {g : Fld × Nat → Nat} {k : Fld → Nat} (m : Nat) (h : ∀ f i, g (f, i) ≤ k f * m) : ∀ (flds : List Fld) (i : Nat), (((flds.zipIdx i).filter fun x => decide (x.1.tag < 0) && hasL x.1 ver).map g).sum ≤ (flds.map k).sum * m
  | [], _ => by simp
  | f :: flds, i => by
    have h1 := acts_sum (ver := ver) m h flds (i + 1)
    have h2 := h f i
    simp only [List.zipIdx_cons, List.map_cons, List.sum_cons, Nat.add_mul]
    rw [List.filter_cons]
    split
    · simp only [List.map_cons, List.sum_cons]; omega
    · omega
theorem partF_len {ver : Int} {fx : Bool} : ∀ (d : Nat) (flds : List Fld) (t : Tr), (partF ver fx d flds t).length ≤ costF d flds * t.tw
  | 0, _, _ => by simp [partF]
  | d + 1, flds, t => by
    simp only [partF, partG, costF, List.length_append, List.length_flatMap, Nat.add_mul]
    have h1 := acts_sum (ver := ver) (g := fun x => (fldL (partF ver fx d) x.1 ver fx (t.at x.2)).length) (k := costFld (costF d)) t.tw (fun f i => by
      have h2 := fldL_len (pt := partF ver fx d) (c := costF d) (f := f) (ver := ver) (fx := fx) (t := t.at i) (fun t => partF_len d f.sub t)
      have h3 := tw_at t i
      exact Nat.le_trans h2 (Nat.mul_le_mul_left _ h3)) flds 0
    have h4 : (if fx = true then tagsL t else []).length ≤ 4 * t.tw := by
      split
      · exact tagsL_len t
      · simp
    simp only [acts]
    omega
end Go.Kx

/- A tree in memory: what the cells of an argument say; taken out of the reading of a row. -/
namespace Go.Kx
open Go.ChangeShapes Go.WideShapes Go.ChangeAt Go.RowKit
set_option linter.unusedSimpArgs false
set_option linter.unusedVariables false

/-- Octets of a slice; what holds them lies below B. -/
def SlIs (w : World) (B : Nat) (l : List UInt8) (v : Value) : Prop :=
  ∃ a c, v = .slice a l.length c ∧ l.length ≤ c ∧ c ≤ maxLen ∧ (a = none → l = []) ∧ ∀ a', a = some a' → Oct w a' l ∧ (l ≠ [] → a'.block < B)
/-- Tags of a slice. -/
def TgIs (w : World) (B : Nat) (u : List (UInt32 × List UInt8)) (v : Value) : Prop :=
  ∃ a c, v = .slice a u.length c ∧ u.length ≤ c ∧ c ≤ maxLen ∧ (a = none → u = []) ∧ ∀ a', a = some a' → (u ≠ [] → a'.block < B) ∧
    ∀ i x, u[i]? = some x → ∃ vv, w.cell? (a'.add (i * 2)) = some (.int .u32 (x.1.toNat : Int)) ∧ w.cell? (a'.add (i * 2 + 1)) = some vv ∧ SlIs w B x.2 vv
/-- Parts of a slice: five cells each. -/
def LsIs (w : World) (B : Nat) (l : List Tr) (cells : Nat → List Value) (v : Value) : Prop :=
  ∃ a c, v = .slice a l.length c ∧ l.length ≤ c ∧ c ≤ maxLen ∧ (a = none → l = []) ∧ ∀ a', a = some a' → (l ≠ [] → a'.block < B) ∧
    ∀ i u, l[i]? = some u → (cells i).length = 5 ∧ ∀ j x, (cells i)[j]? = some x → w.cell? (a'.add (i * 5 + j)) = some x
/-- The cells of a part. -/
inductive TrIs (w : World) (B : Nat) : Tr → List Value → Prop
  | mk {n : Int} {s : List UInt8} {null : Bool} {l : List Tr} {u : List (UInt32 × List UInt8)} {vs vl vu : Value} (cells : Nat → List Value) (hn : IntKind.i64.wrap n = n) (hs : SlIs w B s vs)
      (hl : LsIs w B l cells vl) (hc : ∀ i u, l[i]? = some u → TrIs w B u (cells i)) (hu : TgIs w B u vu) : TrIs w B (.mk n s null l u) [.int .i64 n, vs, .bool null, vl, vu]

theorem cell_keep {w w' : World} {a : Addr} (h : w'.heap[a.block]? = w.heap[a.block]?) : w'.cell? a = w.cell? a := by
  simp only [World.cell?, h]
theorem add_block (a : Addr) (i : Nat) : (a.add i).block = a.block := by unfold Addr.add; split <;> rfl
theorem nil_of_get {α : Type} {l : List α} {i : Nat} {x : α} (h : l[i]? = some x) : l ≠ [] := fun e => by rw [e] at h; simp at h
theorem Oct.keepB {w w' : World} {B : Nat} {a : Addr} {l : List UInt8} (h : Oct w a l) (hb : l ≠ [] → a.block < B) (hk : ∀ k, k < B → w'.heap[k]? = w.heap[k]?) : Oct w' a l := by
  intro i u hu
  exact (cell_keep (w := w) (w' := w') (by rw [add_block]; exact hk _ (hb (nil_of_get hu)))).trans (h i u hu)
theorem SlIs.keep {w w' : World} {B : Nat} {l : List UInt8} {v : Value} (h : SlIs w B l v) (hk : ∀ k, k < B → w'.heap[k]? = w.heap[k]?) : SlIs w' B l v := by
  obtain ⟨a, c, h1, h2, h3, h4, h5⟩ := h
  exact ⟨a, c, h1, h2, h3, h4, fun a' ha => ⟨(h5 a' ha).1.keepB (h5 a' ha).2 hk, (h5 a' ha).2⟩⟩
theorem TgIs.keep {w w' : World} {B : Nat} {u : List (UInt32 × List UInt8)} {v : Value} (h : TgIs w B u v) (hk : ∀ k, k < B → w'.heap[k]? = w.heap[k]?) : TgIs w' B u v := by
  obtain ⟨a, c, h1, h2, h3, h4, h5⟩ := h
  refine ⟨a, c, h1, h2, h3, h4, fun a' ha => ⟨(h5 a' ha).1, fun i x hx => ?_⟩⟩
  obtain ⟨g1, g2⟩ := h5 a' ha
  obtain ⟨vv, e1, e2, e3⟩ := g2 i x hx
  have hb := hk _ (g1 (nil_of_get hx))
  exact ⟨vv, (cell_keep (by rw [add_block]; exact hb)).trans e1, (cell_keep (by rw [add_block]; exact hb)).trans e2, e3.keep hk⟩
theorem LsIs.keep {w w' : World} {B : Nat} {l : List Tr} {cells : Nat → List Value} {v : Value} (h : LsIs w B l cells v) (hk : ∀ k, k < B → w'.heap[k]? = w.heap[k]?) : LsIs w' B l cells v := by
  obtain ⟨a, c, h1, h2, h3, h4, h5⟩ := h
  refine ⟨a, c, h1, h2, h3, h4, fun a' ha => ⟨(h5 a' ha).1, fun i u hu => ?_⟩⟩
  obtain ⟨g1, g2⟩ := h5 a' ha
  have hb := hk _ (g1 (nil_of_get hu))
  exact ⟨(g2 i u hu).1, fun j x hx => (cell_keep (by rw [add_block]; exact hb)).trans ((g2 i u hu).2 j x hx)⟩
theorem TrIs.keep {w w' : World} {B : Nat} (hk : ∀ k, k < B → w'.heap[k]? = w.heap[k]?) {t : Tr} {cs : List Value} (h : TrIs w B t cs) : TrIs w' B t cs := by
  induction h with
  | mk cells hn hs hl hc hu ih => exact .mk cells hn (hs.keep hk) (hl.keep hk) ih (hu.keep hk)

/-! ### Out of a reading -/
def structOf (P : Program) (t : TypeId) : Option (List (TypeId × Nat)) := match P.underlying t with | some (.struct fs) => some (fs.toList.map fun f => (f.type, f.offset)) | _ => none
/-- The types of a tree. -/
structure TreeTy (P : Program) (tT tI tS tB tL tU tG tK u8 : TypeId) : Prop where
  T : structOf P tT = some [(tI, 0), (tS, 1), (tB, 2), (tL, 3), (tU, 4)]
  G : structOf P tG = some [(tK, 0), (tS, 1)]
  I : P.underlying tI = some (.int .i64)
  S : P.underlying tS = some (.slice u8)
  O : P.underlying u8 = some (.int .u8)
  B : P.underlying tB = some .bool
  L : P.underlying tL = some (.slice tT)
  U : P.underlying tU = some (.slice tG)
  K : P.underlying tK = some (.int .u32)
  c8 : P.cellsOf u8 = 1
  cT : P.cellsOf tT = 5
  cG : P.cellsOf tG = 2
  cI : P.cellsOf tI = 1
  cS : P.cellsOf tS = 1
  cB : P.cellsOf tB = 1
  cL : P.cellsOf tL = 1
  cU : P.cellsOf tU = 1
  cK : P.cellsOf tK = 1

/-- How a bulk is counted. -/
structure BulkIs {H : Type} (bulk : DataW H → Nat) (all : List (DataW H) → Nat) : Prop where
  lit : ∀ k n, bulk (.lit (.int k n)) = 1
  bool : ∀ b, bulk (.lit (.bool b)) = 1
  nil : bulk .nil = 1
  slice : ∀ e r, bulk (.slice e r) = all e + all r + 1
  agg : ∀ p, bulk (.agg p) = all p + 1
  none : all [] = 0
  cons : ∀ d r, all (d :: r) = bulk d + all r

section
variable {H : Type} {enc : TypeId × Value → H} {P : Program} {w : World}

theorem struct_parts {t : TypeId} {fs : List (TypeId × Nat)} {fuel : Nat} {cs : List Value} {x : DataW H × List MemPlace} (hs : structOf P t = some fs) (h : DataW.trod enc P w 0 (fun _ => true) true fuel t cs = some x) :
    ∃ (xs : List (DataW H × List MemPlace)) (n : Nat), fuel = n + 1 ∧ x.1 = .agg (xs.map (·.1)) ∧ cs.length = P.cellsOf t ∧ xs.length = fs.length ∧
      ∀ (i : Nat) (f : TypeId × Nat), fs[i]? = some f → DataW.trod enc P w 0 (fun _ => true) true n f.1 ((cs.drop f.2).take (P.cellsOf f.1)) = xs[i]? := by
  unfold structOf at hs
  split at hs
  · rename_i ff hu
    simp only [Option.some.injEq] at hs
    subst hs
    obtain ⟨xs, n, h1, h2, h3, h4, h5⟩ := DataW.trod_struct hu h
    refine ⟨xs, n, h1, by rw [h2], h3, by simpa using h4, fun i f hf => ?_⟩
    simp only [List.getElem?_map, Option.map_eq_some_iff] at hf
    obtain ⟨f', hf', rfl⟩ := hf
    exact h5 i f' (by simpa using hf')
  · cases hs

theorem all_lits {bulk : DataW H → Nat} {all : List (DataW H) → Nat} (hb : BulkIs bulk all) (k : IntKind) : ∀ zs : List Int, all (ChangeShapes.lits k zs) = zs.length
  | [] => hb.none
  | z :: zs => by
    have := all_lits hb k zs
    simp only [ChangeShapes.lits, List.map_cons, hb.cons, hb.lit, List.length_cons] at *
    omega

theorem bytes_of {tS u8 : TypeId} {fuel : Nat} {v : Value} {x : DataW H × List MemPlace} {bulk : DataW H → Nat} {all : List (DataW H) → Nat} (hb : BulkIs bulk all) (hS : P.underlying tS = some (.slice u8)) (hO : P.underlying u8 = some (.int .u8)) (hc : P.cellsOf u8 = 1)
    (h : DataW.trod enc P w 0 (fun _ => true) true fuel tS [v] = some x) : ∃ l, SlIs w w.heap.size l v ∧ l.length + 1 ≤ bulk x.1 := by
  rcases open_ints hS hO hc h with ⟨hcs, hx⟩ | ⟨a, len, cap, zs, hcs, _, hl, hm, hz, hx, hcell, hwz⟩
  · simp only [List.cons.injEq, and_true] at hcs
    exact ⟨[], ⟨none, 0, by rw [hcs]; rfl, by simp, by simp [maxLen], fun _ => rfl, fun _ e => by cases e⟩, by rw [hx, hb.nil]; simp⟩
  · simp only [List.cons.injEq, and_true] at hcs
    simp only [if_true] at hz
    have key : ∀ i u, ((zs.take len).map fun z => UInt8.ofNat z.toNat)[i]? = some u → w.cell? (a.add i) = some (bv u) := fun i u hu => by
      simp only [List.getElem?_map, Option.map_eq_some_iff] at hu
      obtain ⟨z, hzi, rfl⟩ := hu
      have hi : i < zs.length ∧ zs[i]? = some z := by
        rw [List.getElem?_take] at hzi
        split at hzi
        · exact ⟨(List.getElem?_eq_some_iff.1 hzi).1, hzi⟩
        · cases hzi
      rw [hcell i hi.1]
      have hb : 0 ≤ z ∧ z ≤ 255 := by
        have h5 := hwz z (List.mem_of_getElem? hi.2)
        have e1 : IntKind.u8.min = 0 := rfl
        have e2 : IntKind.u8.max = 255 := rfl
        simpa [Lit.wf, e1, e2] using h5
      have e3 : zs.getD i 0 = z := by simp [List.getD, hi.2]
      rw [e3, bv]
      congr 2
      simp
      omega
    have hlen : ((zs.take len).map fun z => UInt8.ofNat z.toNat).length = len := by simp; omega
    refine ⟨(zs.take len).map fun z => UInt8.ofNat z.toNat, ⟨some a, cap, by rw [hcs, hlen], by omega, hm, (fun e => by cases e), fun a' e => ?_⟩, ?_⟩
    · cases e
      refine ⟨key, fun hne => ?_⟩
      cases hl2 : (zs.take len).map fun z => UInt8.ofNat z.toNat with
      | nil => exact absurd hl2 hne
      | cons u r =>
        have := key 0 u (by rw [hl2]; rfl)
        rw [Addr.add_zero'] at this
        exact World.block_lt_of_cell? _ _ this
    · rw [hx]
      simp only [hb.slice, all_lits hb]
      simp [Nat.min_def]; try omega

theorem tag_of {tT tI tS tB tL tU tG tK u8 : TypeId} (Y : TreeTy P tT tI tS tB tL tU tG tK u8) {fuel : Nat} {cs : List Value} {x : DataW H × List MemPlace} {bulk : DataW H → Nat} {all : List (DataW H) → Nat} (hb : BulkIs bulk all)
    (h : DataW.trod enc P w 0 (fun _ => true) true fuel tG cs = some x) : ∃ (k : UInt32) (l : List UInt8) (vv : Value), cs = [.int .u32 (k.toNat : Int), vv] ∧ SlIs w w.heap.size l vv ∧ 3 + l.length ≤ bulk x.1 := by
  obtain ⟨xs, n, _, hx, hlen, hxl, hf⟩ := struct_parts Y.G h
  rw [Y.cG] at hlen
  match cs, hlen with
  | [c0, c1], _ =>
    match xs, hxl with
    | [x0, x1], _ =>
      have h0 := hf 0 (tK, 0) rfl
      have h1 := hf 1 (tS, 1) rfl
      simp only [Y.cK, Y.cS, List.drop_zero, List.take_succ_cons, List.take_zero, List.drop_succ_cons, List.getElem?_cons_zero, List.getElem?_cons_succ] at h0 h1
      obtain ⟨k, hk, hkx, hkw⟩ := DataW.trod_int Y.K h0
      obtain ⟨l, hl, hlb⟩ := bytes_of hb Y.S Y.O Y.c8 h1
      simp only [List.cons.injEq, and_true] at hk
      have hr : 0 ≤ k ∧ k ≤ 4294967295 := by
        have e1 : IntKind.u32.min = 0 := rfl
        have e2 : IntKind.u32.max = 4294967295 := rfl
        simpa [Lit.wf, e1, e2] using hkw
      refine ⟨UInt32.ofNat k.toNat, l, c1, ?_, hl, ?_⟩
      · rw [hk]
        congr 2
        simp only [UInt32.toNat_ofNat']
        omega
      · rw [hx]
        simp only [List.map_cons, List.map_nil, hb.agg, hb.cons, hb.none, hkx, hb.lit]
        omega

theorem choose_list {α : Type} {p : Nat → α → Prop} : ∀ (n : Nat), (∀ i, i < n → ∃ x, p i x) → ∃ l : List α, l.length = n ∧ ∀ i x, l[i]? = some x → p i x
  | 0, _ => ⟨[], rfl, fun i x h => by simp at h⟩
  | n + 1, h => by
    obtain ⟨l, hl, hp⟩ := choose_list n fun i hi => h i (by omega)
    obtain ⟨x, hx⟩ := h n (by omega)
    refine ⟨l ++ [x], by simp [hl], fun i y hy => ?_⟩
    by_cases hi : i < l.length
    · rw [List.getElem?_append_left hi] at hy; exact hp i y hy
    · rw [List.getElem?_append_right (by omega)] at hy
      have h0 : i - l.length = 0 := by
        rcases Nat.eq_zero_or_pos (i - l.length) with h0 | h0
        · exact h0
        · rw [List.getElem?_eq_none (by simp; omega)] at hy; cases hy
      rw [h0] at hy
      simp only [List.getElem?_cons_zero, Option.some.injEq] at hy
      subst hy
      rw [show i = n by omega]
      exact hx

theorem sum_bound {α : Type} {bulk : DataW H → Nat} {all : List (DataW H) → Nat} (hb : BulkIs bulk all) {k : α → Nat} {tot : List α → Nat} (h0 : tot [] = 0) (h1 : ∀ x r, tot (x :: r) = k x + tot r) : ∀ {l : List α} {es : List (DataW H × List MemPlace)}, l.length = es.length → (∀ (i : Nat) (x : α) (y : DataW H × List MemPlace), l[i]? = some x → es[i]? = some y → k x ≤ bulk y.1) → tot l ≤ all (es.map (·.1))
  | [], [], _, _ => by rw [h0]; omega
  | x :: l, y :: es, hl, h => by
    have := sum_bound hb h0 h1 (l := l) (es := es) (by simpa using hl) fun i a b ha hb' => h (i + 1) a b (by simpa using ha) (by simpa using hb')
    have h2 := h 0 x y rfl rfl
    simp only [List.map_cons, hb.cons, h1]
    omega

theorem tags_of {tT tI tS tB tL tU tG tK u8 : TypeId} (Y : TreeTy P tT tI tS tB tL tU tG tK u8) {fuel : Nat} {v : Value} {x : DataW H × List MemPlace} {bulk : DataW H → Nat} {all : List (DataW H) → Nat} (hb : BulkIs bulk all)
    (h : DataW.trod enc P w 0 (fun _ => true) true fuel tU [v] = some x) : ∃ u, TgIs w w.heap.size u v ∧ twU u + 1 ≤ bulk x.1 := by
  rcases DataW.trod_slice Y.U h with ⟨hcs, hx⟩ | ⟨a, len, cap, elems, rest, n, _, hcs, hx, _, hl, hm, hel, he, _, _⟩
  · simp only [List.cons.injEq, and_true] at hcs
    exact ⟨[], ⟨none, 0, by rw [hcs]; rfl, by simp, by simp [maxLen], fun _ => rfl, fun _ e => by cases e⟩, by rw [hx, hb.nil]; simp [twU]⟩
  · simp only [List.cons.injEq, and_true] at hcs
    obtain ⟨u, hul, hu⟩ := choose_list (p := fun i (x : UInt32 × List UInt8) => (∃ vv, w.cell? (a.add (i * 2)) = some (.int .u32 (x.1.toNat : Int)) ∧ w.cell? (a.add (i * 2 + 1)) = some vv ∧ SlIs w w.heap.size x.2 vv) ∧ ∀ y, elems[i]? = some y → 3 + x.2.length ≤ bulk y.1) len fun i hi => by
      have h1 := he i hi
      obtain ⟨y, hy⟩ : ∃ y, elems[i]? = some y := ⟨_, List.getElem?_eq_getElem (by omega)⟩
      rw [hy, Y.cG] at h1
      obtain ⟨cs', hc1, hc2⟩ := Option.bind_eq_some_iff.1 h1
      obtain ⟨k, l, vv, hcs', hsl, hbk⟩ := tag_of Y hb hc2
      obtain ⟨_, _, hcell⟩ := World.cells?_some hc1
      have c0 := hcell 0 (by omega)
      have c1 := hcell 1 (by omega)
      rw [hcs'] at c0 c1
      rw [Addr.add_zero'] at c0
      rw [Addr.add_add] at c1
      exact ⟨(k, l), ⟨vv, c0, c1, hsl⟩, fun y' hy' => by rw [hy] at hy'; cases hy'; exact hbk⟩
    refine ⟨u, ⟨some a, cap, by rw [hcs, hul], by omega, hm, (fun e => by cases e), fun a' e => ?_⟩, ?_⟩
    · cases e
      refine ⟨fun hne => ?_, fun i x hx => (hu i x hx).1⟩
      cases u with
      | nil => exact absurd rfl hne
      | cons z r =>
        obtain ⟨⟨vv, c0, _⟩, _⟩ := hu 0 z rfl
        simp only [Nat.zero_mul, Addr.add_zero'] at c0
        exact World.block_lt_of_cell? _ _ c0
    · have hs := sum_bound hb (k := fun x : UInt32 × List UInt8 => 3 + x.2.length) (tot := twU) rfl (fun _ _ => rfl) (l := u) (es := elems) (by omega) fun i x y hx hy => (hu i x hx).2 y hy
      rw [hx]
      simp only [hb.slice]
      omega

theorem tree_of {tT tI tS tB tL tU tG tK u8 : TypeId} (Y : TreeTy P tT tI tS tB tL tU tG tK u8) {bulk : DataW H → Nat} {all : List (DataW H) → Nat} (hb : BulkIs bulk all) : ∀ (fuel : Nat) {cs : List Value} {x : DataW H × List MemPlace},
    DataW.trod enc P w 0 (fun _ => true) true fuel tT cs = some x → ∃ t, TrIs w w.heap.size t cs ∧ t.tw ≤ bulk x.1 := by
  intro fuel
  induction fuel using Nat.strongRecOn with
  | ind fuel ih =>
    intro cs x h
    obtain ⟨xs, n, hfn, hx, hlen, hxl, hf⟩ := struct_parts Y.T h
    rw [Y.cT] at hlen
    match cs, hlen with
    | [c0, c1, c2, c3, c4], _ =>
      match xs, hxl with
      | [x0, x1, x2, x3, x4], _ =>
        have h0 := hf 0 (tI, 0) rfl
        have h1 := hf 1 (tS, 1) rfl
        have h2 := hf 2 (tB, 2) rfl
        have h3 := hf 3 (tL, 3) rfl
        have h4 := hf 4 (tU, 4) rfl
        simp only [Y.cI, Y.cS, Y.cB, Y.cL, Y.cU, List.drop_zero, List.take_succ_cons, List.take_zero, List.drop_succ_cons, List.getElem?_cons_zero, List.getElem?_cons_succ] at h0 h1 h2 h3 h4
        obtain ⟨N, hN, hNx, hNw⟩ := DataW.trod_int Y.I h0
        obtain ⟨s, hs, hsb⟩ := bytes_of hb Y.S Y.O Y.c8 h1
        obtain ⟨b, hB, hBx⟩ := DataW.trod_bool Y.B h2
        obtain ⟨u, hu, hub⟩ := tags_of Y hb h4
        simp only [List.cons.injEq, and_true] at hN hB
        subst hN hB
        have hwrap : IntKind.i64.wrap N = N := by
          have e1 : IntKind.i64.min = -9223372036854775808 := rfl
          have e2 : IntKind.i64.max = 9223372036854775807 := rfl
          have : -9223372036854775808 ≤ N ∧ N ≤ 9223372036854775807 := by simpa [Lit.wf, e1, e2] using hNw
          rw [IntKind.wrap_i64]; omega
        have hxall : bulk x.1 = 1 + bulk x1.1 + 1 + bulk x3.1 + bulk x4.1 + 1 := by
          rw [hx]
          simp only [List.map_cons, List.map_nil, hb.agg, hb.cons, hb.none, hNx, hBx, hb.lit, hb.bool]
          omega
        rcases DataW.trod_slice Y.L h3 with ⟨hcs, hx3⟩ | ⟨a, len, cap, elems, rest, n', hn', hcs, hx3, _, hl, hm, hel, he, _, _⟩
        · simp only [List.cons.injEq, and_true] at hcs
          subst hcs
          refine ⟨.mk N s b [] u, .mk (fun _ => []) hwrap hs ⟨none, 0, rfl, by simp, by simp [maxLen], fun _ => rfl, fun _ e => by cases e⟩ (fun i u h => by simp at h) hu, ?_⟩
          rw [hx3, hb.nil] at hxall
          simp only [Tr.tw, twL]
          omega
        · simp only [List.cons.injEq, and_true] at hcs
          subst hcs
          obtain ⟨ys, hyl, hy⟩ := choose_list (p := fun i (y : Tr × List Value) => (∀ j x, y.2[j]? = some x → w.cell? (a.add (i * 5 + j)) = some x) ∧ y.2.length = 5 ∧ TrIs w w.heap.size y.1 y.2 ∧ ∀ e, elems[i]? = some e → y.1.tw ≤ bulk e.1) len fun i hi => by
            have h1 := he i hi
            obtain ⟨y, hy⟩ : ∃ y, elems[i]? = some y := ⟨_, List.getElem?_eq_getElem (by omega)⟩
            rw [hy, Y.cT] at h1
            obtain ⟨cs', hc1, hc2⟩ := Option.bind_eq_some_iff.1 h1
            obtain ⟨t, ht, htb⟩ := ih n' (by omega) hc2
            obtain ⟨_, hcl, hcell⟩ := World.cells?_some hc1
            refine ⟨(t, cs'), fun j x hx => ?_, hcl, ht, fun e he' => by rw [hy] at he'; cases he'; exact htb⟩
            have hj : j < 5 := by
              have := (List.getElem?_eq_some_iff.1 hx).1
              simp only [hcl] at this
              exact this
            have := hcell j hj
            rw [Addr.add_add] at this
            rw [this]; exact hx
          refine ⟨.mk N s b (ys.map (·.1)) u, .mk (fun i => (ys.getD i (.zero, [])).2) hwrap hs ⟨some a, cap, by simp [hyl], by simp; omega, hm, (fun e => by cases e), fun a' e => ?_⟩ (fun i u hu => ?_) hu, ?_⟩
          · cases e
            refine ⟨fun hne => ?_, fun i u hu => ?_⟩
            · cases ys with
              | nil => exact absurd rfl hne
              | cons z r =>
                obtain ⟨g1, g2, _⟩ := hy 0 z rfl
                obtain ⟨q0, hq0⟩ : ∃ q, z.2[0]? = some q := ⟨_, List.getElem?_eq_getElem (by omega)⟩
                have := g1 0 q0 hq0
                simp only [Nat.zero_mul, Nat.add_zero, Addr.add_zero'] at this
                exact World.block_lt_of_cell? _ _ this
            · simp only [List.getElem?_map, Option.map_eq_some_iff] at hu
              obtain ⟨z, hz, rfl⟩ := hu
              obtain ⟨g1, g2, _⟩ := hy i z hz
              have e : ys.getD i (.zero, []) = z := by simp [List.getD, hz]
              simp only [e]
              exact ⟨g2, g1⟩
          · simp only [List.getElem?_map, Option.map_eq_some_iff] at hu
            obtain ⟨z, hz, rfl⟩ := hu
            obtain ⟨_, _, g3, _⟩ := hy i z hz
            have e : ys.getD i (.zero, []) = z := by simp [List.getD, hz]
            simp only [e]
            exact g3
          · have hs2 := sum_bound hb (k := fun x : Tr => x.tw) (tot := twL) rfl (fun _ _ => rfl) (l := ys.map (·.1)) (es := elems) (by simp; omega) fun i t e ht' he' => by
              simp only [List.getElem?_map, Option.map_eq_some_iff] at ht'
              obtain ⟨z, hz, rfl⟩ := ht'
              exact (hy i z hz).2.2.2 e he'
            have h3b : bulk x3.1 = all (elems.map (·.1)) + all (rest.map (·.1)) + 1 := by rw [hx3]; exact hb.slice _ _
            simp only [Tr.tw]
            omega
end
end Go.Kx
