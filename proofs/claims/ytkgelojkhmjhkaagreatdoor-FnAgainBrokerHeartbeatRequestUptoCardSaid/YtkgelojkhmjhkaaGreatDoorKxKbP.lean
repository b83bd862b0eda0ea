/- The message BrokerHeartbeatRequest: what the reference writes of it. -/
import Derived.Test.YtkgelojkhmjhkaaGreatDoorKxKbS
import Derived.Test.YtkgelojkhmjhkaaGreatDoorKxRef
namespace Go.Proofs.YtkgelojkhmjhkaaGreatDoor.BrokerHeartbeatRequest
open Go.Kx Go.RowKit Go.Proofs
set_option maxRecDepth 100000
set_option linter.unusedSimpArgs false
set_option linter.unusedVariables false

/-- The fields, as the reference has them. -/
def fl0 : List Fld := [.mk 3 0 (-1) (-1) (-1) 0 0 [], .mk 4 0 (-1) (-1) (-1) (-1) 0 [], .mk 4 0 (-1) (-1) (-1) 0 0 [], .mk 0 0 (-1) (-1) (-1) 0 0 [], .mk 0 0 (-1) (-1) (-1) 0 0 [], .mk 11 0 (-1) (-1) 0 0 7 [], .mk 11 0 (-1) (-1) 1 0 7 []]
abbrev pt0 : List Fld → Tr → List UInt8 := fun _ _ => []
def mOf (ver : Int) (t : Tr) : List V := [.i ver, valV .i32 false (t.at 0), valV .i64 false (t.at 1), valV .i64 false (t.at 2), valV .bool false (t.at 3), valV .bool false (t.at 4)]
/-- A list of uuids that a tree says. -/
def lOf (t : Tr) : V := if 0 < t.l.length then .arr ((t.l.take 32767).map (valV .uuid false)) else .arrN
def tOf (t : Tr) : List (Nat × List UInt8) := (unkK 2 t.u).map fun x => (x.1, wholeL x.2)
theorem known0 : knownF fl0 = 2 := by decide
theorem acts0 {ver : Int} (h : 0 ≤ ver) : acts ver fl0 = [(.mk 3 0 (-1) (-1) (-1) 0 0 [], 0), (.mk 4 0 (-1) (-1) (-1) (-1) 0 [], 1), (.mk 4 0 (-1) (-1) (-1) 0 0 [], 2), (.mk 0 0 (-1) (-1) (-1) 0 0 [], 3), (.mk 0 0 (-1) (-1) (-1) 0 0 [], 4)] := by
  simp [acts, fl0, hasL, Fld.tag, Fld.lo, Fld.hi, h]
theorem fld_val {kind lo hi tag dflt of : Int} {sub : List Fld} {ver : Int} {t : Tr} (h1 : kind ≠ 11) (h2 : kind ≠ 10) : fldL pt0 (.mk kind lo hi (-1) tag dflt of sub) ver true t = valL pt0 kind sub false true t := by
  unfold fldL
  simp only [Fld.kind, Fld.null, Fld.sub]
  rw [if_neg h1, if_neg (fun h => h2 h.1)]
  congr 1
  simp [nullL, canNull, Fld.null]
theorem fld_list {tag dflt : Int} {ver : Int} {t : Tr} {nul : Bool} (h0 : 0 < t.l.length) : fldL pt0 (.mk 11 0 (-1) (-1) tag dflt 7 []) ver true t = bodyU nul (lOf t) := by
  have hn : nullL (.mk 11 0 (-1) (-1) tag dflt 7 []) ver t = false := by simp [nullL, canNull, Fld.null]
  unfold fldL bodyU lOf
  rw [if_pos (show Fld.kind _ = 11 from rfl), hn, if_pos h0]
  simp only [thingsL, Bool.false_eq_true, if_false, V.elems, Fld.of, Fld.sub]
  have hl : (t.l.take 32767).length ≤ 32767 := by rw [List.length_take]; omega
  have e1 : countedL true false (t.l.take 32767).length 4 = encLen true nul (.arr ((t.l.take 32767).map (valV .uuid false))) := by
    unfold countedL encLen
    simp only [if_true, Bool.false_eq_true, if_false, V.isNil, Bool.and_false, V.elems, List.length_map]
    rw [word_eq (by omega)]
  rw [e1, List.flatMap_map]
  congr 1
theorem lOf_len (t : Tr) : (lOf t).elems.length ≤ 32767 ∧ (0 < t.l.length ↔ 0 < (lOf t).elems.length) ∧ (0 < t.l.length ↔ (lOf t).isNil = false) ∧ ∀ x ∈ (lOf t).elems, ∃ l, x = .u l ∧ l.length = 16 := by
  unfold lOf
  split
  · rename_i h
    refine ⟨by simp [V.elems, List.length_take]; omega, ⟨fun _ => by simp [V.elems, List.length_take]; omega, fun _ => h⟩, ⟨fun _ => rfl, fun _ => h⟩, fun x hx => ?_⟩
    obtain ⟨y, _, rfl⟩ := List.mem_map.1 hx
    exact ⟨_, rfl, uuidL_len _⟩
  · rename_i h
    exact ⟨by simp [V.elems], ⟨fun h' => absurd h' h, fun h' => by simp [V.elems] at h'⟩, ⟨fun h' => absurd h' h, fun h' => by simp [V.isNil] at h'⟩, fun x hx => by simp [V.elems] at hx⟩
theorem tOf_props (t : Tr) : encEach (tOf t) = (unkK 2 t.u).flatMap tagL ∧ GoodT (tOf t) ∧ (∀ x ∈ tOf t, 2 ≤ x.1) ∧ (tOf t).length ≤ 32767 ∧ (tOf t).length = (unkK 2 t.u).length := by
  obtain ⟨h1, h2, h3⟩ := unkK_props 2 t.u
  have hr : Rising (tOf t) := rising_map (g := fun x => (x.1, wholeL x.2)) (fun _ => rfl) h1
  have hl : (tOf t).length = (unkK 2 t.u).length := List.length_map _
  refine ⟨?_, ⟨rising_nodup hr, fun x hx => ?_, by omega⟩, fun x hx => ?_, by omega, hl⟩
  · unfold encEach
    rw [sortTags_of_rising hr]
    unfold tOf
    rw [List.flatMap_map]
    refine congrArg (fun f => List.flatMap f (unkK 2 t.u)) (funext fun x => ?_)
    simp only [encTag, tagL]
    rw [word_eq (by have := wholeL_len x.2; omega)]
  · obtain ⟨y, hy, rfl⟩ := List.mem_map.1 hx
    exact ⟨(h2 y hy).2, by have := wholeL_len y.2; show (wholeL y.2).length < _; omega⟩
  · obtain ⟨y, hy, rfl⟩ := List.mem_map.1 hx
    exact (h2 y hy).1
theorem knL0 (ver : Int) (t : Tr) : knL ver fl0 t 2 = (keysOf (lOf (t.at 5)) (lOf (t.at 6))).map fun k => (k, tagB (lOf (t.at 5)) (lOf (t.at 6)) k) := by
  obtain ⟨_, hS, _, _⟩ := lOf_len (t.at 5)
  obtain ⟨_, _, hF, _⟩ := lOf_len (t.at 6)
  have e0 : knJ ver fl0 t 0 = if 0 < (t.at 5).l.length then [(0, bodyU false (lOf (t.at 5)))] else [] := by
    by_cases h : 0 < (t.at 5).l.length
    · rw [if_pos h]
      simp [knJ, fl0, knT, Fld.tag, h, fld_list (nul := false) h]
    · rw [if_neg h]
      simp [knJ, fl0, knT, Fld.tag, h]
  have e1 : knJ ver fl0 t 1 = if 0 < (t.at 6).l.length then [(1, bodyU true (lOf (t.at 6)))] else [] := by
    by_cases h : 0 < (t.at 6).l.length
    · rw [if_pos h]
      simp [knJ, fl0, knT, Fld.tag, h, fld_list (nul := true) h]
    · rw [if_neg h]
      simp [knJ, fl0, knT, Fld.tag, h]
  have e : knL ver fl0 t 2 = knJ ver fl0 t 0 ++ knJ ver fl0 t 1 := by
    unfold knL
    rw [show List.range 2 = [0, 1] from rfl]
    simp
  rw [e, e0, e1]
  unfold keysOf
  by_cases p : 0 < (t.at 5).l.length <;> by_cases q : 0 < (t.at 6).l.length
  · rw [if_pos p, if_pos q, if_pos (hS.1 p), if_pos (hF.1 q)]; rfl
  · rw [if_pos p, if_neg q, if_pos (hS.1 p), if_neg (fun h => q (hF.2 h))]; rfl
  · rw [if_neg p, if_pos q, if_neg (fun h => p (hS.2 h)), if_pos (hF.1 q)]; rfl
  · rw [if_neg p, if_neg q, if_neg (fun h => p (hS.2 h)), if_neg (fun h => q (hF.2 h))]; rfl
theorem fm_congr {α β : Type} {f g : α → List β} : ∀ {l : List α}, (∀ x ∈ l, f x = g x) → l.flatMap f = l.flatMap g
  | [], _ => rfl
  | x :: l, h => by rw [List.flatMap_cons, List.flatMap_cons, h x (by simp), fm_congr fun y hy => h y (by simp [hy])]
/-- What the reference writes is what the message would write. -/
theorem ref_is {ver : Int} (h0 : 0 ≤ ver) (t : Tr) : partK ver fl0 t = encB ver (mOf ver t) (lOf (t.at 5)) (lOf (t.at 6)) (tOf t) ∧ GoodB ver (mOf ver t) (lOf (t.at 5)) (lOf (t.at 6)) (tOf t) := by
  obtain ⟨l5, s5, n5, u5⟩ := lOf_len (t.at 5)
  obtain ⟨l6, s6, n6, u6⟩ := lOf_len (t.at 6)
  obtain ⟨tE, tG, tK, tN, tL⟩ := tOf_props t
  have hkl := keys_len (lOf (t.at 5)) (lOf (t.at 6))
  have v0 := valV_enc (pt := pt0) (w := .i32) (kind := 3) (sub := []) (null := false) (fx := true) (t := t.at 0) rfl (fun h => by cases h)
  have v1 := valV_enc (pt := pt0) (w := .i64) (kind := 4) (sub := []) (null := false) (fx := true) (t := t.at 1) rfl (fun h => by cases h)
  have v2 := valV_enc (pt := pt0) (w := .i64) (kind := 4) (sub := []) (null := false) (fx := true) (t := t.at 2) rfl (fun h => by cases h)
  have v3 := valV_enc (pt := pt0) (w := .bool) (kind := 0) (sub := []) (null := false) (fx := true) (t := t.at 3) rfl (fun h => by cases h)
  have v4 := valV_enc (pt := pt0) (w := .bool) (kind := 0) (sub := []) (null := false) (fx := true) (t := t.at 4) rfl (fun h => by cases h)
  refine ⟨?_, rfl, ?_, u5, u6, l5, l6, fun h => s6.1 (n6.2 h), tG, tK, tN⟩
  · unfold partK encB
    rw [known0, knL0, acts0 h0, tE]
    congr 1
    · simp only [List.flatMap_cons, List.flatMap_nil, List.append_nil]
      rw [fld_val (by decide) (by decide), fld_val (by decide) (by decide), fld_val (by decide) (by decide), fld_val (by decide) (by decide), fld_val (by decide) (by decide), ← v0.1, ← v1.1, ← v2.1, ← v3.1, ← v4.1]
      simp only [sch6, enc, Vc.ok, if_true, List.append_nil]
      rfl
    · rw [List.length_map, ← tL, word_eq (by omega), List.flatMap_map]
      congr 1
      congr 1
      refine fm_congr fun k hk => ?_
      simp only [tagN, tagE, encTag]
      rw [word_eq]
      rcases keys_mem hk with ⟨rfl, _⟩ | ⟨rfl, _⟩
      · exact body_short u5 l5
      · exact body_short u6 l6
  · simp only [sch6, Go.Kx.Good]
    exact ⟨fun _ => v0.2, fun _ => v1.2, fun _ => v2.2, fun _ => v3.2, fun _ => v4.2, trivial⟩
theorem wsum_filter (p : Nat × List UInt8 → Bool) : ∀ l : List (Nat × List UInt8), wsum (l.filter p) ≤ wsum l
  | [] => Nat.le_refl _
  | x :: l => by
    have := wsum_filter p l
    have h3 : wsum (x :: l) = 3 + x.2.length + wsum l := by simp [wsum]
    by_cases h : p x = true
    · rw [List.filter_cons_of_pos h]
      have h4 : wsum (x :: l.filter p) = 3 + x.2.length + wsum (l.filter p) := by simp [wsum]
      omega
    · rw [List.filter_cons_of_neg h]
      omega
theorem wsum_unkK (K : Nat) (u : List (UInt32 × List UInt8)) : wsum (unkK K u) ≤ twU u := by
  have h1 := wsum_fold (((u.take 32767).map fun x => (x.1.toNat, x.2)).filter fun x => decide (K ≤ x.1)) []
  have h5 := wsum_filter (fun x => decide (K ≤ x.1)) ((u.take 32767).map fun x => (x.1.toNat, x.2))
  have h2 : ∀ (n : Nat) (u : List (UInt32 × List UInt8)), wsum ((u.take n).map fun x => (x.1.toNat, x.2)) ≤ twU u := by
    intro n u
    induction u generalizing n with
    | nil => simp [wsum, twU]
    | cons x u ih =>
      cases n with
      | zero => simp [wsum]
      | succ n =>
        have := ih n
        simp only [List.take_succ_cons, List.map_cons, wsum, List.sum_cons, twU] at *
        omega
  have h3 := h2 32767 u
  have h4 : wsum [] = 0 := rfl
  unfold unkK
  omega
theorem ref_short {ver : Int} (h0 : 0 ≤ ver) {t : Tr} (ht : t.tw ≤ 1048576) : (partK ver fl0 t).length < 1073741824 := by
  obtain ⟨l5, _, _, u5⟩ := lOf_len (t.at 5)
  obtain ⟨l6, _, _, u6⟩ := lOf_len (t.at 6)
  obtain ⟨_, h2, h3⟩ := unkK_props 2 t.u
  have h4 := tags_sum fun y hy => (h2 y hy).2
  have h5 := wsum_unkK 2 t.u
  have h7 := t.tw_eq
  have hb : ∀ {nul : Bool} {v : V}, (∀ x ∈ v.elems, ∃ l, x = .u l ∧ l.length = 16) → v.elems.length ≤ 32767 → (bodyU nul v).length ≤ 524277 := by
    intro nul v hu hl
    unfold bodyU
    rw [List.length_append, flat16 hu]
    have := encLen_short nul v
    omega
  have hk := keys_len (lOf (t.at 5)) (lOf (t.at 6))
  have hT : ∀ l : List Nat, (∀ k ∈ l, k = 0 ∨ k = 1) → ((l.map fun k => (k, tagB (lOf (t.at 5)) (lOf (t.at 6)) k)).flatMap tagN).length ≤ l.length * 524300 := by
    intro l
    induction l with
    | nil => intro _; simp
    | cons k l ih =>
      intro h
      have h8 := ih fun j hj => h j (by simp [hj])
      have h9 : (tagB (lOf (t.at 5)) (lOf (t.at 6)) k).length ≤ 524277 := by
        rcases h k (by simp) with rfl | rfl
        · exact hb u5 l5
        · exact hb u6 l6
      have h10 := uvar_le 4 (tagB (lOf (t.at 5)) (lOf (t.at 6)) k).length (by omega)
      have h11 := uvar_le 4 k (by rcases h k (by simp) with rfl | rfl <;> decide)
      simp only [List.map_cons, List.flatMap_cons, List.length_append, List.length_cons, tagN]
      omega
  have hT2 := hT (keysOf (lOf (t.at 5)) (lOf (t.at 6))) fun k hk => (keys_mem hk).imp And.left And.left
  have hT3 : (keysOf (lOf (t.at 5)) (lOf (t.at 6))).length * 524300 ≤ 2 * 524300 := Nat.mul_le_mul_right _ hk
  unfold partK
  rw [known0, knL0, acts0 h0]
  have hv : ∀ (kind : Int) (sub : List Fld) (i : Nat), kind = 3 ∨ kind = 4 ∨ kind = 0 → (valL pt0 kind sub false true (t.at i)).length ≤ 8 := by
    intro kind sub i hk
    rcases hk with rfl | rfl | rfl
    · simp [valL, be_length, widthL]
    · simp [valL, be_length, widthL]
    · simp [valL]
  have a0 := hv 3 [] 0 (by simp)
  have a1 := hv 4 [] 1 (by simp)
  have a2 := hv 4 [] 2 (by simp)
  have a3 := hv 0 [] 3 (by simp)
  have a4 := hv 0 [] 4 (by simp)
  simp only [List.flatMap_cons, List.flatMap_nil, List.append_nil, List.length_append, List.length_map]
  rw [fld_val (by decide) (by decide), fld_val (by decide) (by decide), fld_val (by decide) (by decide), fld_val (by decide) (by decide), fld_val (by decide) (by decide)]
  have h12 := uvar_le 4 ((keysOf (lOf (t.at 5)) (lOf (t.at 6))).length + (unkK 2 t.u).length) (by omega)
  omega

end Go.Proofs.YtkgelojkhmjhkaaGreatDoor.BrokerHeartbeatRequest
