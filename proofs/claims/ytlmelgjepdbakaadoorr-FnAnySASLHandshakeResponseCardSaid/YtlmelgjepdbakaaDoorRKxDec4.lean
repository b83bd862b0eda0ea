/- Whole parts: what was written is read, and written again as the same; what is read can be written. -/
import Derived.Test.YtlmelgjepdbakaaDoorRKxDec3
namespace Go.Kx
open Go.RowKit
set_option linter.unusedSimpArgs false
set_option linter.unusedVariables false

def Sch.keys : Sch → List Nat
  | .nil => []
  | .val _ k _ r => k :: r.keys
  | .arrV _ k _ _ r => k :: r.keys
  | .arrS _ k _ _ _ r => k :: r.keys
  | .opt _ k _ _ r => k :: r.keys
  | .tags k r => k :: r.keys

/-- Lists and parts that may be null are not there yet. -/
def freshB : Sch → V → Bool
  | .nil, _ => true
  | .val _ _ _ r, v => freshB r v
  | .arrV _ k _ _ r, v => (match v.fld k with | .arrN => true | _ => false) && freshB r v
  | .arrS _ k _ _ _ r, v => (match v.fld k with | .arrN => true | _ => false) && freshB r v
  | .opt _ k _ _ r, v => (match v.fld k with | .nstN => true | _ => false) && freshB r v
  | .tags _ r, v => freshB r v
def startB (s : Sch) : V → Bool
  | .st l => s.keys.all (fun k => Nat.blt k l.length) && freshB s (.st l)
  | _ => false
/-- Some field is written at this version. -/
def posB (ver : Int) (fx : Bool) : Sch → Bool
  | .nil => false
  | .val c _ _ r => c.ok ver || posB ver fx r
  | .arrV c _ _ _ r => c.ok ver || posB ver fx r
  | .arrS c _ _ _ _ r => c.ok ver || posB ver fx r
  | .opt c _ _ _ r => c.ok ver || posB ver fx r
  | .tags _ r => fx || posB ver fx r
/-- Each field stands once; things of lists take room; new parts are new. -/
def okB (ver : Int) (fx : Bool) : Sch → Bool
  | .nil => true
  | .val _ k _ r => !r.keys.contains k && okB ver fx r
  | .arrV _ k _ _ r => !r.keys.contains k && okB ver fx r
  | .arrS c k _ d e r => !r.keys.contains k && (!c.ok ver || (posB ver fx e && okB ver fx e && startB e d)) && okB ver fx r
  | .opt c k d e r => !r.keys.contains k && (!c.ok ver || (okB ver fx e && startB e d)) && okB ver fx r
  | .tags k r => !r.keys.contains k && okB ver fx r

def GoodL (ver : Int) (nul : Option Int) (v : V) : Prop := v.elems.length < 1073741824 ∧ ∀ m, nul = some m → ver < m → v.isNil = false
/-- What is written is read again. -/
def Good (ver : Int) (fx : Bool) : Sch → V → Prop
  | .nil, _ => True
  | .val c k w r, v => (c.ok ver = true → GoodW fx w (v.fld k)) ∧ Good ver fx r v
  | .arrV c k nul w r, v => (c.ok ver = true → GoodL ver nul (v.fld k) ∧ ∀ x ∈ (v.fld k).elems, GoodW fx w x) ∧ Good ver fx r v
  | .arrS c k nul _ e r, v => (c.ok ver = true → GoodL ver nul (v.fld k) ∧ ∀ x ∈ (v.fld k).elems, Good ver fx e x) ∧ Good ver fx r v
  | .opt c k _ e r, v => (c.ok ver = true → ∀ x, v.fld k = .nst x → Good ver fx e x) ∧ Good ver fx r v
  | .tags k r, v => (fx = true → GoodT (v.fld k).tagsOf) ∧ Good ver fx r v

theorem fld_put {l : List V} {k : Nat} {x : V} (h : k < l.length) : (V.put (.st l) k x).fld k = x := by
  simp [V.put, V.fld, List.getD_eq_getElem?_getD, h]
theorem fld_put_ne {v : V} {k j : Nat} {x : V} (h : j ≠ k) : (V.put v k x).fld j = v.fld j := by
  cases v <;> try rfl
  simp [V.put, V.fld, List.getD_eq_getElem?_getD, List.getElem?_set, Ne.symm h]
theorem freshB_congr {s : Sch} {v v' : V} (h : ∀ k ∈ s.keys, v'.fld k = v.fld k) : freshB s v' = freshB s v := by
  induction s with
  | nil => rfl
  | val c k w r ih => simp only [freshB]; exact ih fun j hj => h j (by simp [Sch.keys, hj])
  | arrV c k nul w r ih => simp only [freshB]; rw [h k (by simp [Sch.keys]), ih fun j hj => h j (by simp [Sch.keys, hj])]
  | arrS c k nul d e r _ ih => simp only [freshB]; rw [h k (by simp [Sch.keys]), ih fun j hj => h j (by simp [Sch.keys, hj])]
  | opt c k d e r _ ih => simp only [freshB]; rw [h k (by simp [Sch.keys]), ih fun j hj => h j (by simp [Sch.keys, hj])]
  | tags k r ih => simp only [freshB]; exact ih fun j hj => h j (by simp [Sch.keys, hj])

theorem startB_fresh {s : Sch} {v : V} (h : startB s v = true) : freshB s v = true := by
  cases v <;> first | (cases h; done) | skip
  simp only [startB, Bool.and_eq_true] at h
  exact h.2
theorem startB_put {r : Sch} {v : V} {k : Nat} {x : V} (hr : r.keys.contains k = false) (h : startB r v = true) : startB r (v.put k x) = true := by
  cases v <;> first | (cases h; done) | skip
  rename_i l
  have h2 := startB_fresh h
  simp only [startB, Bool.and_eq_true] at h
  show (r.keys.all (fun j => Nat.blt j (l.set k x).length) && freshB r (V.put (.st l) k x)) = true
  rw [List.length_set, h.1, freshB_congr (v := .st l) fun j hj => fld_put_ne fun e => ?_, h2]
  · rfl
  · subst e
    rw [List.contains_eq_mem, decide_eq_false_iff_not] at hr
    exact hr hj
theorem startB_tail {s r : Sch} {k : Nat} {v : V} (hk : s.keys = k :: r.keys) (hf : freshB s v = true → freshB r v = true) (h : startB s v = true) : startB r v = true ∧ ∃ l, v = .st l ∧ k < l.length := by
  cases v <;> first | (cases h; done) | skip
  rename_i l
  simp only [startB, Bool.and_eq_true] at h
  rw [hk, List.all_cons, Bool.and_eq_true] at h
  refine ⟨?_, l, rfl, by simpa using h.1.1⟩
  simp only [startB, Bool.and_eq_true]
  exact ⟨h.1.2, hf h.2⟩

/-! ### Lists -/
theorem decN_enc {f : Dc V} {g : V → List UInt8} (z : List UInt8) : ∀ (vs : List V), (∀ x ∈ vs, ∀ z, ∃ x', f (g x ++ z) = some (x', z) ∧ g x' = g x) →
    ∃ vs', decN f vs.length (vs.flatMap g ++ z) = some (vs', z) ∧ vs'.flatMap g = vs.flatMap g ∧ vs'.length = vs.length
  | [], _ => ⟨[], rfl, rfl, rfl⟩
  | x :: vs, h => by
    obtain ⟨x', h1, h2⟩ := h x (by simp) (vs.flatMap g ++ z)
    obtain ⟨vs', h3, h4, h5⟩ := decN_enc z vs fun y hy => h y (List.mem_cons_of_mem _ hy)
    refine ⟨x' :: vs', ?_, by rw [List.flatMap_cons, List.flatMap_cons, h2, h4], by simp [h5]⟩
    rw [List.length_cons, decN, List.flatMap_cons, List.append_assoc, h1]
    simp only [Option.bind_some]
    rw [h3]
    rfl
theorem flatMap_len {g : V → List UInt8} : ∀ {vs : List V}, (∀ x ∈ vs, 1 ≤ (g x).length) → vs.length ≤ (vs.flatMap g).length
  | [], _ => by simp
  | x :: vs, h => by
    have h1 := h x (by simp)
    have h2 := flatMap_len fun y hy => h y (List.mem_cons_of_mem _ hy)
    rw [List.flatMap_cons, List.length_append, List.length_cons]
    omega

def cntOf (nul : Bool) (v : V) : Int := if nul && v.isNil then -1 else v.elems.length
theorem decCnt_enc {fx nul : Bool} {v : V} (h : v.elems.length < 1073741824) (z : List UInt8) : decCnt fx (encLen fx nul v ++ z) = some (cntOf nul v, z) := by
  unfold decCnt encLen cntOf
  cases fx
  · simp only [Bool.false_eq_true, if_false]
    split
    · exact decInt_be .i32 4 rfl _ (by decide) z
    · exact decInt_be .i32 4 rfl _ (i32_len (by omega)) z
  · simp only [if_true]
    split
    · rw [decUv_uvar 0 (by decide)]
      rfl
    · rw [word_eq (by omega), decUv_uvar _ (by omega)]
      simp only [Option.map_some, Option.some.injEq, Prod.mk.injEq, and_true]
      rw [i32_len (by omega), IntKind.wrap_i32]
      omega
theorem encLen_congr {fx nul : Bool} {v v' : V} (h : v'.elems.length = v.elems.length) (hn : nul = true → v'.isNil = v.isNil) : encLen fx nul v' = encLen fx nul v := by
  unfold encLen
  rw [h]
  cases nul
  · rfl
  · rw [hn rfl]
theorem isNil_elems {v : V} (h : v.isNil = true) : v.elems = [] := by cases v <;> first | rfl | cases h
/-- A list that was written is read. -/
theorem decArr_enc {ver : Int} {fx : Bool} {nul : Option Int} {f : Dc V} {g : V → List UInt8} {v : V} (hv : GoodL ver nul v) (hf : ∀ x ∈ v.elems, ∀ z, ∃ x', f (g x ++ z) = some (x', z) ∧ g x' = g x) (hp : ∀ x ∈ v.elems, 1 ≤ (g x).length) (z : List UInt8) :
    ∃ v', ((decLen fx (encLen fx nul.isSome v ++ (v.elems.flatMap g ++ z))).bind fun n => (decN f n.1.toNat n.2).map fun x => (arrOf ver nul n.1 x.1, x.2)) = some (v', z) ∧ encLen fx nul.isSome v' ++ v'.elems.flatMap g = encLen fx nul.isSome v ++ v.elems.flatMap g := by
  unfold decLen
  rw [decCnt_enc hv.1]
  have hlen := flatMap_len hp
  simp only [Option.bind_some]
  by_cases hn : (nul.isSome && v.isNil) = true
  · have hnil : v.isNil = true := by simp only [Bool.and_eq_true] at hn; exact hn.2
    have hc : cntOf nul.isSome v = -1 := by unfold cntOf; rw [if_pos hn]
    rw [hc, if_neg (by omega)]
    simp only [Option.bind_some, isNil_elems hnil, List.flatMap_nil, List.nil_append, List.append_nil]
    refine ⟨arrOf ver nul (-1) [], rfl, ?_⟩
    obtain ⟨m, rfl⟩ : ∃ m, nul = some m := by cases nul with | none => simp at hn | some m => exact ⟨m, rfl⟩
    have hge : ¬ ver < m := fun h => by have := hv.2 m rfl h; rw [hnil] at this; cases this
    have ha : arrOf ver (some m) (-1) [] = .arrN := by simp [arrOf, hge]
    rw [ha]
    unfold encLen
    rw [hnil]
    simp [V.isNil, V.elems]
  · have hc : cntOf nul.isSome v = v.elems.length := by unfold cntOf; rw [if_neg hn]
    rw [hc, if_neg (by rw [List.length_append]; omega)]
    simp only [Option.bind_some, Int.toNat_natCast]
    obtain ⟨vs', h1, h2, h3⟩ := decN_enc z v.elems hf
    rw [h1]
    refine ⟨_, rfl, ?_⟩
    by_cases h0 : v.elems.length = 0
    · have hv0 : v.elems = [] := List.eq_nil_of_length_eq_zero h0
      simp only [hv0, List.flatMap_nil, List.append_nil, List.length_nil, Int.natCast_zero] at h2 ⊢
      cases nul with
      | none =>
        have ha : arrOf ver none 0 vs' = .arrN := rfl
        rw [ha]
        simp only [V.elems, List.flatMap_nil, List.append_nil]
        exact encLen_congr (by rw [hv0]; rfl) (fun h => by cases h)
      | some m =>
        have hnn : v.isNil = false := by simpa using hn
        have ha : arrOf ver (some m) 0 vs' = .arr [] := by simp [arrOf]
        rw [ha]
        simp only [V.elems, List.flatMap_nil, List.append_nil]
        exact encLen_congr (by rw [hv0]; rfl) (fun _ => by rw [hnn]; rfl)
    · have ha : arrOf ver nul (v.elems.length : Int) vs' = .arr vs' := by unfold arrOf; rw [if_pos (by omega)]
      rw [ha]
      have e1 : (V.arr vs').elems = vs' := rfl
      rw [e1, h2]
      congr 1
      refine encLen_congr (by rw [e1, h3]) fun hnul => ?_
      rw [hnul, Bool.true_and] at hn
      show false = v.isNil
      cases h : v.isNil
      · rfl
      · exact absurd h hn

theorem decLen_len {fx : Bool} {l l' : List UInt8} {n : Int} (h : decLen fx l = some (n, l')) : n ≤ l'.length ∧ l'.length ≤ l.length ∧ (fx = true → (uvar (n + 1).toNat).length + l'.length ≤ l.length) ∧ (fx = false → 4 + l'.length = l.length) := by
  unfold decLen at h
  obtain ⟨⟨m, l1⟩, h1, h2⟩ := Option.bind_eq_some_iff.1 h
  simp only at h2
  split at h2
  · cases h2
  · rename_i hlt
    simp only [Option.some.injEq, Prod.mk.injEq] at h2
    obtain ⟨rfl, rfl⟩ := h2
    unfold decCnt at h1
    cases fx
    · have := decInt_len h1
      exact ⟨by omega, by omega, (fun h => by cases h), fun _ => this⟩
    · obtain ⟨⟨k, l2⟩, h3, h4⟩ := Option.map_eq_some_iff.1 h1
      simp only [Prod.mk.injEq] at h4
      obtain ⟨rfl, rfl⟩ := h4
      have h5 := decUv_len h3
      have h6 := decUv_lt h3
      refine ⟨by omega, by omega, fun _ => ?_, fun h => by cases h⟩
      have h7 : (uvar (IntKind.i32.wrap (IntKind.i32.wrap (k : Int) - 1) + 1).toNat).length ≤ (uvar k).length := by
        rw [IntKind.wrap_i32, IntKind.wrap_i32]
        by_cases hk : k < 2147483648
        · rw [show (((k : Int) + 2147483648) % 4294967296 - 2147483648 - 1 + 2147483648) % 4294967296 - 2147483648 + 1 = k by omega, Int.toNat_natCast]; exact Nat.le_refl _
        · by_cases hk2 : k = 2147483648
          · subst hk2
            decide +kernel
          · rw [show ((((k : Int) + 2147483648) % 4294967296 - 2147483648 - 1 + 2147483648) % 4294967296 - 2147483648 + 1).toNat = 0 by omega, uvar_small (by omega)]
            exact uvar_pos k
      omega

theorem decN_good {f : Dc V} {g : V → List UInt8} {G : V → Prop} (M : Nat) (hf : ∀ l x l', l.length < M → f l = some (x, l') → G x ∧ (g x).length + l'.length ≤ l.length) : ∀ (n : Nat) {l l' : List UInt8} {vs : List V}, l.length < M → decN f n l = some (vs, l') →
    (∀ x ∈ vs, G x) ∧ (vs.flatMap g).length + l'.length ≤ l.length ∧ vs.length = n
  | 0, l, l', vs, _, h => by
    simp only [decN, Option.some.injEq, Prod.mk.injEq] at h
    obtain ⟨rfl, rfl⟩ := h
    exact ⟨(fun _ h => by cases h), by simp, rfl⟩
  | n + 1, l, l', vs, hM, h => by
    rw [decN] at h
    obtain ⟨⟨x, l1⟩, h1, h2⟩ := Option.bind_eq_some_iff.1 h
    obtain ⟨⟨y, l2⟩, h3, h4⟩ := Option.map_eq_some_iff.1 h2
    simp only [Prod.mk.injEq] at h4
    obtain ⟨rfl, rfl⟩ := h4
    obtain ⟨g1, g2⟩ := hf _ _ _ hM h1
    obtain ⟨g3, g4, g5⟩ := decN_good M hf n (by simp only at h3 ⊢; omega) h3
    refine ⟨fun z hz => ?_, by rw [List.flatMap_cons, List.length_append]; simp only at g4; omega, by simp [g5]⟩
    rcases List.mem_cons.1 hz with rfl | hz
    · exact g1
    · exact g3 z hz

theorem decArr_good {ver : Int} {fx : Bool} {nul : Option Int} {f : Dc V} {g : V → List UInt8} {G : V → Prop} {n : Int} {l l1 l' : List UInt8} {vs : List V} (hM : l.length < 1073741824)
    (hf : ∀ l x l', l.length < 1073741824 → f l = some (x, l') → G x ∧ (g x).length + l'.length ≤ l.length) (h1 : decLen fx l = some (n, l1)) (h2 : decN f n.toNat l1 = some (vs, l')) :
    GoodL ver nul (arrOf ver nul n vs) ∧ (∀ x ∈ (arrOf ver nul n vs).elems, G x) ∧ (encLen fx nul.isSome (arrOf ver nul n vs)).length + ((arrOf ver nul n vs).elems.flatMap g).length + l'.length ≤ l.length := by
  obtain ⟨a1, a2, a3, a4⟩ := decLen_len h1
  obtain ⟨g1, g2, g3⟩ := decN_good (g := g) (G := G) 1073741824 hf n.toNat (by omega) h2
  by_cases hn : n > 0
  · have ha : arrOf ver nul n vs = .arr vs := by unfold arrOf; rw [if_pos hn]
    rw [ha]
    refine ⟨⟨show vs.length < 1073741824 by omega, fun m _ _ => rfl⟩, g1, ?_⟩
    show (encLen fx nul.isSome (.arr vs)).length + (vs.flatMap g).length + l'.length ≤ l.length
    unfold encLen
    simp only [V.isNil, Bool.and_false, Bool.false_eq_true, if_false, V.elems]
    cases fx
    · have := a4 rfl
      simp only [Bool.false_eq_true, if_false, be_length]; omega
    · have := a3 rfl
      simp only [if_true]
      rw [word_eq (by omega), show vs.length + 1 = (n + 1).toNat by omega]; omega
  · have hel : (arrOf ver nul n vs).elems = [] := by
      unfold arrOf
      rw [if_neg hn]
      split
      · rfl
      · split <;> rfl
    rw [hel]
    refine ⟨⟨by rw [hel]; decide, fun m hm hlt => ?_⟩, (fun _ h => by cases h), ?_⟩
    · subst hm
      unfold arrOf
      rw [if_neg hn]
      simp only
      rw [if_pos (.inl hlt)]
      rfl
    · have hl : (encLen fx nul.isSome (arrOf ver nul n vs)).length ≤ if fx then 1 else 4 := by
        unfold encLen
        rw [hel]
        cases fx
        · simp only [Bool.false_eq_true, if_false]
          split <;> simp [be_length]
        · simp only [if_true]
          split <;> simp [uvar_small, word]
      simp only [List.flatMap_nil, List.length_nil]
      cases fx
      · have := a4 rfl
        simp only [Bool.false_eq_true, if_false] at hl; omega
      · have := a3 rfl
        have := uvar_pos (n + 1).toNat
        simp only [if_true] at hl; omega

theorem enc_pos {ver : Int} {fx : Bool} : ∀ {s : Sch} {v : V}, posB ver fx s = true → Good ver fx s v → 1 ≤ (enc ver fx s v).length := by
  have hl : ∀ nul v, 1 ≤ (encLen fx nul v).length := by
    intro nul v
    unfold encLen
    cases fx <;> simp only [Bool.false_eq_true, if_false, if_true]
    · split <;> simp [be_length]
    · split <;> exact uvar_pos _
  intro s
  induction s with
  | nil => intro v h; cases h
  | val c k w r ih =>
    intro v h hg
    simp only [enc, List.length_append]
    by_cases hc : c.ok ver = true
    · rw [if_pos hc]
      have := encW_pos (hg.1 hc)
      omega
    · simp only [posB, Bool.or_eq_true] at h
      have := ih (h.resolve_left hc) hg.2
      omega
  | arrV c k nul w r ih =>
    intro v h hg
    simp only [enc, List.length_append]
    by_cases hc : c.ok ver = true
    · rw [if_pos hc, List.length_append]
      have := hl nul.isSome (v.fld k)
      omega
    · simp only [posB, Bool.or_eq_true] at h
      have := ih (h.resolve_left hc) hg.2
      omega
  | arrS c k nul d e r _ ih =>
    intro v h hg
    simp only [enc, List.length_append]
    by_cases hc : c.ok ver = true
    · rw [if_pos hc, List.length_append]
      have := hl nul.isSome (v.fld k)
      omega
    · simp only [posB, Bool.or_eq_true] at h
      have := ih (h.resolve_left hc) hg.2
      omega
  | opt c k d e r _ ih =>
    intro v h hg
    simp only [enc, List.length_append]
    by_cases hc : c.ok ver = true
    · rw [if_pos hc]
      split <;> simp <;> omega
    · simp only [posB, Bool.or_eq_true] at h
      have := ih (h.resolve_left hc) hg.2
      omega
  | tags k r ih =>
    intro v h hg
    simp only [enc, List.length_append]
    by_cases hc : fx = true
    · rw [if_pos hc]
      unfold encTags
      rw [List.length_append]
      have := uvar_pos (word (v.fld k).tagsOf.length)
      omega
    · simp only [posB, Bool.or_eq_true] at h
      have := ih (h.resolve_left hc) hg.2
      omega

theorem enc_opt_else {ver : Int} {fx : Bool} {c : Vc} {k : Nat} {d : V} {e r : Sch} {v : V} (hc : c.ok ver = true) (hx : ¬ ∃ x, v.fld k = .nst x) : enc ver fx (.opt c k d e r) v = [255] ++ enc ver fx r v := by
  simp only [enc, if_pos hc]
  congr 1
  generalize v.fld k = y at hx ⊢
  cases y <;> first | rfl | exact absurd ⟨_, rfl⟩ hx
theorem notin {k : Nat} {l : List Nat} (h : (!l.contains k) = true) : l.contains k = false ∧ ∀ j ∈ l, j ≠ k := by
  rw [Bool.not_eq_true'] at h
  refine ⟨h, fun j hj e => ?_⟩
  subst e
  rw [List.contains_eq_mem, decide_eq_false_iff_not] at h
  exact h hj

set_option maxHeartbeats 2000000 in
/-- What was written is read; what is read is written as the same. -/
theorem dec_enc {ver : Int} {fx : Bool} (s : Sch) : ∀ {v0 v : V} (z : List UInt8), okB ver fx s = true → startB s v0 = true → Good ver fx s v →
    ∃ v', dec ver fx s v0 (enc ver fx s v ++ z) = some (v', z) ∧ enc ver fx s v' = enc ver fx s v ∧ ∀ k, k ∉ s.keys → v'.fld k = v0.fld k := by
  induction s with
  | nil => intro v0 v z _ _ _; exact ⟨v0, rfl, rfl, fun _ _ => rfl⟩
  | val c k w r ih =>
    intro v0 v z hok hs hg
    simp only [okB, Bool.and_eq_true] at hok
    obtain ⟨hk, hok⟩ := hok
    obtain ⟨hk1, hk2⟩ := notin hk
    obtain ⟨hs1, l, rfl, hkl⟩ := startB_tail (s := (.val c k w r)) (r := r) (k := k) rfl (fun h => h) hs
    simp only [dec, enc]
    by_cases hc : c.ok ver = true
    · simp only [if_pos hc]
      rw [List.append_assoc, decW_encW (hg.1 hc)]
      simp only [Option.bind_some]
      obtain ⟨v', h1, h2, h3⟩ := ih z hok (startB_put (x := v.fld k) hk1 hs1) hg.2
      refine ⟨v', h1, ?_, fun j hj => ?_⟩
      · rw [h2, h3 k (fun h => hk2 k h rfl), fld_put hkl]
      · simp only [Sch.keys, List.mem_cons, not_or] at hj
        rw [h3 j hj.2, fld_put_ne hj.1]
    · simp only [if_neg hc, List.nil_append]
      obtain ⟨v', h1, h2, h3⟩ := ih z hok hs1 hg.2
      exact ⟨v', h1, h2, fun j hj => h3 j fun h => hj (List.mem_cons_of_mem _ h)⟩
  | arrV c k nul w r ih =>
    intro v0 v z hok hs hg
    simp only [okB, Bool.and_eq_true] at hok
    obtain ⟨hk, hok⟩ := hok
    obtain ⟨hk1, hk2⟩ := notin hk
    obtain ⟨hs1, l, rfl, hkl⟩ := startB_tail (s := (.arrV c k nul w r)) (r := r) (k := k) rfl (fun h => by simp only [freshB, Bool.and_eq_true] at h; exact h.2) hs
    simp only [dec, enc]
    by_cases hc : c.ok ver = true
    · simp only [if_pos hc]
      obtain ⟨hgl, hge⟩ := hg.1 hc
      obtain ⟨a, h1, h2⟩ := decArr_enc (fx := fx) (f := decW fx w) (g := encW fx w) hgl (fun x hx z => ⟨x, decW_encW (hge x hx) z, rfl⟩) (fun x hx => encW_pos (hge x hx)) (enc ver fx r v ++ z)
      obtain ⟨⟨n, l1⟩, e1, e2⟩ := Option.bind_eq_some_iff.1 h1
      obtain ⟨⟨vs, l2⟩, e3, e4⟩ := Option.map_eq_some_iff.1 e2
      simp only [Prod.mk.injEq] at e4
      obtain ⟨rfl, rfl⟩ := e4
      rw [List.append_assoc, List.append_assoc, e1]
      simp only [Option.bind_some]
      simp only at e3
      rw [e3]
      simp only [Option.bind_some]
      obtain ⟨v', g1, g2, g3⟩ := ih z hok (startB_put (x := arrOf ver nul n vs) hk1 hs1) hg.2
      refine ⟨v', g1, ?_, fun j hj => ?_⟩
      · rw [g2, g3 k (fun h => hk2 k h rfl), fld_put hkl, h2]
      · simp only [Sch.keys, List.mem_cons, not_or] at hj
        rw [g3 j hj.2, fld_put_ne hj.1]
    · simp only [if_neg hc, List.nil_append]
      obtain ⟨v', h1, h2, h3⟩ := ih z hok hs1 hg.2
      exact ⟨v', h1, h2, fun j hj => h3 j fun h => hj (List.mem_cons_of_mem _ h)⟩
  | arrS c k nul d e r ihe ih =>
    intro v0 v z hok hs hg
    simp only [okB, Bool.and_eq_true] at hok
    obtain ⟨⟨hk, hoke⟩, hok⟩ := hok
    obtain ⟨hk1, hk2⟩ := notin hk
    obtain ⟨hs1, l, rfl, hkl⟩ := startB_tail (s := (.arrS c k nul d e r)) (r := r) (k := k) rfl (fun h => by simp only [freshB, Bool.and_eq_true] at h; exact h.2) hs
    simp only [dec, enc]
    by_cases hc : c.ok ver = true
    · simp only [if_pos hc]
      obtain ⟨hgl, hge⟩ := hg.1 hc
      rw [hc] at hoke
      simp only [Bool.not_true, Bool.false_or, Bool.and_eq_true] at hoke
      obtain ⟨⟨hpos, hoe⟩, hst⟩ := hoke
      obtain ⟨a, h1, h2⟩ := decArr_enc (fx := fx) (f := dec ver fx e d) (g := enc ver fx e) hgl (fun x hx z => by obtain ⟨x', q1, q2, _⟩ := ihe z hoe hst (hge x hx); exact ⟨x', q1, q2⟩) (fun x hx => enc_pos hpos (hge x hx)) (enc ver fx r v ++ z)
      obtain ⟨⟨n, l1⟩, e1, e2⟩ := Option.bind_eq_some_iff.1 h1
      obtain ⟨⟨vs, l2⟩, e3, e4⟩ := Option.map_eq_some_iff.1 e2
      simp only [Prod.mk.injEq] at e4
      obtain ⟨rfl, rfl⟩ := e4
      rw [List.append_assoc, List.append_assoc, e1]
      simp only [Option.bind_some]
      simp only at e3
      rw [e3]
      simp only [Option.bind_some]
      obtain ⟨v', g1, g2, g3⟩ := ih z hok (startB_put (x := arrOf ver nul n vs) hk1 hs1) hg.2
      refine ⟨v', g1, ?_, fun j hj => ?_⟩
      · rw [g2, g3 k (fun h => hk2 k h rfl), fld_put hkl, h2]
      · simp only [Sch.keys, List.mem_cons, not_or] at hj
        rw [g3 j hj.2, fld_put_ne hj.1]
    · simp only [if_neg hc, List.nil_append]
      obtain ⟨v', h1, h2, h3⟩ := ih z hok hs1 hg.2
      exact ⟨v', h1, h2, fun j hj => h3 j fun h => hj (List.mem_cons_of_mem _ h)⟩
  | opt c k d e r ihe ih =>
    intro v0 v z hok hs hg
    simp only [okB, Bool.and_eq_true] at hok
    obtain ⟨⟨hk, hoke⟩, hok⟩ := hok
    obtain ⟨hk1, hk2⟩ := notin hk
    have hfr := startB_fresh hs
    obtain ⟨hs1, l, rfl, hkl⟩ := startB_tail (s := (.opt c k d e r)) (r := r) (k := k) rfl (fun h => by simp only [freshB, Bool.and_eq_true] at h; exact h.2) hs
    simp only [dec, enc]
    by_cases hc : c.ok ver = true
    · simp only [if_pos hc]
      have hge := hg.1 hc
      rw [hc] at hoke
      simp only [Bool.not_true, Bool.false_or, Bool.and_eq_true] at hoke
      obtain ⟨hoe, hst⟩ := hoke
      by_cases hx : ∃ x, v.fld k = .nst x
      · obtain ⟨x, hx⟩ := hx
        simp only [hx]
        obtain ⟨x', q1, q2, _⟩ := ihe (enc ver fx r v ++ z) hoe hst (hge x hx)
        have e1 : decInt .i8 1 ((1 :: enc ver fx e x) ++ enc ver fx r v ++ z) = some (1, enc ver fx e x ++ (enc ver fx r v ++ z)) := by
          rw [List.append_assoc]; exact decInt_be .i8 1 rfl 1 (by decide) _
        rw [e1]
        simp only [Option.bind_some]
        rw [if_neg (by decide), q1]
        simp only [Option.bind_some]
        obtain ⟨v', g1, g2, g3⟩ := ih z hok (startB_put (x := .nst x') hk1 hs1) hg.2
        refine ⟨v', g1, ?_, fun j hj => ?_⟩
        · rw [g2, g3 k (fun h => hk2 k h rfl), fld_put hkl]
          simp only [q2]
        · simp only [Sch.keys, List.mem_cons, not_or] at hj
          rw [g3 j hj.2, fld_put_ne hj.1]
      · have e0 := enc_opt_else (ver := ver) (fx := fx) (d := d) (e := e) (r := r) hc hx
        simp only [enc, if_pos hc] at e0
        rw [e0]
        have e1 : decInt .i8 1 ([255] ++ enc ver fx r v ++ z) = some (-1, enc ver fx r v ++ z) := by
          rw [List.append_assoc]; exact decInt_be .i8 1 rfl (-1) (by decide) _
        rw [e1]
        simp only [Option.bind_some, if_true]
        obtain ⟨v', g1, g2, g3⟩ := ih z hok hs1 hg.2
        refine ⟨v', g1, ?_, fun j hj => g3 j fun h => hj (List.mem_cons_of_mem _ h)⟩
        rw [g2, g3 k (fun h => hk2 k h rfl)]
        simp only [freshB, Bool.and_eq_true] at hfr
        have hn := hfr.1
        split at hn
        · rename_i he; rw [he]
        · cases hn
    · simp only [if_neg hc, List.nil_append]
      obtain ⟨v', h1, h2, h3⟩ := ih z hok hs1 hg.2
      exact ⟨v', h1, h2, fun j hj => h3 j fun h => hj (List.mem_cons_of_mem _ h)⟩
  | tags k r ih =>
    intro v0 v z hok hs hg
    simp only [okB, Bool.and_eq_true] at hok
    obtain ⟨hk, hok⟩ := hok
    obtain ⟨hk1, hk2⟩ := notin hk
    obtain ⟨hs1, l, rfl, hkl⟩ := startB_tail (s := (.tags k r)) (r := r) (k := k) rfl (fun h => h) hs
    simp only [dec, enc]
    by_cases hc : fx = true
    · simp only [if_pos hc]
      have hgt := hg.1 hc
      have e1 : encTags (v.fld k) = encTags (.tags (v.fld k).tagsOf) := rfl
      rw [List.append_assoc, e1, decTags_enc hgt]
      simp only [Option.bind_some]
      obtain ⟨v', h1, h2, h3⟩ := ih z hok (startB_put (x := .tags (sortTags (v.fld k).tagsOf)) hk1 hs1) hg.2
      refine ⟨v', h1, ?_, fun j hj => ?_⟩
      · rw [h2, h3 k (fun h => hk2 k h rfl), fld_put hkl, encTags_sort hgt]
      · simp only [Sch.keys, List.mem_cons, not_or] at hj
        rw [h3 j hj.2, fld_put_ne hj.1]
    · simp only [if_neg hc, List.nil_append]
      obtain ⟨v', h1, h2, h3⟩ := ih z hok hs1 hg.2
      exact ⟨v', h1, h2, fun j hj => h3 j fun h => hj (List.mem_cons_of_mem _ h)⟩

set_option maxHeartbeats 2000000 in
/-- What is read can be written: in no more octets. -/
theorem dec_good {ver : Int} {fx : Bool} (s : Sch) : ∀ {v0 v : V} {l l' : List UInt8}, okB ver fx s = true → startB s v0 = true → l.length < 1073741824 → dec ver fx s v0 l = some (v, l') →
    Good ver fx s v ∧ (enc ver fx s v).length + l'.length ≤ l.length ∧ ∀ k, k ∉ s.keys → v.fld k = v0.fld k := by
  induction s with
  | nil =>
    intro v0 v l l' _ _ _ h
    simp only [dec, Option.some.injEq, Prod.mk.injEq] at h
    obtain ⟨rfl, rfl⟩ := h
    exact ⟨trivial, by simp [enc], fun _ _ => rfl⟩
  | val c k w r ih =>
    intro v0 v l l' hok hs hl h
    simp only [okB, Bool.and_eq_true] at hok
    obtain ⟨hk, hok⟩ := hok
    obtain ⟨hk1, hk2⟩ := notin hk
    obtain ⟨hs1, st, rfl, hkl⟩ := startB_tail (s := (.val c k w r)) (r := r) (k := k) rfl (fun h => h) hs
    simp only [dec, enc, Good] at h ⊢
    by_cases hc : c.ok ver = true
    · rw [if_pos hc] at h ⊢
      obtain ⟨⟨x, l1⟩, h1, h2⟩ := Option.bind_eq_some_iff.1 h
      obtain ⟨g1, g2⟩ := decW_good h1
      simp only at h2
      obtain ⟨f1, f2, f3⟩ := ih hok (startB_put (x := x) hk1 hs1) (by omega) h2
      have hx : v.fld k = x := by rw [f3 k (fun h => hk2 k h rfl), fld_put hkl]
      rw [hx, List.length_append]
      refine ⟨⟨fun _ => g1, f1⟩, by omega, fun j hj => ?_⟩
      simp only [Sch.keys, List.mem_cons, not_or] at hj
      rw [f3 j hj.2, fld_put_ne hj.1]
    · rw [if_neg hc] at h ⊢
      obtain ⟨f1, f2, f3⟩ := ih hok hs1 hl h
      exact ⟨⟨fun h => absurd h hc, f1⟩, by simpa using f2, fun j hj => f3 j fun h => hj (List.mem_cons_of_mem _ h)⟩
  | arrV c k nul w r ih =>
    intro v0 v l l' hok hs hl h
    simp only [okB, Bool.and_eq_true] at hok
    obtain ⟨hk, hok⟩ := hok
    obtain ⟨hk1, hk2⟩ := notin hk
    obtain ⟨hs1, st, rfl, hkl⟩ := startB_tail (s := (.arrV c k nul w r)) (r := r) (k := k) rfl (fun h => by simp only [freshB, Bool.and_eq_true] at h; exact h.2) hs
    simp only [dec, enc, Good] at h ⊢
    by_cases hc : c.ok ver = true
    · rw [if_pos hc] at h ⊢
      obtain ⟨⟨n, l1⟩, h1, h2⟩ := Option.bind_eq_some_iff.1 h
      obtain ⟨⟨vs, l2⟩, h3, h4⟩ := Option.bind_eq_some_iff.1 h2
      simp only at h3 h4
      obtain ⟨g1, g2, g3⟩ := decArr_good (ver := ver) (nul := nul) (g := encW fx w) (G := GoodW fx w) hl (fun l x l' _ h => decW_good h) h1 h3
      obtain ⟨f1, f2, f3⟩ := ih hok (startB_put (x := arrOf ver nul n vs) hk1 hs1) (by omega) h4
      have hx : v.fld k = arrOf ver nul n vs := by rw [f3 k (fun h => hk2 k h rfl), fld_put hkl]
      rw [hx, List.length_append, List.length_append]
      refine ⟨⟨fun _ => ⟨g1, g2⟩, f1⟩, by omega, fun j hj => ?_⟩
      simp only [Sch.keys, List.mem_cons, not_or] at hj
      rw [f3 j hj.2, fld_put_ne hj.1]
    · rw [if_neg hc] at h ⊢
      obtain ⟨f1, f2, f3⟩ := ih hok hs1 hl h
      exact ⟨⟨fun h => absurd h hc, f1⟩, by simpa using f2, fun j hj => f3 j fun h => hj (List.mem_cons_of_mem _ h)⟩
  | arrS c k nul d e r ihe ih =>
    intro v0 v l l' hok hs hl h
    simp only [okB, Bool.and_eq_true] at hok
    obtain ⟨⟨hk, hoke⟩, hok⟩ := hok
    obtain ⟨hk1, hk2⟩ := notin hk
    obtain ⟨hs1, st, rfl, hkl⟩ := startB_tail (s := (.arrS c k nul d e r)) (r := r) (k := k) rfl (fun h => by simp only [freshB, Bool.and_eq_true] at h; exact h.2) hs
    simp only [dec, enc, Good] at h ⊢
    by_cases hc : c.ok ver = true
    · rw [if_pos hc] at h ⊢
      rw [hc] at hoke
      simp only [Bool.not_true, Bool.false_or, Bool.and_eq_true] at hoke
      obtain ⟨⟨hpos, hoe⟩, hst⟩ := hoke
      obtain ⟨⟨n, l1⟩, h1, h2⟩ := Option.bind_eq_some_iff.1 h
      obtain ⟨⟨vs, l2⟩, h3, h4⟩ := Option.bind_eq_some_iff.1 h2
      simp only at h3 h4
      obtain ⟨g1, g2, g3⟩ := decArr_good (ver := ver) (nul := nul) (g := enc ver fx e) (G := Good ver fx e) hl (fun l x l' hl h => by obtain ⟨q1, q2, _⟩ := ihe hoe hst hl h; exact ⟨q1, q2⟩) h1 h3
      obtain ⟨f1, f2, f3⟩ := ih hok (startB_put (x := arrOf ver nul n vs) hk1 hs1) (by omega) h4
      have hx : v.fld k = arrOf ver nul n vs := by rw [f3 k (fun h => hk2 k h rfl), fld_put hkl]
      rw [hx, List.length_append, List.length_append]
      refine ⟨⟨fun _ => ⟨g1, g2⟩, f1⟩, by omega, fun j hj => ?_⟩
      simp only [Sch.keys, List.mem_cons, not_or] at hj
      rw [f3 j hj.2, fld_put_ne hj.1]
    · rw [if_neg hc] at h ⊢
      obtain ⟨f1, f2, f3⟩ := ih hok hs1 hl h
      exact ⟨⟨fun h => absurd h hc, f1⟩, by simpa using f2, fun j hj => f3 j fun h => hj (List.mem_cons_of_mem _ h)⟩
  | opt c k d e r ihe ih =>
    intro v0 v l l' hok hs hl h
    simp only [okB, Bool.and_eq_true] at hok
    obtain ⟨⟨hk, hoke⟩, hok⟩ := hok
    obtain ⟨hk1, hk2⟩ := notin hk
    have hfr := startB_fresh hs
    obtain ⟨hs1, st, rfl, hkl⟩ := startB_tail (s := (.opt c k d e r)) (r := r) (k := k) rfl (fun h => by simp only [freshB, Bool.and_eq_true] at h; exact h.2) hs
    simp only [dec, enc, Good] at h ⊢
    by_cases hc : c.ok ver = true
    · rw [if_pos hc] at h ⊢
      rw [hc] at hoke
      simp only [Bool.not_true, Bool.false_or, Bool.and_eq_true] at hoke
      obtain ⟨hoe, hst⟩ := hoke
      obtain ⟨⟨n, l1⟩, h1, h2⟩ := Option.bind_eq_some_iff.1 h
      have hb := decInt_len h1
      simp only at h2
      split at h2
      · obtain ⟨f1, f2, f3⟩ := ih hok hs1 (by omega) h2
        have hx : v.fld k = .nstN := by
          rw [f3 k (fun h => hk2 k h rfl)]
          simp only [freshB, Bool.and_eq_true] at hfr
          have hn := hfr.1
          split at hn
          · rename_i he; exact he
          · cases hn
        rw [hx, List.length_append]
        refine ⟨⟨fun _ x hx => (by cases hx), f1⟩, by simp only [List.length_cons, List.length_nil]; omega, fun j hj => f3 j fun h => hj (List.mem_cons_of_mem _ h)⟩
      · obtain ⟨⟨x, l2⟩, h3, h4⟩ := Option.bind_eq_some_iff.1 h2
        simp only at h4
        obtain ⟨q1, q2, _⟩ := ihe hoe hst (by omega) h3
        obtain ⟨f1, f2, f3⟩ := ih hok (startB_put (x := .nst x) hk1 hs1) (by omega) h4
        have hx : v.fld k = .nst x := by rw [f3 k (fun h => hk2 k h rfl), fld_put hkl]
        rw [hx, List.length_append]
        refine ⟨⟨fun _ y hy => (by cases hy; exact q1), f1⟩, by simp only [List.length_cons]; omega, fun j hj => ?_⟩
        simp only [Sch.keys, List.mem_cons, not_or] at hj
        rw [f3 j hj.2, fld_put_ne hj.1]
    · rw [if_neg hc] at h ⊢
      obtain ⟨f1, f2, f3⟩ := ih hok hs1 hl h
      exact ⟨⟨fun h => absurd h hc, f1⟩, by simpa using f2, fun j hj => f3 j fun h => hj (List.mem_cons_of_mem _ h)⟩
  | tags k r ih =>
    intro v0 v l l' hok hs hl h
    simp only [okB, Bool.and_eq_true] at hok
    obtain ⟨hk, hok⟩ := hok
    obtain ⟨hk1, hk2⟩ := notin hk
    obtain ⟨hs1, st, rfl, hkl⟩ := startB_tail (s := (.tags k r)) (r := r) (k := k) rfl (fun h => h) hs
    simp only [dec, enc, Good] at h ⊢
    by_cases hc : fx = true
    · rw [if_pos hc] at h ⊢
      obtain ⟨⟨t, l1⟩, h1, h2⟩ := Option.bind_eq_some_iff.1 h
      obtain ⟨g1, g2⟩ := decTags_good h1 (by omega)
      simp only at h2
      obtain ⟨f1, f2, f3⟩ := ih hok (startB_put (x := .tags t) hk1 hs1) (by omega) h2
      have hx : v.fld k = .tags t := by rw [f3 k (fun h => hk2 k h rfl), fld_put hkl]
      rw [hx, List.length_append]
      refine ⟨⟨fun _ => g1, f1⟩, by omega, fun j hj => ?_⟩
      simp only [Sch.keys, List.mem_cons, not_or] at hj
      rw [f3 j hj.2, fld_put_ne hj.1]
    · rw [if_neg hc] at h ⊢
      obtain ⟨f1, f2, f3⟩ := ih hok hs1 hl h
      exact ⟨⟨fun h => absurd h hc, f1⟩, by simpa using f2, fun j hj => f3 j fun h => hj (List.mem_cons_of_mem _ h)⟩
end Go.Kx
