/- Library texts App2 App3 App4, joined. -/
import Derived.Test.YthcpchmmpnakaaaGreatDoorKxApp
import Derived.Lib.SliceRun
/- Versions, lists, tags and parts that may be null, as they are written; the whole check of a function that writes a message. -/
namespace Go.Kx
open Go.RowKit
set_option linter.unusedSimpArgs false
set_option linter.unusedVariables false

section
variable {P : Program} {ρ : Operand → Value} {w : World} {K : Value → World → Prop} {d : Option Tmp} {ty : TypeId} {pos : String} {af : Array Edge} {g : Option (Nat × Bool)}
theorem OpK.eqNilSlice {x : Operand} {t u : TypeId} {s : Nat} {a : Option Addr} {n c : Nat} (ht : elemSize P t = some s) (hx : ρ x = .slice a n c) (hn : ρ (.const (.slice none 0 0)) = .slice none 0 0) (h : K (.bool a.isNone) w) :
    OpK P ρ ⟨d, .binOp .eql t x (.const (.slice none 0 0)) u, ty, pos, af, g⟩ w K := by
  unfold elemSize at ht
  split at ht
  · rename_i e he
    have hr := Lib.run_eql_slice_nil (P := P) w t e a n c 0 0 he
    simp only [OpK, execOp, hx, hn, eqGuard, Sem.run_bind]
    simp [hr, After]
    exact h
  · cases ht
theorem OpK.eqNilPtr {x : Operand} {t u e : TypeId} {a : Option Addr} (ht : P.underlying t = some (.pointer e)) (hx : ρ x = .pointer a) (hn : ρ (.const (.pointer none)) = .pointer none) (h : K (.bool a.isNone) w) :
    OpK P ρ ⟨d, .binOp .eql t x (.const (.pointer none)) u, ty, pos, af, g⟩ w K := by
  have hp : P.underlying t = some (.pointer (P.pointee t)) := by rw [ht]; simp [Program.pointee, ht]
  have hr := run_eql_pointer_nil (P := P) w t a hp
  simp only [OpK, execOp, hx, hn, eqGuard, Sem.run_bind]
  simp [hr, After]
  exact h
end

/-! ### Versions -/
def verGe (x : Sl) (L : List Nat) (m : Int) (cs : List Code) : Option (Code × List Code) :=
  match cs with
  | c1 :: .cond (.tmp tc') A B :: rest =>
    match canR c1 with
    | some ⟨[(.binOp .geq _ (.tmp v2) (.const (.int .i16 m')) _, _)], (tc, 1) :: b⟩ =>
      if v2 == 2 * x.ver && m == m' && tc == tc' && (flat B).isEmpty && free (x.dst :: L) ((tc, 1) :: b) then some (A, rest) else none
    | _ => none
  | _ => none

theorem verGe_sound {P : Program} {n : Nat} {x : Sl} {L : List Nat} {m : Int} {cs rest : List Code} {A : Code} (h : verGe x L m cs = some (A, rest)) {σ : Fm} {w : World} {Q : Exit → Fm → World → Prop} {ver : Int}
    (hv : σ x.ver = .int .i16 ver) (hk : ∀ σ', σ' x.dst = σ x.dst → (∀ t ∈ L, σ' t = σ t) → CWL P n (if ver ≥ m then flat A else []) σ' w (Then (fun σ' w' => CWL P n rest σ' w' Q) Q)) :
    CWL P n cs σ w Q := by
  unfold verGe at h
  split at h
  · rename_i c1 tc' A' B rest'
    split at h
    · rename_i t1 v2 m' t2 t3 tc b hcan
      split at h
      · rename_i hh
        simp only [Option.some.injEq, Prod.mk.injEq] at h
        obtain ⟨rfl, rfl⟩ := h
        simp only [Bool.and_eq_true, beq_iff_eq, List.isEmpty_iff] at hh
        obtain ⟨⟨⟨⟨rfl, rfl⟩, rfl⟩, hB⟩, hfree⟩ := hh
        refine CWL.reg hcan (OpK.cmp (op := .geq) (k := .i16) (a := ver) (b := m) rfl (by simp only [ev_tmp, enF_two]; exact hv) rfl ?_)
        simp only [RC]
        refine CWL.cons (CW.cond (t := decide (ver ≥ m)) (by simp only [ev_tmp, outF_head]; simp [upd]) (CW.of_flat ?_))
        have := hk (outF ((tc, 1) :: b) (upd (enF σ) (some (2 * 0 + 1)) (.bool (decide (ver ≥ m))))) (by rw [outF_free hfree (by simp), upd_odd _ _ _ _ (by omega), enF_two])
          (fun t ht => by rw [outF_free hfree (by simp [ht]), upd_odd _ _ _ _ (by omega), enF_two])
        by_cases hm : ver ≥ m
        · simpa [hm] using this
        · simpa [hm, hB] using this
      · cases h
    · cases h
  · cases h

/-- 'lo <= version && version <= hi' -/
def verRng (x : Sl) (L : List Nat) (lo hi : Int) (cs : List Code) : Option (Code × List Code) :=
  match cs with
  | .region _ ops false :: .cond (.tmp tc) A B :: rest =>
    match ops.toList with
    | [⟨some a, .move (.tmp v1), _, _, _, none⟩, ⟨some b, .binOp .geq _ (.tmp a') (.const (.int .i16 lo')) _, _, _, _, none⟩, ⟨some c, .move (.tmp b'), _, _, _, none⟩,
       ⟨some d, .move (.tmp v2), _, _, _, some (2, true)⟩, ⟨some e, .binOp .leq _ (.tmp d') (.const (.int .i16 hi')) _, _, _, _, some (2, true)⟩, ⟨some f, .pick (.tmp c') (.tmp e') (.const (.bool false)), _, _, _, none⟩] =>
      if v1 == x.ver && v2 == x.ver && a' == a && b' == b && c' == c && d' == d && e' == e && lo' == lo && hi' == hi && tc == f && (flat B).isEmpty &&
        [a, b, c, d, e, f].all (fun t => t != x.ver && t != x.dst && L.all fun s => s != t) && c != d && c != e && c != a && c != b then some (A, rest) else none
    | _ => none
  | _ => none

theorem verRng_sound {P : Program} {n : Nat} {x : Sl} {L : List Nat} {lo hi : Int} {cs rest : List Code} {A : Code} (h : verRng x L lo hi cs = some (A, rest)) {σ : Fm} {w : World} {Q : Exit → Fm → World → Prop} {ver : Int}
    (hv : σ x.ver = .int .i16 ver) (hk : ∀ σ', σ' x.dst = σ x.dst → (∀ t ∈ L, σ' t = σ t) → CWL P n (if ver ≥ lo ∧ ver ≤ hi then flat A else []) σ' w (Then (fun σ' w' => CWL P n rest σ' w' Q) Q)) :
    CWL P n cs σ w Q := by
  unfold verRng at h
  split at h
  · rename_i id ops tc A' B rest'
    split at h
    · rename_i a v1 ty1 p1 f1 b t2 a' lo' u2 ty2 p2 f2 c b' ty3 p3 f3 d v2 ty4 p4 f4 e t5 d' hi' u5 ty5 p5 f5 f c' e' ty6 p6 f6 hops
      split at h
      · rename_i hh
        simp only [Option.some.injEq, Prod.mk.injEq] at h
        obtain ⟨rfl, rfl⟩ := h
        simp only [Bool.and_eq_true, beq_iff_eq, List.isEmpty_iff, bne_iff_ne, ne_eq] at hh
        obtain ⟨⟨⟨⟨⟨⟨⟨⟨⟨⟨⟨⟨⟨⟨⟨rfl, rfl⟩, rfl⟩, rfl⟩, rfl⟩, rfl⟩, rfl⟩, rfl⟩, rfl⟩, rfl⟩, hB⟩, hall⟩, hcd⟩, hce⟩, hca⟩, hcb⟩ := hh
        have hne : ∀ t ∈ [a', b', c', d', e', tc], t ≠ x.ver ∧ t ≠ x.dst ∧ ∀ s ∈ L, s ≠ t := by
          intro t ht
          have := List.all_eq_true.1 hall t ht
          simp only [Bool.and_eq_true, bne_iff_ne, ne_eq, List.all_eq_true] at this
          exact ⟨this.1.1, this.1.2, this.2⟩
        have ha := hne a' (by simp)
        have hb := hne b' (by simp)
        have hc := hne c' (by simp)
        have hd := hne d' (by simp)
        have he := hne e' (by simp)
        have hf := hne tc (by simp)
        have hkeep : ∀ (σ' : Fm), (∀ t, t ≠ a' → t ≠ b' → t ≠ c' → t ≠ d' → t ≠ e' → t ≠ tc → σ' t = σ t) → σ' x.dst = σ x.dst ∧ ∀ t ∈ L, σ' t = σ t := fun σ' hσ =>
          ⟨hσ _ (Ne.symm ha.2.1) (Ne.symm hb.2.1) (Ne.symm hc.2.1) (Ne.symm hd.2.1) (Ne.symm he.2.1) (Ne.symm hf.2.1),
            fun t ht => hσ t (ha.2.2 t ht) (hb.2.2 t ht) (hc.2.2 t ht) (hd.2.2 t ht) (he.2.2 t ht) (hf.2.2 t ht)⟩
        have fin : ∀ (σ' : Fm) (r : Bool), σ' tc = .bool r → (r = true ↔ ver ≥ lo' ∧ ver ≤ hi') → (∀ t, t ≠ a' → t ≠ b' → t ≠ c' → t ≠ d' → t ≠ e' → t ≠ tc → σ' t = σ t) →
            CWL P n (.cond (.tmp tc) A' B :: rest') σ' w Q := by
          intro σ' r hr hri hσ
          refine CWL.cons (CW.cond (t := r) (by simpa using hr) (CW.of_flat ?_))
          have := hk σ' (hkeep σ' hσ).1 (hkeep σ' hσ).2
          by_cases hm : ver ≥ lo' ∧ ver ≤ hi'
          · rw [if_pos hm] at this
            have : r = true := hri.2 hm
            subst this
            simpa using ‹CWL P n (flat A') σ' w _›
          · rw [if_neg hm] at this
            have : r = false := by
              cases r
              · rfl
              · exact absurd (hri.1 rfl) hm
            subst this
            simpa [hB] using ‹CWL P n [] σ' w _›
        refine CWL.cons (CW.region ?_)
        rw [hops]
        have hopsA := arr_of_list hops
        simp only [RW, wantedB, if_true]
        refine OpK.move ?_
        refine OpK.cmp (op := .geq) (k := .i16) (a := ver) (b := lo') rfl (by simp [hv]) rfl ?_
        refine OpK.move ?_
        have hy : ∀ (τ : Fm) (r : Bool), τ c' = .bool r → yv ops τ 2 = some r := by
          intro τ r hr
          subst hopsA
          simp [yv, hr]
        have hyc := hy (upd (upd (upd σ (some a') (ev σ (.tmp x.ver))) (some b') (.bool (decide (ver ≥ lo')))) (some c') (ev (upd (upd σ (some a') (ev σ (.tmp x.ver))) (some b') (.bool (decide (ver ≥ lo')))) (.tmp b')))
          (decide (ver ≥ lo')) (by simp)
        rw [hyc]
        by_cases hlo : ver ≥ lo'
        · simp only [hlo, decide_true, BEq.rfl, if_true]
          refine OpK.move ?_
          have hyc2 : ∀ v, yv ops (upd (upd (upd (upd σ (some a') (ev σ (.tmp x.ver))) (some b') (.bool true)) (some c') (ev (upd (upd σ (some a') (ev σ (.tmp x.ver))) (some b') (.bool true)) (.tmp b'))) (some d') v) 2 = some true :=
            fun v => hy _ true (by rw [upd_ne _ _ hcd]; simp)
          rw [hyc2]
          simp only [BEq.rfl, if_true]
          refine OpK.cmp (op := .leq) (k := .i16) (a := ver) (b := hi') rfl (by
            simp only [ev_tmp, upd_same]
            rw [upd_ne _ _ (Ne.symm hc.1), upd_ne _ _ (Ne.symm hb.1), upd_ne _ _ (Ne.symm ha.1), hv]) rfl ?_
          refine OpK.pick (b := true) (by simp only [ev_tmp]; rw [upd_ne _ _ hce, upd_ne _ _ hcd]; simp) ?_
          simp only [if_true, ev_tmp, upd_same]
          refine fin _ (decide (ver ≤ hi')) (by simp) (by simp [hlo]) fun t h1 h2 h3 h4 h5 h6 => ?_
          rw [upd_ne _ _ h6, upd_ne _ _ h5, upd_ne _ _ h4, upd_ne _ _ h3, upd_ne _ _ h2, upd_ne _ _ h1]
        · have hfalse : (decide (ver ≥ lo')) = false := by simpa using hlo
          simp only [hfalse, show ((some false : Option Bool) == some true) = false from rfl, Bool.false_eq_true, if_false]
          have hyc2 : yv ops (upd (upd (upd (upd σ (some a') (ev σ (.tmp x.ver))) (some b') (.bool false)) (some c') (ev (upd (upd σ (some a') (ev σ (.tmp x.ver))) (some b') (.bool false)) (.tmp b'))) (some d') undef) 2 = some false :=
            hy _ false (by rw [upd_ne _ _ hcd]; simp)
          rw [hyc2]
          simp only [show ((some false : Option Bool) == some true) = false from rfl, Bool.false_eq_true, if_false]
          refine OpK.pick (b := false) (by simp only [ev_tmp]; rw [upd_ne _ _ hce, upd_ne _ _ hcd]; simp) ?_
          simp only [Bool.false_eq_true, if_false, ev_const]
          refine fin _ false (by simp) (by simp; intro h; exact absurd h hlo) fun t h1 h2 h3 h4 h5 h6 => ?_
          rw [upd_ne _ _ h6, upd_ne _ _ h5, upd_ne _ _ h4, upd_ne _ _ h3, upd_ne _ _ h2, upd_ne _ _ h1]
      · cases h
    · cases h
  · cases h

end Go.Kx

/- Lists, tags and parts that may be null. -/
namespace Go.Kx
open Go.RowKit
set_option linter.unusedSimpArgs false
set_option linter.unusedVariables false

/-! ### A field that some versions have -/
def withVc (x : Sl) (L : List Nat) (c : Vc) (body : List Code → Option (List Code)) (cs : List Code) : Option (List Code) :=
  match c with
  | .all => body cs
  | .ge m => match verGe x L m cs with
    | some (A, rest) => match body (flat A) with
      | some [] => some rest
      | _ => none
    | none => none
  | .rng lo hi => match verRng x L lo hi cs with
    | some (A, rest) => match body (flat A) with
      | some [] => some rest
      | _ => none
    | none => none

section
variable {P : Program} {n : Nat} {e : TypeId} {w0 : World} {d0 : Value} {S : Nat → Prop} {full : Bool} {tab : List (Nat × Ap)} {L : List Nat} {x : Sl} {cs rest : List Code} {Pre : Fm → Prop} {out : List UInt8} {ver : Int}

theorem withVc_step {c : Vc} {body : List Code → Option (List Code)} (h : withVc x L c body cs = some rest) (hP : ∀ σ σ', Pre σ → (∀ t ∈ L, σ' t = σ t) → Pre σ') (hver : ∀ σ, Pre σ → σ x.ver = .int .i16 ver)
    (hb : ∀ cs rest, body cs = some rest → Step P n e w0 d0 x.dst L Pre cs rest out) : Step P n e w0 d0 x.dst L Pre cs rest (if c.ok ver then out else []) := by
  unfold withVc at h
  cases c with
  | all => exact hb cs rest h
  | ge m =>
    simp only at h
    split at h
    · rename_i A rest' hg
      split at h
      · rename_i hbody
        simp only [Option.some.injEq] at h
        subst h
        intro σ w bs Q hp hgr hl hk
        refine verGe_sound hg (hver σ hp) fun σ1 hd hL => ?_
        by_cases hm : ver ≥ m
        · rw [if_pos hm]
          simp only [Vc.ok, hm, decide_true, if_true] at hl hk
          exact (hb _ _ hbody).inner (hP _ _ hp hL) (by rw [hd]; exact hgr) hl fun σ' w' hg' he => hk σ' w' hg' fun t ht => (he t ht).trans (hL t ht)
        · rw [if_neg hm]
          simp only [Vc.ok, hm, decide_false, Bool.false_eq_true, if_false, List.append_nil] at hk
          exact hk σ1 w (by rw [hd]; exact hgr) hL
      · cases h
    · cases h
  | rng lo hi =>
    simp only at h
    split at h
    · rename_i A rest' hg
      split at h
      · rename_i hbody
        simp only [Option.some.injEq] at h
        subst h
        intro σ w bs Q hp hgr hl hk
        refine verRng_sound hg (hver σ hp) fun σ1 hd hL => ?_
        by_cases hm : ver ≥ lo ∧ ver ≤ hi
        · rw [if_pos hm]
          simp only [Vc.ok, hm, decide_true, Bool.and_self, if_true] at hl hk
          exact (hb _ _ hbody).inner (hP _ _ hp hL) (by rw [hd]; exact hgr) hl fun σ' w' hg' he => hk σ' w' hg' fun t ht => (he t ht).trans (hL t ht)
        · rw [if_neg hm]
          have hok : (Vc.rng lo hi).ok ver = false := by
            simp only [Vc.ok, Bool.and_eq_false_iff, decide_eq_false_iff_not]
            by_cases h1 : ver ≥ lo
            · exact .inr fun h2 => hm ⟨h1, h2⟩
            · exact .inl h1
          simp only [hok, Bool.false_eq_true, if_false, List.append_nil] at hk
          exact hk σ1 w (by rw [hd]; exact hgr) hL
      · cases h
    · cases h
end

/-! ### How many things a list has -/
theorem rep_arr {w : World} {S : Nat → Prop} {t : Ty} {v : V} {cs : List Value} (h : Rep w S (.arr t) v cs) :
    ∃ a c, ldv (.arr t) cs = .slice a v.elems.length c ∧ a.isNone = v.isNil ∧ v.elems.length ≤ 9223372036854775807 ∧
      ∀ i u, v.elems[i]? = some u → ∃ g, a = some ⟨g, 0, none⟩ ∧ S g ∧ Is w S g (i * t.size) t u := by
  cases v with
  | arrN =>
    simp only [Rep] at h
    subst h
    exact ⟨none, 0, rfl, rfl, by simp [V.elems], fun i u hu => by simp [V.elems] at hu⟩
  | arr l =>
    simp only [Rep] at h
    obtain ⟨g, c, rfl, hl, hg, hall⟩ := h
    refine ⟨some ⟨g, 0, none⟩, c, rfl, rfl, Nat.le_trans hl.1 hl.2, fun i u hu => ⟨g, rfl, hg, ?_⟩⟩
    obtain ⟨ci, hr, hn, ha⟩ := hall i u hu
    exact ⟨ci, hr, ha⟩
  | _ => exact h.elim

def lenOne (P : Program) (tab : List (Nat × Ap)) (L : List Nat) (dst v : Nat) (fx : Bool) (cs : List Code) : Bool :=
  match cs with
  | [c] => match canR c with
    | some ⟨[(o1, _), (o2, _)], (d, 3) :: b⟩ => match asLen o1, asCall o2 with
      | some (.tmp v2, t), some (f, [.tmp d2, .tmp 1]) => v2 == 2 * v && d2 == 2 * dst && d == dst && (elemSize P t).isSome && apAt tab f == some (.len fx) && free L ((d, 3) :: b)
      | _, _ => false
    | _ => false
  | _ => false

def lenNul (P : Program) (tab : List (Nat × Ap)) (L : List Nat) (dst v : Nat) (fx : Bool) (cs : List Code) : Bool :=
  match cs with
  | [c] => match canR c with
    | some ⟨[(o1, _), (.binOp .eql t2 (.tmp v3) (.const (.slice none 0 0)) _, _), (o2, _)], (d, 5) :: b⟩ => match asLen o1, asCall o2 with
      | some (.tmp v2, t), some (f, [.tmp d2, .tmp 1, .tmp 3]) =>
        v2 == 2 * v && v3 == 2 * v && d2 == 2 * dst && d == dst && (elemSize P t).isSome && (elemSize P t2).isSome && apAt tab f == some (.nlen fx) && free L ((d, 5) :: b)
      | _, _ => false
    | _ => false
  | _ => false

def lenAny (P : Program) (tab : List (Nat × Ap)) (L : List Nat) (dst v : Nat) (nul fx : Bool) (cs : List Code) : Bool :=
  if nul then lenNul P tab L dst v fx cs else lenOne P tab L dst v fx cs

def chkLen (P : Program) (tab : List (Nat × Ap)) (x : Sl) (L : List Nat) (v : Nat) (nul : Bool) (cs : List Code) : Option (List Code) :=
  if x.flx.isSome then
    match condFlex x (v :: L) cs with
    | some (A, B, rest) => if lenAny P tab (v :: L) x.dst v nul true (flat A) && lenAny P tab (v :: L) x.dst v nul false (flat B) then some rest else none
    | none => none
  else match cs with
    | c :: rest => if lenAny P tab (v :: L) x.dst v nul false [c] then some rest else none
    | _ => none

section
variable {P : Program} {n : Nat} {e : TypeId} {w0 : World} {d0 : Value} {S : Nat → Prop} {full : Bool} {tab : List (Nat × Ap)} {L : List Nat} {x : Sl} {cs rest : List Code} {dst : Nat}

theorem lenAny_step (hs : Sound P e full tab) {s : Nat} {nul fx : Bool} {t : Ty} {v : V} (h : lenAny P tab L dst s nul fx cs = true) :
    Step P n e w0 d0 dst L (Has w0 S (.arr t) v s) cs [] (encLen fx nul v) := by
  intro σ w bs Q ⟨cs0, hr, hv⟩ hg hl hk
  obtain ⟨a, c, hval, hnil, hc, _⟩ := rep_arr hr
  rw [hval] at hv
  unfold lenAny at h
  split at h
  · rename_i hnul
    unfold lenNul at h
    split at h
    · rename_i c1
      split at h
      · rename_i o1 ty1 t2 v3 u ty2 o2 ty3 d b hcan
        split at h
        · rename_i v2 t1 f d2 h1 h2
          simp only [Bool.and_eq_true, beq_iff_eq] at h
          obtain ⟨⟨⟨⟨⟨⟨⟨rfl, rfl⟩, rfl⟩, rfl⟩, ht1⟩, ht2⟩, hf⟩, hfree⟩ := h
          obtain ⟨s1, hs1⟩ := Option.isSome_iff_exists.1 ht1
          obtain ⟨s2, hs2⟩ := Option.isSome_iff_exists.1 ht2
          obtain ⟨hcall, hok⟩ := hs.ok f _ hf
          refine CWL.reg hcan (OpK.asLen h1 hs1 (by simp only [ev_tmp, enF_two]; exact hv) ?_)
          refine OpK.eqNilSlice hs2 (by simp only [ev_tmp, upd_odd _ _ _ _ (show (2 * 0 + 1) % 2 = 1 by omega), enF_two]; exact hv) rfl ?_
          refine OpK.asCall h2 hcall rfl ?_
          simp only [List.map_cons, List.map_nil, ev_tmp, upd_odd _ _ _ _ (show (2 * 0 + 1) % 2 = 1 by omega), upd_odd _ _ _ _ (show (2 * (0 + 1) + 1) % 2 = 1 by omega), enF_two]
          have e1 : encLen fx nul v = if a.isNone then (if fx then uvar 0 else be 4 (-1)) else encN fx v.elems.length := by
            unfold encLen encN
            rw [hnul, Bool.true_and, hnil]
          rw [e1] at hl hk
          have := hok w v.elems.length a.isNone (σ d) bs hg.own hl
          simp only [upd, show ¬ (1 : Nat) = 3 by omega, if_true, if_false, Nat.mul_zero, Nat.zero_add, Nat.mul_one, Nat.reduceAdd]
          refine this.mono fun en w' ⟨d', he, hg'⟩ => ⟨d', he, hk _ w' ?_ fun t ht => ?_⟩
          · rw [outF_head]; simpa [upd] using hg.trans hg'
          · rw [outF_free hfree ht, if_neg (by omega), if_neg (by omega), if_neg (by omega), enF_two]
        · cases h
      · cases h
    · cases h
  · rename_i hnul
    unfold lenOne at h
    split at h
    · rename_i c1
      split at h
      · rename_i o1 ty1 o2 ty3 d b hcan
        split at h
        · rename_i v2 t1 f d2 h1 h2
          simp only [Bool.and_eq_true, beq_iff_eq] at h
          obtain ⟨⟨⟨⟨⟨rfl, rfl⟩, rfl⟩, ht1⟩, hf⟩, hfree⟩ := h
          obtain ⟨s1, hs1⟩ := Option.isSome_iff_exists.1 ht1
          obtain ⟨hcall, hok⟩ := hs.ok f _ hf
          refine CWL.reg hcan (OpK.asLen h1 hs1 (by simp only [ev_tmp, enF_two]; exact hv) ?_)
          refine OpK.asCall h2 hcall rfl ?_
          simp only [List.map_cons, List.map_nil, ev_tmp, upd_odd _ _ _ _ (show (2 * 0 + 1) % 2 = 1 by omega), enF_two]
          have e1 : encLen fx nul v = encN fx v.elems.length := by
            unfold encLen encN
            rw [show nul = false by simpa using hnul, Bool.false_and]
            simp
          rw [e1] at hl hk
          have := hok w v.elems.length (σ d) bs hg.own hl
          simp only [upd, if_true, Nat.mul_zero, Nat.zero_add]
          refine this.mono fun en w' ⟨d', he, hg'⟩ => ⟨d', he, hk _ w' ?_ fun t ht => ?_⟩
          · rw [outF_head]; simpa [upd] using hg.trans hg'
          · rw [outF_free hfree ht, if_neg (by omega), if_neg (by omega), enF_two]
        · cases h
      · cases h
    · cases h

theorem chkLen_step (hs : Sound P e full tab) {s : Nat} {fx : Bool} (hfx : x.flx = none → fx = false) {nul : Bool} {t : Ty} {v : V} (h : chkLen P tab x L s nul cs = some rest) :
    Step P n e w0 d0 x.dst (s :: L) (fun σ => Flx x fx σ ∧ Has w0 S (.arr t) v s σ) cs rest (encLen fx nul v) := by
  unfold chkLen at h
  split at h
  · split at h
    · rename_i A B rest' hc
      split at h
      · rename_i hh
        simp only [Option.some.injEq] at h
        subst h
        simp only [Bool.and_eq_true] at hh
        intro σ w bs Q ⟨hfl, cs0, hr, hv⟩ hg hl hk
        refine condFlex_sound hc hfl fun σ1 hd hL => ?_
        have hHas : Has w0 S (.arr t) v s σ1 := ⟨cs0, hr, (hL s (by simp)).trans hv⟩
        have hstep : Step P n e w0 d0 x.dst (s :: L) (Has w0 S (.arr t) v s) (flat (if fx then A else B)) [] (encLen fx nul v) := by
          cases fx
          · exact lenAny_step hs hh.2
          · exact lenAny_step hs hh.1
        exact hstep.inner hHas (by rw [hd]; exact hg) hl fun σ' w' hg' he => hk σ' w' hg' fun t ht => (he t ht).trans (hL t ht)
      · cases h
    · cases h
  · rename_i hx
    obtain rfl := hfx (by simpa using hx)
    split at h
    · rename_i c rest'
      split at h
      · rename_i h1
        simp only [Option.some.injEq] at h
        subst h
        intro σ w bs Q ⟨hfl, hHas⟩ hg hl hk
        exact CWL.append (a := [c]) (b := rest') ((lenAny_step (t := t) hs h1).inner hHas hg hl hk)
      · cases h
    · cases h
end

/-! ### A loop over a list -/
structure Lp where
  ix : Nat
  ln : Nat
  inner : Code
  rest : List Code

def isExit (c : Code) (id : Nat) : Bool := match c with | .exit j => j == id | _ => false
theorem isExit_spec {c : Code} {id : Nat} (h : isExit c id = true) : c = .exit id := by
  unfold isExit at h
  split at h
  · rw [beq_iff_eq.1 h]
  · cases h

def chkLoop (P : Program) (L : List Nat) (dst v : Nat) (cs : List Code) : Option Lp :=
  match cs with
  | c :: .block id1 (.loop body) :: rest =>
    match canR c, flat body with
    | some ⟨[(o1, _), (.move (.const (.int .i64 0)), _)], (ix, 3) :: (ln, 1) :: b⟩, [c1, .cond (.tmp tc') A B, .block id2 inner, c2] =>
      match asLen o1, canR c1, canR c2 with
      | some (.tmp v2, t), some ⟨[(.binOp .lss _ (.tmp ix2) (.tmp ln2) _, _)], (tc, 1) :: b1⟩, some ⟨[(.binOp .add _ (.tmp ix3) (.const (.int .i64 1)) _, _)], (ix', 1) :: b2⟩ =>
        if v2 == 2 * v && (elemSize P t).isSome && ix2 == 2 * ix && ln2 == 2 * ln && ix3 == 2 * ix && ix' == ix && tc == tc' && ix != ln && (flat A).isEmpty && isExit B id1 && id1 != id2 &&
          free (dst :: v :: L) ((ix, 3) :: (ln, 1) :: b) && free (dst :: ix :: ln :: v :: L) ((tc, 1) :: b1) && free (dst :: ln :: v :: L) ((ix', 1) :: b2) then some ⟨ix, ln, inner, rest⟩ else none
      | _, _, _ => none
    | _, _ => none
  | _ => none

section
variable {P : Program} {n : Nat} {e : TypeId} {w0 : World} {d0 : Value} {L : List Nat} {dst : Nat} {cs : List Code} {Pre : Fm → Prop}

theorem flatMap_take_succ {α β : Type} (f : α → List β) (l : List α) (i : Nat) (x : α) (h : l[i]? = some x) : (l.take (i + 1)).flatMap f = (l.take i).flatMap f ++ f x := by
  have hlt : i < l.length := (List.getElem?_eq_some_iff.1 h).1
  have hx : l[i] = x := (List.getElem?_eq_some_iff.1 h).2
  rw [List.take_succ_eq_append_getElem hlt, List.flatMap_append]
  simp [hx]

theorem len_flatMap_take {α β : Type} (f : α → List β) (l : List α) (i : Nat) : ((l.take i).flatMap f).length ≤ (l.flatMap f).length := by
  conv => rhs; rw [← List.take_append_drop i l, List.flatMap_append, List.length_append]
  omega

theorem chkLoop_step {v : Nat} {lp : Lp} (h : chkLoop P L dst v cs = some lp) (l : List V) (hlen : l.length ≤ 9223372036854775807) (f : V → List UInt8) (hP : ∀ σ σ', Pre σ → (∀ t ∈ v :: L, σ' t = σ t) → Pre σ')
    (hv : ∀ σ, Pre σ → ∃ a c, σ v = .slice a l.length c)
    (hin : ∀ (i : Nat) (u : V), l[i]? = some u → Step P n e w0 d0 dst (lp.ix :: lp.ln :: v :: L) (fun σ => Pre σ ∧ σ lp.ix = .int .i64 (i : Int)) (flat lp.inner) [] (f u)) :
    Step P n e w0 d0 dst L Pre cs lp.rest (l.flatMap f) := by
  unfold chkLoop at h
  split at h
  · rename_i c id1 body rest
    split at h
    · rename_i o1 ty1 ty2 ix ln b c1 tc' A B id2 inner c2 hcan hbody
      split at h
      · rename_i v2 t u1 ix2 ln2 u2 ty3 tc b1 u3 ix3 u4 ty4 ix' b2 h1 hcan1 hcan2
        split at h
        · rename_i hh
          simp only [Option.some.injEq] at h
          subst h
          simp only [Bool.and_eq_true, beq_iff_eq, bne_iff_ne, ne_eq, List.isEmpty_iff] at hh
          obtain ⟨⟨⟨⟨⟨⟨⟨⟨⟨⟨⟨⟨⟨rfl, ht⟩, rfl⟩, rfl⟩, rfl⟩, rfl⟩, rfl⟩, hne⟩, hA⟩, hB⟩, hid⟩, hfree⟩, hfree1⟩, hfree2⟩ := hh
          obtain ⟨es, hes⟩ := Option.isSome_iff_exists.1 ht
          obtain rfl := isExit_spec hB
          intro σ w bs Q hp hg hl hk
          obtain ⟨a, cc, hsl⟩ := hv σ hp
          refine CWL.reg hcan (OpK.asLen h1 hes (by simp only [ev_tmp, enF_two]; exact hsl) ?_)
          refine OpK.move ?_
          simp only [RC, ev_const]
          -- behind the head: the count, the first place
          generalize hσ1 : outF ((ix', 3) :: (ln, 1) :: b) (upd (upd (enF σ) (some (2 * 0 + 1)) (Value.int .i64 ↑l.length)) (some (2 * (0 + 1) + 1)) (Value.int .i64 0)) = σ1
          have hix : σ1 ix' = .int .i64 ((0 : Nat) : Int) := by rw [← hσ1, outF_head]; simp [upd]
          have hln : σ1 ln = .int .i64 (l.length : Int) := by
            rw [← hσ1]
            simp [outF, look, hne, upd]
          have hkeep : ∀ t ∈ dst :: v :: L, σ1 t = σ t := fun t ht => by
            rw [← hσ1, outF_free hfree ht]
            show upd _ (some 3) _ (2 * t) = _
            rw [upd_odd _ _ _ _ (by omega)]
            show upd _ (some 1) _ (2 * t) = _
            rw [upd_odd _ _ _ _ (by omega), enF_two]
          refine CWL.cons (CW.block (CW.loop (fun m σ' w' => ∃ i : Nat, m = l.length - i ∧ i ≤ l.length ∧ σ' ix' = .int .i64 (i : Int) ∧ σ' ln = .int .i64 (l.length : Int) ∧ (∀ t ∈ v :: L, σ' t = σ t) ∧
            Grew e w0 d0 w' (σ' dst) (bs ++ (l.take i).flatMap f)) l.length ⟨0, by omega, by omega, hix, hln, fun t ht => hkeep t (by simp [ht]), by
              rw [hkeep dst (by simp)]; simpa using hg⟩ ?_))
          rintro m σ2 w2 ⟨i, rfl, hi, hix2, hln2, hkeep2, hg2⟩
          refine CW.of_flat ?_
          rw [hbody]
          refine CWL.reg hcan1 (OpK.cmp (op := .lss) (k := .i64) (a := (i : Int)) (b := (l.length : Int)) rfl (by simp only [ev_tmp, enF_two]; exact hix2) (by simp only [ev_tmp, enF_two]; exact hln2) ?_)
          simp only [RC]
          generalize hσ3 : outF ((tc, 1) :: b1) (upd (enF σ2) (some (2 * 0 + 1)) (Value.bool (decide ((i : Int) < (l.length : Int))))) = σ3
          have htc : σ3 tc = .bool (decide ((i : Int) < (l.length : Int))) := by rw [← hσ3, outF_head]; simp [upd]
          have hkeep3 : ∀ t ∈ dst :: ix' :: ln :: v :: L, σ3 t = σ2 t := fun t ht => by
            rw [← hσ3, outF_free hfree1 ht]
            show upd _ (some 1) _ (2 * t) = _
            rw [upd_odd _ _ _ _ (by omega), enF_two]
          by_cases hlt : i < l.length
          · obtain ⟨u, hu⟩ : ∃ u, l[i]? = some u := ⟨l[i], List.getElem?_eq_getElem hlt⟩
            refine CWL.cons (CW.cond (t := true) (by simp only [ev_tmp, htc]; congr 1; simp; omega) (CW.of_flat ?_))
            simp only [if_true, hA]
            -- one round
            have hP3 : Pre σ3 := hP σ σ3 hp fun t ht => (hkeep3 t (List.mem_cons_of_mem _ (List.mem_cons_of_mem _ (List.mem_cons_of_mem _ ht)))).trans (hkeep2 t ht)
            have hl3 : bs.length + ((l.take i).flatMap f).length + (f u).length ≤ Lim := by
              have h1 := len_flatMap_take f l (i + 1)
              rw [flatMap_take_succ f l i u hu, List.length_append] at h1
              omega
            refine CWL.cons (CW.block (CW.of_flat ((hin i u hu) σ3 w2 (bs ++ (l.take i).flatMap f) _ ⟨hP3, by rw [hkeep3 ix' (by simp)]; exact hix2⟩ (by rw [hkeep3 dst (by simp)]; exact hg2)
              (by rw [List.length_append]; exact hl3) fun σ4 w4 hg4 he4 => ?_)))
            have hk4 : ∀ t ∈ ix' :: ln :: v :: L, σ4 t = σ2 t := fun t ht => (he4 t ht).trans (hkeep3 t (List.mem_cons_of_mem _ ht))
            refine CWL.reg hcan2 (OpK.arith (op := .add) (k := .i64) (a := (i : Int)) (b := 1) rfl (by simp only [ev_tmp, enF_two]; rw [hk4 ix' (by simp)]; exact hix2) rfl ?_)
            simp only [RC]
            refine ⟨l.length - (i + 1), by omega, i + 1, rfl, by omega, ?_, ?_, ?_, ?_⟩
            · rw [outF_head]
              simp only [upd, if_true, Nat.mul_zero, Nat.zero_add]
              congr 1
              rw [IntKind.wrap_i64]
              omega
            · rw [outF_free hfree2 (by simp)]
              show upd _ (some 1) _ (2 * ln) = _
              rw [upd_odd _ _ _ _ (by omega), enF_two, hk4 ln (by simp)]
              exact hln2
            · intro t ht
              rw [outF_free hfree2 (List.mem_cons_of_mem _ (List.mem_cons_of_mem _ ht))]
              show upd _ (some 1) _ (2 * t) = _
              rw [upd_odd _ _ _ _ (by omega), enF_two, hk4 t (List.mem_cons_of_mem _ (List.mem_cons_of_mem _ ht))]
              exact hkeep2 t ht
            · rw [outF_free hfree2 (by simp)]
              show Grew e w0 d0 w4 (upd _ (some 1) _ (2 * dst)) _
              rw [upd_odd _ _ _ _ (by omega), enF_two, flatMap_take_succ f l i u hu, ← List.append_assoc]
              exact hg4
          · have hil : i = l.length := by omega
            refine CWL.cons (CW.cond (t := false) (by simp only [ev_tmp, htc]; congr 1; simp; omega) (CW.of_flat ?_))
            simp only [Bool.false_eq_true, if_false, flat]
            refine CWL.cons (CW.exit ?_)
            simp only [Then, InBlock, if_true]
            refine hk σ3 w2 ?_ fun t ht => (hkeep3 t (by simp [ht])).trans (hkeep2 t (by simp [ht]))
            rw [hkeep3 dst (by simp)]
            rw [hil, List.take_length] at hg2
            exact hg2
        · cases h
      · cases h
    · cases h
  · cases h
end

end Go.Kx

/- The check of all fields of a part, and of a function that writes a message. -/
namespace Go.Kx
open Go.RowKit
set_option linter.unusedSimpArgs false
set_option linter.unusedVariables false

/-! ### The head of a round: the place, the thing at that place -/
def idxOf (L : List Nat) (ix : Nat) (c : Code) : Option Nat :=
  match canR c with
  | some ⟨[], (i, s) :: b⟩ => if s == 2 * ix && free L ((i, s) :: b) then some i else none
  | _ => none
def elemLoad (P : Program) (L : List Nat) (v i : Nat) (ty : Ty) (c : Code) : Option Nat :=
  match canR c with
  | some ⟨[(.indexAddr t (.tmp v2) (.tmp i2), _), (.load lt (.tmp 1), _)], (u, 3) :: b⟩ => if v2 == 2 * v && i2 == 2 * i && elemSize P t == some ty.size && loadOk P lt ty && free L ((u, 3) :: b) then some u else none
  | _ => none
def elemAddr (P : Program) (L : List Nat) (v i sz : Nat) (c : Code) : Option Nat :=
  match canR c with
  | some ⟨[(.indexAddr t (.tmp v2) (.tmp i2), _)], (u, 1) :: b⟩ => if v2 == 2 * v && i2 == 2 * i && elemSize P t == some sz && free L ((u, 1) :: b) then some u else none
  | _ => none

section
variable {P : Program} {n : Nat} {L : List Nat} {σ : Fm} {w : World} {Q : Exit → Fm → World → Prop} {rest : List Code} {c : Code}

theorem idxOf_sound {ix i : Nat} (h : idxOf L ix c = some i) (hk : ∀ σ', (∀ t ∈ L, σ' t = σ t) → σ' i = σ ix → CWL P n rest σ' w Q) : CWL P n (c :: rest) σ w Q := by
  unfold idxOf at h
  split at h
  · rename_i i' s b hc
    split at h
    · rename_i hh
      simp only [Option.some.injEq] at h
      subst h
      simp only [Bool.and_eq_true, beq_iff_eq] at hh
      obtain ⟨rfl, hfree⟩ := hh
      refine CWL.reg hc ?_
      simp only [RC]
      exact hk _ (fun t ht => by rw [outF_free hfree ht, enF_two]) (by rw [outF_head, enF_two])
    · cases h
  · cases h

theorem elemLoad_sound {v i u : Nat} {ty : Ty} (h : elemLoad P L v i ty c = some u) {S : Nat → Prop} {g N cc j : Nat} {x : V} (hv : σ v = .slice (some ⟨g, 0, none⟩) N cc) (hi : σ i = .int .i64 (j : Int)) (hj : j < N)
    (hx : Is w S g (j * ty.size) ty x) (hk : ∀ σ', (∀ t ∈ L, σ' t = σ t) → (∃ cs, Rep w S ty x cs ∧ σ' u = ldv ty cs) → CWL P n rest σ' w Q) : CWL P n (c :: rest) σ w Q := by
  unfold elemLoad at h
  split at h
  · rename_i t v2 i2 ty1 lt ty2 u' b hc
    split at h
    · rename_i hh
      simp only [Option.some.injEq] at h
      subst h
      simp only [Bool.and_eq_true, beq_iff_eq] at hh
      obtain ⟨⟨⟨⟨rfl, rfl⟩, hs⟩, hlo⟩, hfree⟩ := hh
      refine CWL.reg hc (OpK.indexAddr hs (k := .i64) (j := j) (by simp only [ev_tmp, enF_two]; exact hv) (by simp only [ev_tmp, enF_two]; exact hi) hj ?_)
      refine OpK.loadKind hlo (S := S) (g := g) (o := j * ty.size) (v := x) (by simp [upd, add_at]) hx fun cs hr => ?_
      refine hk _ (fun t ht => ?_) ⟨cs, hr, by rw [outF_head]; simp [upd]⟩
      rw [outF_free hfree ht, upd_odd _ _ _ _ (by omega), upd_odd _ _ _ _ (by omega), enF_two]
    · cases h
  · cases h

theorem elemAddr_sound {v i u sz : Nat} (h : elemAddr P L v i sz c = some u) {g N cc j : Nat} (hv : σ v = .slice (some ⟨g, 0, none⟩) N cc) (hi : σ i = .int .i64 (j : Int)) (hj : j < N)
    (hk : ∀ σ', (∀ t ∈ L, σ' t = σ t) → σ' u = .pointer (some ⟨g, j * sz, none⟩) → CWL P n rest σ' w Q) : CWL P n (c :: rest) σ w Q := by
  unfold elemAddr at h
  split at h
  · rename_i t v2 i2 ty1 u' b hc
    split at h
    · rename_i hh
      simp only [Option.some.injEq] at h
      subst h
      simp only [Bool.and_eq_true, beq_iff_eq] at hh
      obtain ⟨⟨⟨rfl, rfl⟩, hs⟩, hfree⟩ := hh
      refine CWL.reg hc (OpK.indexAddr hs (k := .i64) (j := j) (by simp only [ev_tmp, enF_two]; exact hv) (by simp only [ev_tmp, enF_two]; exact hi) hj ?_)
      simp only [RC]
      refine hk _ (fun t ht => ?_) (by rw [outF_head]; simp [upd, add_at])
      rw [outF_free hfree ht, upd_odd _ _ _ _ (by omega), enF_two]
    · cases h
  · cases h
end

/-! ### One octet is written -/
def isOct (P : Program) (e t : TypeId) : Bool := match P.underlying t with | some (.slice e') => e' == e | _ => false
theorem isOct_spec {P : Program} {e t : TypeId} (h : isOct P e t = true) : P.underlying t = some (.slice e) := by
  unfold isOct at h
  split at h
  · rename_i e' he
    rw [he, beq_iff_eq.1 h]
  · cases h

theorem asApp_spec {op : Op} {x y : Operand} {t u : TypeId} (h : asApp op = some (x, y, t, u)) : op = .call ⟨.builtin .append, #[x, y], #[t, u]⟩ := by
  unfold asApp at h
  split at h
  · rename_i args ats
    split at h
    · rename_i x' y' t' u' h1 h2
      simp only [Option.some.injEq, Prod.mk.injEq] at h
      obtain ⟨rfl, rfl, rfl, rfl⟩ := h
      rw [arr_of_list h1, arr_of_list h2]
    · cases h
  · cases h

def octOf (P : Program) (e : TypeId) (L : List Nat) (dst : Nat) (m : UInt8) (c : Code) : Bool :=
  match canR c with
  | some ⟨[(.buildSlice t 1 parts, _), (o2, _)], (d, 3) :: b⟩ => match asApp o2, parts.toList with
    | some (.tmp d2, .tmp 1, t1, t2), [(0, .const (.int .u8 m'))] => d2 == 2 * dst && d == dst && m' == (m.toNat : Int) && isOct P e t && isOct P e t1 && t1 == t2 && free L ((d, 3) :: b)
    | _, _ => false
  | _ => false

theorem octOf_step {P : Program} {n : Nat} {e : TypeId} {w0 : World} {d0 : Value} {L : List Nat} {dst : Nat} {m : UInt8} {c : Code} {rest : List Code} {Pre : Fm → Prop} (he : U8 P e) (h : octOf P e L dst m c = true) :
    Step P n e w0 d0 dst L Pre (c :: rest) rest [m] := by
  intro σ w bs Q hp hg hl hk
  unfold octOf at h
  split at h
  · rename_i t parts ty1 o2 ty2 d b hcan
    split at h
    · rename_i d2 t1 t2 m' happ hparts
      simp only [Bool.and_eq_true, beq_iff_eq] at h
      obtain ⟨⟨⟨⟨⟨⟨rfl, rfl⟩, rfl⟩, ht⟩, ht1⟩, rfl⟩, hfree⟩ := h
      have hsl := isOct_spec ht
      have hsl1 := isOct_spec ht1
      obtain rfl := asApp_spec happ
      obtain rfl := arr_of_list hparts
      refine CWL.reg hcan (OpK.buildS (by simp only [List.map_toArray, List.map_cons, List.map_nil, ev_const]; exact run_bs1 (P := P) (w := w) hsl he (m.toNat : Int)) ?_)
      obtain ⟨v', w', hr, hg'⟩ := append_lit (ty := ty2) hsl1 he hg.own [m] hl
      refine OpK.run rfl (v := v') (w' := w') ?_ ?_
      · simp only [ev_tmp, upd_odd _ _ _ _ (show (2 * 0 + 1) % 2 = 1 by omega), enF_two]
        simpa [upd, bv] using hr
      · refine hk _ w' ?_ fun t ht => ?_
        · rw [outF_head]; simpa [upd] using hg.trans hg'
        · rw [outF_free hfree ht]
          show upd _ (some 3) _ (2 * t) = _
          rw [upd_odd _ _ _ _ (by omega)]
          show upd _ (some 1) _ (2 * t) = _
          rw [upd_odd _ _ _ _ (by omega), enF_two]
    · cases h
  · cases h

/-! ### Is a part null? -/
def isPtr (P : Program) (t : TypeId) : Bool := match P.underlying t with | some (.pointer _) => true | _ => false
theorem isPtr_spec {P : Program} {t : TypeId} (h : isPtr P t = true) : ∃ e, P.underlying t = some (.pointer e) := by
  unfold isPtr at h
  split at h
  · rename_i e he; exact ⟨e, he⟩
  · cases h

def nilOf (P : Program) (L : List Nat) (v : Nat) (cs : List Code) : Option (Code × Code × List Code) :=
  match cs with
  | c :: .cond (.tmp tc') A B :: rest => match canR c with
    | some ⟨[(.binOp .eql t (.tmp v2) (.const (.pointer none)) _, _)], (tc, 1) :: b⟩ => if v2 == 2 * v && tc == tc' && isPtr P t && free L ((tc, 1) :: b) then some (A, B, rest) else none
    | _ => none
  | _ => none

theorem nilOf_sound {P : Program} {n : Nat} {L : List Nat} {v : Nat} {cs rest : List Code} {A B : Code} (h : nilOf P L v cs = some (A, B, rest)) {σ : Fm} {w : World} {Q : Exit → Fm → World → Prop} {a : Option Addr}
    (hv : σ v = .pointer a) (hk : ∀ σ', (∀ t ∈ L, σ' t = σ t) → CWL P n (flat (if a.isNone then A else B)) σ' w (Then (fun σ' w' => CWL P n rest σ' w' Q) Q)) : CWL P n cs σ w Q := by
  unfold nilOf at h
  split at h
  · rename_i c tc' A' B' rest'
    split at h
    · rename_i t v2 u ty tc b hcan
      split at h
      · rename_i hh
        simp only [Option.some.injEq, Prod.mk.injEq] at h
        obtain ⟨rfl, rfl, rfl⟩ := h
        simp only [Bool.and_eq_true, beq_iff_eq] at hh
        obtain ⟨⟨⟨rfl, rfl⟩, ht⟩, hfree⟩ := hh
        obtain ⟨e, he⟩ := isPtr_spec ht
        refine CWL.reg hcan (OpK.eqNilPtr he (by simp only [ev_tmp, enF_two]; exact hv) rfl ?_)
        simp only [RC]
        refine CWL.cons (CW.cond (t := a.isNone) (by simp only [ev_tmp, outF_head]; simp [upd]) (CW.of_flat (hk _ fun t ht => ?_)))
        rw [outF_free hfree ht, upd_odd _ _ _ _ (by omega), enF_two]
      · cases h
    · cases h
  · cases h

/-! ### Tags -/
def isU32 (P : Program) (t : TypeId) : Bool := match P.underlying t with | some (.int .u32) => true | _ => false
theorem isU32_spec {P : Program} {t : TypeId} (h : isU32 P t = true) : P.underlying t = some (.int .u32) := by
  unfold isU32 at h
  split at h
  · assumption
  · cases h

def tagLen (P : Program) (tab : List (Nat × Ap)) (L : List Nat) (dst p : Nat) (T : Ty) (k : Nat) (c : Code) : Bool :=
  match canR c, T.fld k with
  | some ⟨[(.nilCheck (.tmp p2), _), (.fieldAddr tid (.tmp 1) k', _), (o1, _), (.convert st dt (.tmp 5), _), (.binOp .add _ (.const (.int .u32 0)) (.tmp 7) _, _), (o2, _)], (d, 11) :: b⟩, some (.tags, off) =>
    match asCall o1, asCall o2 with
    | some (f1, [.tmp 3]), some (f2, [.tmp d2, .tmp 9]) => p2 == 2 * p && fieldOff P tid k' == some off && d2 == 2 * dst && d == dst && (P.underlying st).isSome && isU32 P dt && apAt tab f1 == some .tlen && apAt tab f2 == some .uv && free L ((d, 11) :: b)
    | _, _ => false
  | _, _ => false

def tagEach (P : Program) (tab : List (Nat × Ap)) (L : List Nat) (dst p : Nat) (T : Ty) (k : Nat) (c : Code) : Bool :=
  match canR c, T.fld k with
  | some ⟨[(.nilCheck (.tmp p2), _), (.fieldAddr tid (.tmp 1) k', _), (o1, _)], (d, 5) :: b⟩, some (.tags, off) =>
    match asCall o1 with
    | some (f1, [.tmp 3, .tmp d2]) => p2 == 2 * p && fieldOff P tid k' == some off && d2 == 2 * dst && d == dst && apAt tab f1 == some .teach && free L ((d, 5) :: b)
    | _ => false
  | _, _ => false

section
variable {P : Program} {n : Nat} {e : TypeId} {w0 : World} {d0 : Value} {S : Nat → Prop} {full : Bool} {tab : List (Nat × Ap)} {L : List Nat} {dst p : Nat} {T : Ty} {k g o : Nat} {v : V} {c : Code} {rest : List Code}

theorem tagLen_step (hft : full = true ∨ (v.fld k).tagsOf = []) (hs : Sound P e full tab) (hS : Clear w0 S d0) (hi : Is w0 S g o T v) (hg : S g) (h : tagLen P tab L dst p T k c = true) :
    Step P n e w0 d0 dst L (fun σ => σ p = .pointer (some ⟨g, o, none⟩)) (c :: rest) rest (uvar (word (v.fld k).tagsOf.length)) := by
  intro σ w bs Q hp hgr hl hk
  unfold tagLen at h
  split at h
  · rename_i p2 ty1 tid k' ty2 o1 ty3 st dt ty4 t5 t6 ty5 o2 ty6 d b off hcan hf
    split at h
    · rename_i f1 f2 d2 h1 h2
      simp only [Bool.and_eq_true, beq_iff_eq] at h
      obtain ⟨⟨⟨⟨⟨⟨⟨⟨rfl, hoff⟩, rfl⟩, rfl⟩, hst⟩, hdt⟩, hf1⟩, hf2⟩, hfree⟩ := h
      obtain ⟨hc1, ho1⟩ := hs.ok _ _ hf1
      obtain ⟨hc2, ho2⟩ := hs.ok _ _ hf2
      have hi' := (hi.fld hf).keep (hS.keep hgr) hg
      refine CWL.reg hcan ?_
      refine OpK.nilCheck (a := ⟨g, o, none⟩) (by simp only [ev_tmp, enF_two]; exact hp) ?_
      refine OpK.fieldAddr hoff (a := ⟨g, o, none⟩) (by simp [upd]) ?_
      refine OpK.asCall h1 hc1 rfl ?_
      have hcall := ho1 w S g (o + off) (v.fld k) hft hi'
      simp only [List.map_cons, List.map_nil, ev_tmp, upd_same, add_at, Nat.mul_zero, Nat.zero_add, Nat.mul_one, Nat.reduceAdd]
      refine hcall.mono fun en w1 ⟨he, hw⟩ => ⟨_, he, ?_⟩
      subst hw
      refine OpK.convInt (k := .i64) (n := ((v.fld k).tagsOf.length : Int)) hst (isU32_spec hdt) (by simp [upd]) ?_
      refine OpK.arith (op := .add) (k := .u32) (a := 0) (b := IntKind.u32.wrap ((v.fld k).tagsOf.length : Int)) rfl rfl (by simp [upd]) ?_
      refine OpK.asCall h2 hc2 rfl ?_
      have hw0 : IntKind.u32.wrap (0 + IntKind.u32.wrap ((v.fld k).tagsOf.length : Int)) = (word (v.fld k).tagsOf.length : Int) := by
        rw [IntKind.wrap_u32, IntKind.wrap_u32]
        unfold word
        omega
      have hcall2 := ho2 w1 (word (v.fld k).tagsOf.length) (σ d) bs (by unfold word; omega) hgr.own hl
      simp only [List.map_cons, List.map_nil, ev_tmp, hw0]
      have hd : ∀ (ρ : Fm), (∀ t, ρ (2 * t) = σ t) → ρ (2 * d) = σ d := fun ρ h => h d
      have harg : upd (upd (upd (upd (upd (enF σ) (some 1) (Value.pointer (some ⟨g, o, none⟩))) (some 3) (Value.pointer (some ⟨g, o + off, none⟩))) (some 5) (Value.int IntKind.i64 ↑(v.fld k).tagsOf.length))
          (some 7) (Value.int IntKind.u32 (IntKind.u32.wrap ↑(v.fld k).tagsOf.length))) (some 9) (Value.int IntKind.u32 ↑(word (v.fld k).tagsOf.length)) (2 * d) = σ d := by
        rw [upd_odd _ _ _ _ (by omega), upd_odd _ _ _ _ (by omega), upd_odd _ _ _ _ (by omega), upd_odd _ _ _ _ (by omega), upd_odd _ _ _ _ (by omega), enF_two]
      simp only [Nat.mul_zero, Nat.zero_add, Nat.mul_one, Nat.reduceAdd, Nat.reduceMul] at harg ⊢
      rw [harg, upd_same]
      refine hcall2.mono fun en w2 ⟨d', he2, hg2⟩ => ⟨d', he2, hk _ w2 ?_ fun t ht => ?_⟩
      · rw [outF_head, upd_same]
        exact hgr.trans hg2
      · rw [outF_free hfree ht, upd_odd _ _ _ _ (by omega), upd_odd _ _ _ _ (by omega), upd_odd _ _ _ _ (by omega), upd_odd _ _ _ _ (by omega), upd_odd _ _ _ _ (by omega), upd_odd _ _ _ _ (by omega), enF_two]
    · cases h
  · cases h

theorem tagEach_step (hft : full = true ∨ (v.fld k).tagsOf = []) (hs : Sound P e full tab) (hS : Clear w0 S d0) (hi : Is w0 S g o T v) (hg : S g) (h : tagEach P tab L dst p T k c = true) :
    Step P n e w0 d0 dst L (fun σ => σ p = .pointer (some ⟨g, o, none⟩)) (c :: rest) rest (encEach (v.fld k).tagsOf) := by
  intro σ w bs Q hp hgr hl hk
  unfold tagEach at h
  split at h
  · rename_i p2 ty1 tid k' ty2 o1 ty3 d b off hcan hf
    split at h
    · rename_i f1 d2 h1
      simp only [Bool.and_eq_true, beq_iff_eq] at h
      obtain ⟨⟨⟨⟨⟨rfl, hoff⟩, rfl⟩, rfl⟩, hf1⟩, hfree⟩ := h
      obtain ⟨hc1, ho1⟩ := hs.ok _ _ hf1
      have hi' := (hi.fld hf).keep (hS.keep hgr) hg
      refine CWL.reg hcan ?_
      refine OpK.nilCheck (a := ⟨g, o, none⟩) (by simp only [ev_tmp, enF_two]; exact hp) ?_
      refine OpK.fieldAddr hoff (a := ⟨g, o, none⟩) (by simp [upd]) ?_
      refine OpK.asCall h1 hc1 rfl ?_
      have hcall := ho1 w S g (o + off) (v.fld k) (σ d) bs hft hi' hg hgr.own (hS.step hgr) hl
      simp only [List.map_cons, List.map_nil, ev_tmp, upd_same, add_at, Nat.mul_zero, Nat.zero_add, Nat.mul_one, Nat.reduceAdd]
      rw [show upd (upd (enF σ) (some 1) (Value.pointer (some ⟨g, o, none⟩))) (some 3) (Value.pointer (some ⟨g, o + off, none⟩)) (2 * d) = σ d by
        rw [upd_odd _ _ _ _ (by omega), upd_odd _ _ _ _ (by omega), enF_two]]
      refine hcall.mono fun en w2 ⟨d', he2, hg2⟩ => ⟨d', he2, hk _ w2 ?_ fun t ht => ?_⟩
      · rw [outF_head, upd_same]
        exact hgr.trans hg2
      · rw [outF_free hfree ht, upd_odd _ _ _ _ (by omega), upd_odd _ _ _ _ (by omega), upd_odd _ _ _ _ (by omega), enF_two]
    · cases h
  · cases h
end

end Go.Kx
