/- The steps that read a value; fields that some versions have. -/
import Derived.Test.YtlmelgjepdbakaaDoorRKxRx
namespace Go.Kx
open Go.RowKit
set_option linter.unusedSimpArgs false
set_option linter.unusedVariables false

/-- What the slots hold while a part is read. -/
structure RP (X : Cx) (fx : Bool) (ver : Int) (q p r g o : Nat) (σ : Fm) : Prop where
  ver : σ X.x.ver = .int .i16 ver
  kn : Kn (X.kn fx) σ
  rdr : σ q = .pointer (some ⟨r, 0, none⟩)
  ptr : σ p = .pointer (some ⟨g, o, none⟩)
/-- Slots that are kept. -/
structure LIn (X : Cx) (fx : Bool) (q p : Nat) (L : List Nat) : Prop where
  ver : X.x.ver ∈ L
  kn : ∀ x ∈ X.kn fx, x.1 ∈ L
  rdr : q ∈ L
  ptr : p ∈ L
theorem RP.keep {X : Cx} {fx : Bool} {ver : Int} {q p r g o : Nat} {σ σ' : Fm} {L : List Nat} (h : RP X fx ver q p r g o σ) (hL : LIn X fx q p L) (he : ∀ t ∈ L, σ' t = σ t) : RP X fx ver q p r g o σ' :=
  ⟨(he _ hL.ver).trans h.ver, fun s b hm => (he s (hL.kn _ hm)).trans (h.kn s b hm), (he _ hL.rdr).trans h.rdr, (he _ hL.ptr).trans h.ptr⟩
theorem LIn.more {X : Cx} {fx : Bool} {q p : Nat} {L L' : List Nat} (h : LIn X fx q p L) (hl : ∀ t ∈ L, t ∈ L') : LIn X fx q p L' :=
  ⟨hl _ h.ver, fun x hx => hl _ (h.kn x hx), hl _ h.rdr, hl _ h.ptr⟩
theorem LIn.to {X : Cx} {fx : Bool} {q p p' : Nat} {L : List Nat} (h : LIn X fx q p L) (hp : p' ∈ L) : LIn X fx q p' L := ⟨h.ver, h.kn, h.rdr, hp⟩

theorem St.step {α : Type} {oo : Option (V × List UInt8)} {v : V} {s s' : Rs} {d : Dc α} {u : α} (h : St oo v s) (hg : Got s.o d u s') (F : V → α → V) : St (oo.bind fun x => (d x.2).map fun y => (F x.1 y.1, y.2)) (F v u) s' := by
  cases oo with
  | none =>
    rw [Got, h.none_] at hg
    exact hg
  | some x =>
    obtain ⟨rfl, ho⟩ := h.good
    rw [Got, ho] at hg
    simp only [Option.bind_some] at hg ⊢
    cases hd : d x.2 with
    | none => rw [hd] at hg; exact hg
    | some y => rw [hd] at hg; exact ⟨by rw [hg.1], hg.2⟩
/-- What is got of what is there. -/
theorem Got.bad {α : Type} {d : Dc α} {u : α} {s s' : Rs} {oo : Option (V × List UInt8)} {v : V} (h : St oo v s) (hg : Got s.o d u s') (hb : s'.bad = true) : (oo.bind fun x => d x.2) = none := by
  cases oo with
  | none => rfl
  | some x =>
    obtain ⟨rfl, ho⟩ := h.good
    rw [Got, ho] at hg
    simp only [Option.bind_some] at hg ⊢
    cases hd : d x.2 with
    | none => rfl
    | some y => rw [hd] at hg; rw [hg.2] at hb; cases hb
theorem Got.good {α : Type} {d : Dc α} {u : α} {s s' : Rs} {oo : Option (V × List UInt8)} {v : V} (h : St oo v s) (hg : Got s.o d u s') (hb : s'.bad = false) : ∃ x l, oo = some (v, x) ∧ d x = some (u, l) ∧ s = ⟨x, false⟩ ∧ s' = ⟨l, false⟩ := by
  cases oo with
  | none =>
    rw [Got, h.none_] at hg
    rw [show s'.bad = true from hg] at hb
    cases hb
  | some x =>
    have hS := h
    obtain ⟨h1, h2⟩ := hS
    obtain ⟨_, ho⟩ := h.good
    rw [Got, ho] at hg
    simp only [Option.bind_some] at hg
    cases hd : d x.2 with
    | none => rw [hd] at hg; rw [show s'.bad = true from hg] at hb; cases hb
    | some y =>
      rw [hd] at hg
      obtain ⟨hu, hs⟩ := hg
      refine ⟨x.2, y.2, by rw [h1], ?_, h2, hs⟩
      rw [hd, hu]

def valMatch (fx : Bool) (w : Wt) (fx' : Bool) (w' : Wt) : Bool := (w' == w || (w == .e8 && w' == .i8)) && (fx' == fx || !w.two)
theorem valMatch_spec {fx fx' : Bool} {w w' : Wt} (h : valMatch fx w fx' w' = true) : w'.ty = w.ty ∧ decW fx' w' = decW fx w := by
  simp only [valMatch, Bool.and_eq_true, Bool.or_eq_true, beq_iff_eq, Bool.not_eq_true'] at h
  obtain ⟨h1, h2⟩ := h
  rcases h1 with rfl | ⟨rfl, rfl⟩
  · refine ⟨rfl, ?_⟩
    rcases h2 with rfl | h2
    · rfl
    · funext l
      cases w' <;> first | rfl | cases h2
  · exact ⟨rfl, by funext l; rfl⟩

/-- A value is read into a field. -/
def rdVal (X : Cx) (fx : Bool) (L : List Nat) (q p : Nat) (T : Ty) (k : Nat) (w : Wt) (cs : List Code) : Option (List Code) :=
  match reach (X.kn fx) L q 8 cs with
  | some (f, d, cs1) => match rfAt X.tab f with
    | some (.val fx' w') => if valMatch fx w fx' w' then
        match movs L 4 d cs1 with
        | (d', c :: cs2) => match storeOf X.P L p T k w.ty c with
          | some vs => if vs == d' then some cs2 else none
          | none => none
        | _ => none
      else none
    | _ => none
  | none => none

theorem Wt.ty_ne (w : Wt) : w.ty ≠ .nil ∧ ∀ h t, w.ty ≠ .cons h t := by cases w <;> exact ⟨by simp [Wt.ty], by simp [Wt.ty]⟩

section
variable {X : Cx} {S W : Nat → Prop} {r : Nat} {tR : TypeId} {T : Ty} {g o : Nat} {tG : TypeId} {L : List Nat} {fx : Bool} {ver : Int} {q p : Nat}

theorem rdVal_step (hX : X.Sound) (hL : LIn X fx q p L) {k : Nat} {w : Wt} {A : V → Prop} {cs rest : List Code} (h : rdVal X fx L q p T k w cs = some rest) :
    RStep X S W r tR T g o tG L (RP X fx ver q p r g o) A (fun v l => (decW fx w l).map fun x => (v.put k x.1, x.2)) cs rest := by
  intro σ w1 oo v s cells Q hP hA hS hM hr hk
  unfold rdVal at h
  split at h
  · rename_i f d cs1 hre
    split at h
    · rename_i fx' w' hf
      split at h
      · rename_i hm
        split at h
        · rename_i d' c cs2 hmv
          split at h
          · rename_i vs hst
            split at h
            · rename_i hvs
              simp only [Option.some.injEq] at h
              subst h
              rw [beq_iff_eq] at hvs
              subst hvs
              obtain ⟨hcall, hok⟩ := hX.ok f _ hf
              obtain ⟨hty, hdec⟩ := valMatch_spec hm
              have hc := hok w1 S r tR s (fun k hk => (hM.src k hk).1) hM.rd
              rw [← hP.rdr] at hc
              refine reach_sound (R := fun x w2 => ∃ u cu s', x = ldv w'.ty cu ∧ RdIs w2 S r tR s' ∧ Ch (fun k => k = r) w1 w2 ∧ Rep w2 (NewB S w1 w2) w'.ty u cu ∧ Got s.o (decW fx' w') u s') hL.kn hL.rdr hcall 8 hre hP.kn
                (hc.mono fun en w2 ⟨u, cu, s', he, h1, h2, h3, h4⟩ => ⟨_, he, u, cu, s', rfl, h1, h2, h3, h4⟩) fun σ1 w2 x ⟨u, cu, s', hx, h1, h2, h3, h4⟩ hd1 he1 => ?_
              rw [hty] at hx h3
              rw [hdec] at h4
              refine movs_sound 4 hmv fun σ2 he2 hd2 => ?_
              have hM2 := hM.call h1 h2
              have hu := h3.mono (hM.newB h2.size)
              refine storeOf_sound hst (((he2 p hL.ptr).trans (he1 p hL.ptr)).trans hP.ptr) hM2 hu ?_ fun σ3 w3 cells3 hM3 hc3 ho3 he3 => ?_
              · rw [hd2, hd1, hx]
                exact ldv_sv hu w.ty_ne.1 w.ty_ne.2
              · refine hk σ3 w3 _ s' cells3 (hS.step h4 fun v u => v.put k u) hM3 ?_ ho3 fun t ht => (he3 t ht).trans ((he2 t ht).trans (he1 t ht))
                exact (h2.mono fun _ _ h => .inl h).trans' (hc3.mono fun _ _ h => .inr h)
            · cases h
          · cases h
        · cases h
      · cases h
    · cases h
  · cases h
end

/-! ### A field that some versions have -/
def Cx.xv (X : Cx) : Sl := ⟨X.x.ver, X.x.flx, X.x.ver⟩
def rdVc (X : Cx) (L : List Nat) (c : Vc) (body : List Code → Option (List Code)) (cs : List Code) : Option (List Code) := withVc X.xv L c body cs

section
variable {X : Cx} {S W : Nat → Prop} {r : Nat} {tR : TypeId} {T : Ty} {g o : Nat} {tG : TypeId} {L : List Nat} {Pre : Fm → Prop} {A : V → Prop} {f : V → Dc V} {ver : Int}

/-- A list of statements that is run, and then the rest. -/
theorem RStep.inner {a rest : List Code} (h : RStep X S W r tR T g o tG L Pre A f a []) {σ : Fm} {w : World} {oo : Option (V × List UInt8)} {v : V} {s : Rs} {cells : List Value} {Q : Exit → Fm → World → Prop}
    (hP : Pre σ) (hA : ∀ x, oo = some x → A x.1) (hS : St oo v s) (hM : Mem X S W r tR T g o tG w v s cells)
    (hr : oo.bind (fun x => f x.1 x.2) = none → ∀ σ' w', Ch (rg r g) w w' → σ' X.res = X.eV → Q .ret σ' w')
    (hk : ∀ σ' w' v' s' cells', St (oo.bind fun x => f x.1 x.2) v' s' → Mem X S W r tR T g o tG w' v' s' cells' → Ch (rg r g) w w' → Outside cells cells' o T.size → (∀ t ∈ L, σ' t = σ t) → CWL X.P X.n rest σ' w' Q) :
    CWL X.P X.n a σ w (Then (fun σ' w' => CWL X.P X.n rest σ' w' Q) Q) :=
  h σ w oo v s cells _ hP hA hS hM (fun hn σ' w' hc hres => hr hn σ' w' hc hres) fun σ' w' v' s' cells' h1 h2 h3 h4 h5 => hk σ' w' v' s' cells' h1 h2 h3 h4 h5

theorem rdVc_step {c : Vc} {body : List Code → Option (List Code)} {cs rest : List Code} (h : rdVc X L c body cs = some rest) (hP : ∀ σ σ', Pre σ → (∀ t ∈ L, σ' t = σ t) → Pre σ') (hver : ∀ σ, Pre σ → σ X.x.ver = .int .i16 ver)
    (hb : c.ok ver = true → ∀ cs rest, body cs = some rest → RStep X S W r tR T g o tG L Pre A f cs rest) : RStep X S W r tR T g o tG L Pre A (fun v l => if c.ok ver then f v l else some (v, l)) cs rest := by
  have none_ : ∀ {oo : Option (V × List UInt8)}, (oo.bind fun x => (some (x.1, x.2) : Option (V × List UInt8))) = oo := by intro oo; cases oo <;> rfl
  unfold rdVc withVc at h
  cases c with
  | all => exact (hb rfl cs rest h).congr fun v l => rfl
  | ge m =>
    simp only at h
    split at h
    · rename_i A' rest' hg
      split at h
      · rename_i hbody
        simp only [Option.some.injEq] at h
        subst h
        intro σ w oo v s cells Q hp hA hS hM hr hk
        refine verGe_sound hg (hver σ hp) fun σ1 hd hL => ?_
        by_cases hm : ver ≥ m
        · rw [if_pos hm]
          have hb := hb (by simp [Vc.ok, hm])
          simp only [Vc.ok, hm, decide_true, if_true] at hr hk
          exact (hb _ _ hbody).inner (hP _ _ hp hL) hA hS hM hr fun σ' w' v' s' cells' h1 h2 h3 h4 h5 => hk σ' w' v' s' cells' h1 h2 h3 h4 fun t ht => (h5 t ht).trans (hL t ht)
        · rw [if_neg hm]
          simp only [Vc.ok, hm, decide_false, Bool.false_eq_true, if_false, none_] at hk
          exact hk σ1 w v s cells hS hM (Ch.refl _ _) (Outside.refl _ _ _) hL
      · cases h
    · cases h
  | rng lo hi =>
    simp only at h
    split at h
    · rename_i A' rest' hg
      split at h
      · rename_i hbody
        simp only [Option.some.injEq] at h
        subst h
        intro σ w oo v s cells Q hp hA hS hM hr hk
        refine verRng_sound hg (hver σ hp) fun σ1 hd hL => ?_
        by_cases hm : ver ≥ lo ∧ ver ≤ hi
        · rw [if_pos hm]
          have hb := hb (by simp [Vc.ok, hm])
          simp only [Vc.ok, hm, decide_true, Bool.and_self, if_true] at hr hk
          exact (hb _ _ hbody).inner (hP _ _ hp hL) hA hS hM hr fun σ' w' v' s' cells' h1 h2 h3 h4 h5 => hk σ' w' v' s' cells' h1 h2 h3 h4 fun t ht => (h5 t ht).trans (hL t ht)
        · rw [if_neg hm]
          have hok : (Vc.rng lo hi).ok ver = false := by
            simp only [Vc.ok, Bool.and_eq_false_iff, decide_eq_false_iff_not]
            by_cases h1 : ver ≥ lo
            · exact .inr fun h2 => hm ⟨h1, h2⟩
            · exact .inl h1
          simp only [hok, Bool.false_eq_true, if_false, none_] at hk
          exact hk σ1 w v s cells hS hM (Ch.refl _ _) (Outside.refl _ _ _) hL
      · cases h
    · cases h
end
end Go.Kx
