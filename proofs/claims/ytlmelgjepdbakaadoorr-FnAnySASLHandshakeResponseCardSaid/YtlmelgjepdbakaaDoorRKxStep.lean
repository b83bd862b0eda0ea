/- Lists of statements, and the plain steps of a walk through them. -/
import Derived.Test.YtlmelgjepdbakaaDoorRKxEnc
import Derived.Test.YtlmelgjepdbakaaDoorRKxBuf
namespace Go.Kx
open Go.RowKit
set_option linter.unusedSimpArgs false
set_option linter.unusedVariables false

def flat : Code → List Code
  | .seq a b => flat a ++ flat b
  | .skip => []
  | c => [c]

def CWL (P : Program) (n : Nat) : List Code → Fm → World → (Exit → Fm → World → Prop) → Prop
  | [], σ, w, Q => Q .normal σ w
  | c :: cs, σ, w, Q => CW P n c σ w (Then (fun σ' w' => CWL P n cs σ' w' Q) Q)

theorem then_then {next : Fm → World → Prop} {Q R : Exit → Fm → World → Prop} (h : ∀ σ w, Q .normal σ w → next σ w) (hR : ∀ e σ w, e ≠ .normal → Q e σ w → R e σ w) :
    ∀ e σ w, Q e σ w → Then next R e σ w := by
  intro e σ w hq
  cases e with
  | normal => exact h σ w hq
  | _ => exact hR _ _ _ (by simp) hq

theorem CWL.mono {P : Program} {n : Nat} {cs : List Code} : ∀ {σ : Fm} {w : World} {Q R : Exit → Fm → World → Prop}, CWL P n cs σ w Q → (∀ e σ w, Q e σ w → R e σ w) → CWL P n cs σ w R := by
  induction cs with
  | nil => exact fun h hq => hq _ _ _ h
  | cons c cs ih =>
    intro σ w Q R h hq
    refine CW.mono h fun e σ w h' => ?_
    cases e with
    | normal => exact ih h' hq
    | _ => exact hq _ _ _ h'

theorem CWL.append {P : Program} {n : Nat} {a b : List Code} : ∀ {σ : Fm} {w : World} {Q : Exit → Fm → World → Prop}, CWL P n a σ w (Then (fun σ' w' => CWL P n b σ' w' Q) Q) → CWL P n (a ++ b) σ w Q := by
  induction a with
  | nil => exact fun h => h
  | cons c a ih =>
    intro σ w Q h
    refine CW.mono h fun e σ w h' => ?_
    cases e with
    | normal => exact ih h'
    | _ => exact h'

theorem CW.of_flat {P : Program} {n : Nat} {c : Code} : ∀ {σ : Fm} {w : World} {Q : Exit → Fm → World → Prop}, CWL P n (flat c) σ w Q → CW P n c σ w Q := by
  have one : ∀ (c : Code) {σ : Fm} {w : World} {Q : Exit → Fm → World → Prop}, CWL P n [c] σ w Q → CW P n c σ w Q := by
    intro c σ w Q h
    refine CW.mono h fun e σ w h' => ?_
    cases e with
    | normal => exact h'
    | _ => exact h'
  -- a list that is run and then a list
  have split : ∀ (a b : List Code) {σ : Fm} {w : World} {Q : Exit → Fm → World → Prop}, CWL P n (a ++ b) σ w Q → CWL P n a σ w (Then (fun σ' w' => CWL P n b σ' w' Q) Q) := by
    intro a
    induction a with
    | nil => exact fun b σ w Q h => h
    | cons c a ih =>
      intro b σ w Q h
      refine CW.mono h fun e σ w h' => ?_
      cases e with
      | normal => exact ih b h'
      | _ => exact h'
  induction c with
  | seq a b iha ihb =>
    intro σ w Q h
    refine CW.seq (iha ((split _ _ h).mono fun e σ w h' => ?_))
    cases e with
    | normal => exact ihb h'
    | _ => exact h'
  | skip => exact fun h => CW.skip h
  | _ => exact fun h => one _ h

theorem CWL.cons {P : Program} {n : Nat} {c : Code} {cs : List Code} {σ : Fm} {w : World} {Q : Exit → Fm → World → Prop} (h : CW P n c σ w (Then (fun σ' w' => CWL P n cs σ' w' Q) Q)) : CWL P n (c :: cs) σ w Q := h

/-- A region whose operations stand in one order. -/
def canR : Code → Option Can
  | .region _ ops false => canon ops.toList [] 0
  | _ => none

def outF (b : List (Nat × Nat)) (ρ : Fm) : Fm := fun t => ρ (look b t)

theorem CWL.reg {P : Program} {n : Nat} {c : Code} {cs : List Code} {σ : Fm} {w : World} {Q : Exit → Fm → World → Prop} {ops : List (Op × TypeId)} {b : List (Nat × Nat)} (hc : canR c = some ⟨ops, b⟩)
    (h : RC P ops 0 (enF σ) w fun ρ w' => CWL P n cs (outF b ρ) w' Q) : CWL P n (c :: cs) σ w Q := by
  unfold canR at hc
  split at hc
  · exact CWL.cons (CW.canon hc h)
  · cases hc

/-- Slots of L are none that are bound. -/
def free (L : List Nat) (b : List (Nat × Nat)) : Bool := L.all fun t => b.all fun y => y.1 != t

theorem look_free {b : List (Nat × Nat)} {t : Nat} (h : (b.all fun y => y.1 != t) = true) : look b t = 2 * t := by
  induction b with
  | nil => rfl
  | cons y b ih =>
    simp only [List.all_cons, Bool.and_eq_true, bne_iff_ne, ne_eq] at h
    obtain ⟨s, e⟩ := y
    simp only [look]
    rw [if_neg (by simpa using h.1)]
    exact ih h.2

theorem outF_free {L : List Nat} {b : List (Nat × Nat)} (h : free L b = true) {t : Nat} (ht : t ∈ L) (ρ : Fm) : outF b ρ t = ρ (2 * t) := by
  unfold free at h
  rw [List.all_eq_true] at h
  unfold outF
  rw [look_free (h t ht)]

theorem outF_head (s e : Nat) (b : List (Nat × Nat)) (ρ : Fm) : outF ((s, e) :: b) ρ s = ρ e := by simp [outF, look]

theorem enF_two (σ : Fm) (t : Nat) : enF σ (2 * t) = σ t := enF_even σ t
theorem upd_odd (ρ : Fm) (k : Nat) (v : Value) (t : Nat) (hk : k % 2 = 1) : upd ρ (some k) v (2 * t) = ρ (2 * t) := upd_ne _ _ (by omega)

theorem free_cons {t : Nat} {L : List Nat} {b : List (Nat × Nat)} : free (t :: L) b = ((b.all fun y => y.1 != t) && free L b) := by simp [free]

/-- Idle: constants into slots that are not asked for. -/
def idleOps : List (Op × TypeId) → Bool
  | [] => true
  | (.move (.const _), _) :: l => idleOps l
  | (.assign (.const _), _) :: l => idleOps l
  | _ => false

theorem RC.idle {P : Program} (ops : List (Op × TypeId)) : ∀ {k : Nat} {ρ : Fm} {w : World} {K : Fm → World → Prop}, idleOps ops = true → (∀ ρ', (∀ t, ρ' (2 * t) = ρ (2 * t)) → K ρ' w) → RC P ops k ρ w K := by
  induction ops with
  | nil => exact fun _ h => h _ fun _ => rfl
  | cons o l ih =>
    intro k ρ w K hi h
    unfold idleOps at hi
    split at hi
    · rename_i e; cases e
    · rename_i e
      obtain ⟨rfl, rfl⟩ := List.cons.inj e
      exact OpK.move (ih hi fun ρ' he => h ρ' fun t => (he t).trans (upd_odd _ _ _ _ (by omega)))
    · rename_i e
      obtain ⟨rfl, rfl⟩ := List.cons.inj e
      exact OpK.assign (ih hi fun ρ' he => h ρ' fun t => (he t).trans (upd_odd _ _ _ _ (by omega)))
    · cases hi

def isIdle (L : List Nat) (c : Code) : Bool :=
  match canR c with
  | some ⟨ops, b⟩ => idleOps ops && free L b
  | none => false

theorem CWL.idle {P : Program} {n : Nat} {L : List Nat} {c : Code} {cs : List Code} {σ : Fm} {w : World} {Q : Exit → Fm → World → Prop} (h : isIdle L c = true)
    (hk : ∀ σ', (∀ t ∈ L, σ' t = σ t) → CWL P n cs σ' w Q) : CWL P n (c :: cs) σ w Q := by
  unfold isIdle at h
  split at h
  · rename_i ops b hc
    simp only [Bool.and_eq_true] at h
    exact CWL.reg hc (RC.idle ops h.1 fun ρ he => hk _ fun t ht => by rw [outF_free h.2 ht, he, enF_two])
  · cases h

end Go.Kx
