/- Frames as functions, and the rules of the walk over them: a plain layer above the kit's own rules for a function's body. -/
import Derived.WalkKit
import Derived.Deep.LoopGhost
namespace Go.Kx
open Go.RowKit

/-- A frame: what each slot holds. -/
abbrev Fm := Nat → Value

def upd (σ : Fm) (d : Option Nat) (v : Value) : Fm :=
  match d with
  | some d => fun t => if t = d then v else σ t
  | none => σ

@[simp] theorem upd_none (σ : Fm) (v : Value) : upd σ none v = σ := rfl
@[simp] theorem upd_same (σ : Fm) (d : Nat) (v : Value) : upd σ (some d) v d = v := by simp [upd]
theorem upd_ne (σ : Fm) {d t : Nat} (v : Value) (h : t ≠ d) : upd σ (some d) v t = σ t := by simp [upd, h]
theorem upd_app (σ : Fm) (d t : Nat) (v : Value) : upd σ (some d) v t = if t = d then v else σ t := rfl

def ev (σ : Fm) : Operand → Value
  | .tmp t => σ t
  | .const v => v
  | .global g => .pointer (some ⟨g, 0, none⟩)
  | .func f => .func (.func f) #[] #[]

@[simp] theorem ev_tmp (σ : Fm) (t : Tmp) : ev σ (.tmp t) = σ t := rfl
@[simp] theorem ev_const (σ : Fm) (v : Value) : ev σ (.const v) = v := rfl
@[simp] theorem ev_func (σ : Fm) (f : FuncId) : ev σ (.func f) = .func (.func f) #[] #[] := rfl

/-- The frame of an activation of n slots. -/
structure Fr (n : Nat) (a : Act) (σ : Fm) : Prop where
  size : a.tmps.size = n
  defers : a.defers = []
  at_ : ∀ t, a.tmps.getD t undef = σ t

def okDst (n : Nat) (d : Option Tmp) : Bool := match d with | some d => Nat.blt d n | none => true
/-- Every slot that the code writes lies in the frame. -/
def fits (n : Nat) : Code → Bool
  | .region _ ops _ => ops.toList.all fun o => okDst n o.dst
  | .seq a b => fits n a && fits n b
  | .cond _ a b => fits n a && fits n b
  | .block _ b => fits n b
  | .loop b => fits n b
  | _ => true

theorem Fr.put {n : Nat} {a : Act} {σ : Fm} (h : Fr n a σ) {d : Option Tmp} (hd : okDst n d = true) (v : Value) : Fr n (a.put d v) (upd σ d v) := by
  cases d with
  | none => exact h
  | some d =>
    have hd' : d < n := by simpa [okDst, Nat.blt_eq] using hd
    refine ⟨by simp [Act.put, h.size], by simp [Act.put, h.defers], fun t => ?_⟩
    have := h.at_ t
    by_cases e : t = d
    · subst e
      simp [Act.put, upd, Array.getD_eq_getD_getElem?, h.size, hd']
    · rw [upd_ne _ _ e, ← this]
      simp only [Act.put, Array.getD_eq_getD_getElem?, Array.getElem?_setIfInBounds, if_neg (Ne.symm e)]

theorem Fr.eval {n : Nat} {a : Act} {σ : Fm} (h : Fr n a σ) : a.eval = ev σ := by
  funext x
  cases x with
  | tmp t => exact h.at_ t
  | _ => rfl

/-- What one operation does: the value that it gives, and the world behind it. -/
def After (P : Program) (r : Result Next) (K : Value → World → Prop) : Prop :=
  match r with
  | .ok (.value v) w' => K v w'
  | .ok .skip w' => K undef w'
  | .ok (.enter f args) w' => Calls P f args w' fun e w'' => ∃ v, e = .returned v ∧ K v w''
  | _ => False

def OpK (P : Program) (ρ : Operand → Value) (o : Oper) (w : World) (K : Value → World → Prop) : Prop :=
  After P ((execOp ρ o).run P w) K

theorem After.mono {P : Program} {r : Result Next} {K K' : Value → World → Prop} (h : After P r K) (hk : ∀ v w, K v w → K' v w) : After P r K' := by
  unfold After at h ⊢
  split at h
  · exact hk _ _ h
  · exact hk _ _ h
  · exact h.mono fun e w' ⟨v, he, hv⟩ => ⟨v, he, hk _ _ hv⟩
  · exact h.elim

theorem wp_of_OpK {P : Program} {o : Oper} {n : Nat} {a : Act} {σ : Fm} {w : World} {K : Value → World → Prop} {next : Act → World → Prop} {Q : Exit → Act → World → Prop}
    (ha : Fr n a σ) (h : OpK P (ev σ) o w K) (hk : ∀ v w', K v w' → next (a.put o.dst v) w') : o.wp P a w next Q := by
  unfold Oper.wp
  unfold OpK at h
  rw [ha.eval]
  generalize (execOp (ev σ) o).run P w = r at h ⊢
  unfold After at h
  split at h
  · exact hk _ _ h
  · exact hk _ _ h
  · refine h.mono fun e w' ⟨v, he, hv⟩ => ?_
    subst he
    exact hk _ _ hv
  · exact h.elim

/-- What the operation of a place has yielded, as a guard asks it. -/
def yv (ops : Array Oper) (σ : Fm) (j : Nat) : Option Bool :=
  match (ops[j]?).bind (·.dst) with
  | some d => match σ d with
    | .bool b => some b
    | _ => none
  | none => none

theorem yielded_eq {ops : Array Oper} {n : Nat} {a : Act} {σ : Fm} (ha : Fr n a σ) (j : Nat) : yielded ops a.tmps j = yv ops σ j := by
  unfold yielded yv
  cases hd : (ops[j]?).bind (·.dst) with
  | none => simp
  | some d =>
    simp only [Option.bind_some]
    have := ha.at_ d
    rw [Array.getD_eq_getD_getElem?] at this
    cases ht : a.tmps[d]? with
    | none =>
      rw [ht] at this
      simp only [Option.getD_none] at this
      rw [← this]
      rfl
    | some v =>
      rw [ht] at this
      simp only [Option.getD_some] at this
      rw [← this]
      cases v <;> rfl

def wantedB (o : Oper) (ops : Array Oper) (σ : Fm) : Bool :=
  match o.guard with
  | none => true
  | some (j, b) => yv ops σ j == some b

/-- A region's operations, one behind the other. -/
def RW (P : Program) (ops : Array Oper) : List Oper → Fm → World → (Fm → World → Prop) → Prop
  | [], σ, w, K => K σ w
  | o :: l, σ, w, K =>
    if wantedB o ops σ = true then OpK P (ev σ) o w fun v w' => RW P ops l (upd σ o.dst v) w' K
    else RW P ops l (upd σ o.dst undef) w K

theorem RW.mono {P : Program} {ops : Array Oper} (l : List Oper) : ∀ {σ : Fm} {w : World} {K K' : Fm → World → Prop}, RW P ops l σ w K → (∀ σ w, K σ w → K' σ w) → RW P ops l σ w K' := by
  induction l with
  | nil => exact fun h hk => hk _ _ h
  | cons o l ih =>
    intro σ w K K' h hk
    unfold RW at h ⊢
    split
    · rename_i hw
      rw [if_pos hw] at h
      exact After.mono h fun v w' h => ih h hk
    · rename_i hw
      rw [if_neg hw] at h
      exact ih h hk

theorem RW.wp {P : Program} {ops : Array Oper} {n : Nat} {Q : Exit → Act → World → Prop} (l : List Oper) : ∀ {a : Act} {σ : Fm} {w : World} {K : Fm → World → Prop},
    (l.all fun o => okDst n o.dst) = true → Fr n a σ → RW P ops l σ w K → (∀ a' σ' w', Fr n a' σ' → K σ' w' → Q .normal a' w') → wpList P ops Q l a w := by
  induction l with
  | nil => exact fun _ ha h hk => hk _ _ _ ha h
  | cons o l ih =>
    intro a σ w K hs ha h hk
    simp only [List.all_cons, Bool.and_eq_true] at hs
    unfold wpList
    unfold RW at h
    have he : Region.wanted o (yielded ops a.tmps) = wantedB o ops σ := by
      unfold Region.wanted wantedB
      split
      · rename_i hg; rw [hg]
      · rename_i j b hg; rw [hg]; simp only [yielded_eq ha]
    rw [he]
    by_cases hw : wantedB o ops σ = true
    · rw [if_pos hw]
      rw [if_pos hw] at h
      exact .inl (wp_of_OpK ha h fun v w' h' => ih hs.2 (ha.put hs.1 v) h' hk)
    · rw [if_neg hw]
      rw [if_neg hw] at h
      exact ih hs.2 (ha.put hs.1 undef) h hk

/-- The walk of a body over a frame. -/
def CW (P : Program) (n : Nat) (c : Code) (σ : Fm) (w : World) (Q : Exit → Fm → World → Prop) : Prop :=
  fits n c = true → ∀ a, Fr n a σ → c.wp P (fun e a' w' => ∃ σ', Fr n a' σ' ∧ Q e σ' w') a w

section rules
variable {P : Program} {n : Nat} {σ : Fm} {w : World} {Q Q' : Exit → Fm → World → Prop}

theorem CW.mono {c : Code} (h : CW P n c σ w Q) (hq : ∀ e σ w, Q e σ w → Q' e σ w) : CW P n c σ w Q' :=
  fun hs a ha => wp_mono (h hs a ha) fun _ _ _ ⟨σ', hf, hQ⟩ => ⟨σ', hf, hq _ _ _ hQ⟩

theorem CW.skip (h : Q .normal σ w) : CW P n .skip σ w Q := fun _ _ ha => wp_skip ⟨_, ha, h⟩
theorem CW.ret (h : Q .ret σ w) : CW P n .ret σ w Q := fun _ _ ha => wp_ret ⟨_, ha, h⟩
theorem CW.exit {id : Nat} (h : Q (.exit id) σ w) : CW P n (.exit id) σ w Q := fun _ _ ha => wp_exit ⟨_, ha, h⟩

/-- What follows a body that ends normally; every other ending goes through. -/
def Then (next : Fm → World → Prop) (Q : Exit → Fm → World → Prop) : Exit → Fm → World → Prop
  | .normal, σ, w => next σ w
  | e, σ, w => Q e σ w

theorem CW.seq {x y : Code} (h : CW P n x σ w (Then (fun σ' w' => CW P n y σ' w' Q) Q)) : CW P n (.seq x y) σ w Q := by
  intro hs a ha
  simp only [fits, Bool.and_eq_true] at hs
  refine wp_seq (wp_mono (h hs.1 a ha) fun e a' w' ⟨σ', hf, hQ⟩ => ?_)
  cases e with
  | normal => exact hQ hs.2 a' hf
  | _ => exact ⟨σ', hf, hQ⟩

theorem CW.cond {c : Operand} {x y : Code} {t : Bool} (hc : ev σ c = .bool t) (h : CW P n (if t then x else y) σ w Q) : CW P n (.cond c x y) σ w Q := by
  intro hs a ha
  simp only [fits, Bool.and_eq_true] at hs
  refine wp_cond (t := t) (by rw [ha.eval]; exact hc) (h ?_ a ha)
  cases t
  · exact hs.2
  · exact hs.1

def InBlock (id : Nat) (Q : Exit → Fm → World → Prop) : Exit → Fm → World → Prop
  | .exit id', σ, w => if id' = id then Q .normal σ w else Q (.exit id') σ w
  | e, σ, w => Q e σ w

theorem CW.block {id : Nat} {c : Code} (h : CW P n c σ w (InBlock id Q)) : CW P n (.block id c) σ w Q := by
  intro hs a ha
  refine wp_block (wp_mono (h hs a ha) fun e a' w' ⟨σ', hf, hQ⟩ => ?_)
  cases e with
  | exit id' =>
    simp only [Exit.inBlock]
    simp only [InBlock] at hQ
    by_cases he : id' = id
    · rw [if_pos he] at hQ ⊢; exact ⟨σ', hf, hQ⟩
    · rw [if_neg he] at hQ ⊢; exact ⟨σ', hf, hQ⟩
  | _ => exact ⟨σ', hf, hQ⟩

theorem CW.loop {c : Code} (I : Nat → Fm → World → Prop) (m : Nat) (h0 : I m σ w)
    (round : ∀ m σ w, I m σ w → CW P n c σ w (Then (fun σ' w' => ∃ m', m' < m ∧ I m' σ' w') Q)) : CW P n (.loop c) σ w Q := by
  intro hs a ha
  refine wp_loop_ghost (fun k a w => ∃ σ, Fr n a σ ∧ I k σ w) m ⟨σ, ha, h0⟩ fun k a w ⟨σ₁, hf, hI⟩ => ?_
  refine wp_mono (round k σ₁ w hI hs a hf) fun e a' w' ⟨σ', hf', hQ⟩ => ?_
  cases e with
  | normal =>
    obtain ⟨m', hlt, hI'⟩ := hQ
    exact ⟨m', hlt, σ', hf', hI'⟩
  | _ => exact ⟨σ', hf', hQ⟩

theorem CW.region {id : Nat} {ops : Array Oper} (h : RW P ops ops.toList σ w fun σ' w' => Q .normal σ' w') : CW P n (.region id ops false) σ w Q := by
  intro hs a ha
  exact wp_region_list (RW.wp ops.toList hs ha h fun a' σ' w' hf hK => ⟨σ', hf, hK⟩)
end rules

/-- The frame at a call. -/
def frame0 (args : Array Value) : Fm := fun t => args.getD t undef

def resOf (fn : Func) (σ : Fm) : Option Value :=
  match fn.results.toList with
  | [] => some (.tuple #[])
  | [.tmp t] => some (σ t)
  | [.tmp t, .tmp u] => some (.tuple #[σ t, σ u])
  | [.tmp t, .tmp u, .tmp x] => some (.tuple #[σ t, σ u, σ x])
  | _ => none

theorem results_of {fn : Func} {n : Nat} {a : Act} {σ : Fm} (ha : Fr n a σ) {v : Value} (hv : resOf fn σ = some v) (P : Program) (w : World) : (results fn a.tmps).run P w = .ok v w := by
  obtain ⟨rs, hrs⟩ : ∃ l : List ResultVar, fn.results = l.toArray := ⟨fn.results.toList, by simp⟩
  unfold resOf at hv
  rw [hrs] at hv
  simp only at hv
  split at hv
  · cases hv; simp [results, hrs]
  · cases hv; simp [results, hrs, ← ha.at_]
  · cases hv; simp [results, hrs, ← ha.at_]
  · cases hv; simp [results, hrs, ← ha.at_]
  · cases hv

/-- The end of a body: it has returned. -/
def Ends (fn : Func) (R : Value → World → Prop) : Exit → Fm → World → Prop
  | .normal, σ, w | .ret, σ, w => ∃ v, resOf fn σ = some v ∧ R v w
  | _, _, _ => False

theorem Calls.of_CW {P : Program} {f : FuncId} {fn : Func} {c : Code} {args : Array Value} {w : World} {R : Value → World → Prop}
    (hf : P.funcs[f]? = some fn) (hb : fn.body = some c) (hs : fits fn.ntmps c = true) (hn : args.size ≤ fn.ntmps)
    (h : CW P fn.ntmps c (frame0 args) w (Ends fn R)) : Calls P f args w fun e w' => ∃ v, e = .returned v ∧ R v w' := by
  refine calls_of_wp hf hb (wp_mono (h hs _ ⟨by simp; omega, rfl, fun t => ?_⟩) fun e a w' ⟨σ', hfr, hQ⟩ => ?_)
  · simp only [frame0, Array.getD_eq_getD_getElem?]
    by_cases ht : t < args.size
    · rw [Array.getElem?_append_left ht]
    · rw [Array.getElem?_append_right (by omega), Array.getElem?_eq_none (xs := args) (by omega)]
      by_cases hr : t - args.size < fn.ntmps - args.size
      · rw [Array.getElem?_replicate, if_pos hr]; rfl
      · rw [Array.getElem?_replicate, if_neg hr]
  · cases e with
    | normal => obtain ⟨v, hv, hR⟩ := hQ; exact ⟨hfr.defers, v, results_of hfr hv P w', v, rfl, hR⟩
    | ret => obtain ⟨v, hv, hR⟩ := hQ; exact ⟨hfr.defers, v, results_of hfr hv P w', v, rfl, hR⟩
    | _ => exact hQ.elim

end Go.Kx
