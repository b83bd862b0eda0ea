/- Library texts Core Canon Ops, joined. -/
import Derived.WalkKit
import Derived.Deep.LoopGhost
/- Frames as functions, and the rules of the walk over them: a plain layer above the kit's own rules for a function's body. -/
namespace Go.Kx
open Go.RowKit

/-- A frame: what each slot holds. -/
abbrev Fm := Nat → Value

def upd (σ : Fm) (d : Option Nat) (v : Value) : Fm :=
  match d with
  | some d => fun t => if t = d then v else σ t
  | none => σ

@[simp] theorem upd_none (σ : Fm) (v : Value) : upd σ none v = σ := rfl
@[simp] theorem upd_same (σ : Fm) (d : Nat) (v : Value) : upd σ (some d) v d = v := by simp [upd]
theorem upd_ne (σ : Fm) {d t : Nat} (v : Value) (h : t ≠ d) : upd σ (some d) v t = σ t := by simp [upd, h]
theorem upd_app (σ : Fm) (d t : Nat) (v : Value) : upd σ (some d) v t = if t = d then v else σ t := rfl

def ev (σ : Fm) : Operand → Value
  | .tmp t => σ t
  | .const v => v
  | .global g => .pointer (some ⟨g, 0, none⟩)
  | .func f => .func (.func f) #[] #[]

@[simp] theorem ev_tmp (σ : Fm) (t : Tmp) : ev σ (.tmp t) = σ t := rfl
@[simp] theorem ev_const (σ : Fm) (v : Value) : ev σ (.const v) = v := rfl
@[simp] theorem ev_func (σ : Fm) (f : FuncId) : ev σ (.func f) = .func (.func f) #[] #[] := rfl

/-- The frame of an activation of n slots. -/
structure Fr (n : Nat) (a : Act) (σ : Fm) : Prop where
  size : a.tmps.size = n
  defers : a.defers = []
  at_ : ∀ t, a.tmps.getD t undef = σ t

def okDst (n : Nat) (d : Option Tmp) : Bool := match d with | some d => Nat.blt d n | none => true
/-- Every slot that the code writes lies in the frame. -/
def fits (n : Nat) : Code → Bool
  | .region _ ops _ => ops.toList.all fun o => okDst n o.dst
  | .seq a b => fits n a && fits n b
  | .cond _ a b => fits n a && fits n b
  | .block _ b => fits n b
  | .loop b => fits n b
  | _ => true

theorem Fr.put {n : Nat} {a : Act} {σ : Fm} (h : Fr n a σ) {d : Option Tmp} (hd : okDst n d = true) (v : Value) : Fr n (a.put d v) (upd σ d v) := by
  cases d with
  | none => exact h
  | some d =>
    have hd' : d < n := by simpa [okDst, Nat.blt_eq] using hd
    refine ⟨by simp [Act.put, h.size], by simp [Act.put, h.defers], fun t => ?_⟩
    have := h.at_ t
    by_cases e : t = d
    · subst e
      simp [Act.put, upd, Array.getD_eq_getD_getElem?, h.size, hd']
    · rw [upd_ne _ _ e, ← this]
      simp only [Act.put, Array.getD_eq_getD_getElem?, Array.getElem?_setIfInBounds, if_neg (Ne.symm e)]

theorem Fr.eval {n : Nat} {a : Act} {σ : Fm} (h : Fr n a σ) : a.eval = ev σ := by
  funext x
  cases x with
  | tmp t => exact h.at_ t
  | _ => rfl

/-- What one operation does: the value that it gives, and the world behind it. -/
def After (P : Program) (r : Result Next) (K : Value → World → Prop) : Prop :=
  match r with
  | .ok (.value v) w' => K v w'
  | .ok .skip w' => K undef w'
  | .ok (.enter f args) w' => Calls P f args w' fun e w'' => ∃ v, e = .returned v ∧ K v w''
  | _ => False

def OpK (P : Program) (ρ : Operand → Value) (o : Oper) (w : World) (K : Value → World → Prop) : Prop :=
  After P ((execOp ρ o).run P w) K

theorem After.mono {P : Program} {r : Result Next} {K K' : Value → World → Prop} (h : After P r K) (hk : ∀ v w, K v w → K' v w) : After P r K' := by
  unfold After at h ⊢
  split at h
  · exact hk _ _ h
  · exact hk _ _ h
  · exact h.mono fun e w' ⟨v, he, hv⟩ => ⟨v, he, hk _ _ hv⟩
  · exact h.elim

theorem wp_of_OpK {P : Program} {o : Oper} {n : Nat} {a : Act} {σ : Fm} {w : World} {K : Value → World → Prop} {next : Act → World → Prop} {Q : Exit → Act → World → Prop}
    (ha : Fr n a σ) (h : OpK P (ev σ) o w K) (hk : ∀ v w', K v w' → next (a.put o.dst v) w') : o.wp P a w next Q := by
  unfold Oper.wp
  unfold OpK at h
  rw [ha.eval]
  generalize (execOp (ev σ) o).run P w = r at h ⊢
  unfold After at h
  split at h
  · exact hk _ _ h
  · exact hk _ _ h
  · refine h.mono fun e w' ⟨v, he, hv⟩ => ?_
    subst he
    exact hk _ _ hv
  · exact h.elim

/-- What the operation of a place has yielded, as a guard asks it. -/
def yv (ops : Array Oper) (σ : Fm) (j : Nat) : Option Bool :=
  match (ops[j]?).bind (·.dst) with
  | some d => match σ d with
    | .bool b => some b
    | _ => none
  | none => none

theorem yielded_eq {ops : Array Oper} {n : Nat} {a : Act} {σ : Fm} (ha : Fr n a σ) (j : Nat) : yielded ops a.tmps j = yv ops σ j := by
  unfold yielded yv
  cases hd : (ops[j]?).bind (·.dst) with
  | none => simp
  | some d =>
    simp only [Option.bind_some]
    have := ha.at_ d
    rw [Array.getD_eq_getD_getElem?] at this
    cases ht : a.tmps[d]? with
    | none =>
      rw [ht] at this
      simp only [Option.getD_none] at this
      rw [← this]
      rfl
    | some v =>
      rw [ht] at this
      simp only [Option.getD_some] at this
      rw [← this]
      cases v <;> rfl

def wantedB (o : Oper) (ops : Array Oper) (σ : Fm) : Bool :=
  match o.guard with
  | none => true
  | some (j, b) => yv ops σ j == some b

/-- A region's operations, one behind the other. -/
def RW (P : Program) (ops : Array Oper) : List Oper → Fm → World → (Fm → World → Prop) → Prop
  | [], σ, w, K => K σ w
  | o :: l, σ, w, K =>
    if wantedB o ops σ = true then OpK P (ev σ) o w fun v w' => RW P ops l (upd σ o.dst v) w' K
    else RW P ops l (upd σ o.dst undef) w K

theorem RW.mono {P : Program} {ops : Array Oper} (l : List Oper) : ∀ {σ : Fm} {w : World} {K K' : Fm → World → Prop}, RW P ops l σ w K → (∀ σ w, K σ w → K' σ w) → RW P ops l σ w K' := by
  induction l with
  | nil => exact fun h hk => hk _ _ h
  | cons o l ih =>
    intro σ w K K' h hk
    unfold RW at h ⊢
    split
    · rename_i hw
      rw [if_pos hw] at h
      exact After.mono h fun v w' h => ih h hk
    · rename_i hw
      rw [if_neg hw] at h
      exact ih h hk

theorem RW.wp {P : Program} {ops : Array Oper} {n : Nat} {Q : Exit → Act → World → Prop} (l : List Oper) : ∀ {a : Act} {σ : Fm} {w : World} {K : Fm → World → Prop},
    (l.all fun o => okDst n o.dst) = true → Fr n a σ → RW P ops l σ w K → (∀ a' σ' w', Fr n a' σ' → K σ' w' → Q .normal a' w') → wpList P ops Q l a w := by
  induction l with
  | nil => exact fun _ ha h hk => hk _ _ _ ha h
  | cons o l ih =>
    intro a σ w K hs ha h hk
    simp only [List.all_cons, Bool.and_eq_true] at hs
    unfold wpList
    unfold RW at h
    have he : Region.wanted o (yielded ops a.tmps) = wantedB o ops σ := by
      unfold Region.wanted wantedB
      split
      · rename_i hg; rw [hg]
      · rename_i j b hg; rw [hg]; simp only [yielded_eq ha]
    rw [he]
    by_cases hw : wantedB o ops σ = true
    · rw [if_pos hw]
      rw [if_pos hw] at h
      exact .inl (wp_of_OpK ha h fun v w' h' => ih hs.2 (ha.put hs.1 v) h' hk)
    · rw [if_neg hw]
      rw [if_neg hw] at h
      exact ih hs.2 (ha.put hs.1 undef) h hk

/-- The walk of a body over a frame. -/
def CW (P : Program) (n : Nat) (c : Code) (σ : Fm) (w : World) (Q : Exit → Fm → World → Prop) : Prop :=
  fits n c = true → ∀ a, Fr n a σ → c.wp P (fun e a' w' => ∃ σ', Fr n a' σ' ∧ Q e σ' w') a w

section rules
variable {P : Program} {n : Nat} {σ : Fm} {w : World} {Q Q' : Exit → Fm → World → Prop}

theorem CW.mono {c : Code} (h : CW P n c σ w Q) (hq : ∀ e σ w, Q e σ w → Q' e σ w) : CW P n c σ w Q' :=
  fun hs a ha => wp_mono (h hs a ha) fun _ _ _ ⟨σ', hf, hQ⟩ => ⟨σ', hf, hq _ _ _ hQ⟩

theorem CW.skip (h : Q .normal σ w) : CW P n .skip σ w Q := fun _ _ ha => wp_skip ⟨_, ha, h⟩
theorem CW.ret (h : Q .ret σ w) : CW P n .ret σ w Q := fun _ _ ha => wp_ret ⟨_, ha, h⟩
theorem CW.exit {id : Nat} (h : Q (.exit id) σ w) : CW P n (.exit id) σ w Q := fun _ _ ha => wp_exit ⟨_, ha, h⟩

/-- What follows a body that ends normally; every other ending goes through. -/
def Then (next : Fm → World → Prop) (Q : Exit → Fm → World → Prop) : Exit → Fm → World → Prop
  | .normal, σ, w => next σ w
  | e, σ, w => Q e σ w

theorem CW.seq {x y : Code} (h : CW P n x σ w (Then (fun σ' w' => CW P n y σ' w' Q) Q)) : CW P n (.seq x y) σ w Q := by
  intro hs a ha
  simp only [fits, Bool.and_eq_true] at hs
  refine wp_seq (wp_mono (h hs.1 a ha) fun e a' w' ⟨σ', hf, hQ⟩ => ?_)
  cases e with
  | normal => exact hQ hs.2 a' hf
  | _ => exact ⟨σ', hf, hQ⟩

theorem CW.cond {c : Operand} {x y : Code} {t : Bool} (hc : ev σ c = .bool t) (h : CW P n (if t then x else y) σ w Q) : CW P n (.cond c x y) σ w Q := by
  intro hs a ha
  simp only [fits, Bool.and_eq_true] at hs
  refine wp_cond (t := t) (by rw [ha.eval]; exact hc) (h ?_ a ha)
  cases t
  · exact hs.2
  · exact hs.1

def InBlock (id : Nat) (Q : Exit → Fm → World → Prop) : Exit → Fm → World → Prop
  | .exit id', σ, w => if id' = id then Q .normal σ w else Q (.exit id') σ w
  | e, σ, w => Q e σ w

theorem CW.block {id : Nat} {c : Code} (h : CW P n c σ w (InBlock id Q)) : CW P n (.block id c) σ w Q := by
  intro hs a ha
  refine wp_block (wp_mono (h hs a ha) fun e a' w' ⟨σ', hf, hQ⟩ => ?_)
  cases e with
  | exit id' =>
    simp only [Exit.inBlock]
    simp only [InBlock] at hQ
    by_cases he : id' = id
    · rw [if_pos he] at hQ ⊢; exact ⟨σ', hf, hQ⟩
    · rw [if_neg he] at hQ ⊢; exact ⟨σ', hf, hQ⟩
  | _ => exact ⟨σ', hf, hQ⟩

theorem CW.loop {c : Code} (I : Nat → Fm → World → Prop) (m : Nat) (h0 : I m σ w)
    (round : ∀ m σ w, I m σ w → CW P n c σ w (Then (fun σ' w' => ∃ m', m' < m ∧ I m' σ' w') Q)) : CW P n (.loop c) σ w Q := by
  intro hs a ha
  refine wp_loop_ghost (fun k a w => ∃ σ, Fr n a σ ∧ I k σ w) m ⟨σ, ha, h0⟩ fun k a w ⟨σ₁, hf, hI⟩ => ?_
  refine wp_mono (round k σ₁ w hI hs a hf) fun e a' w' ⟨σ', hf', hQ⟩ => ?_
  cases e with
  | normal =>
    obtain ⟨m', hlt, hI'⟩ := hQ
    exact ⟨m', hlt, σ', hf', hI'⟩
  | _ => exact ⟨σ', hf', hQ⟩

theorem CW.region {id : Nat} {ops : Array Oper} (h : RW P ops ops.toList σ w fun σ' w' => Q .normal σ' w') : CW P n (.region id ops false) σ w Q := by
  intro hs a ha
  exact wp_region_list (RW.wp ops.toList hs ha h fun a' σ' w' hf hK => ⟨σ', hf, hK⟩)
end rules

/-- The frame at a call. -/
def frame0 (args : Array Value) : Fm := fun t => args.getD t undef

def resOf (fn : Func) (σ : Fm) : Option Value :=
  match fn.results.toList with
  | [] => some (.tuple #[])
  | [.tmp t] => some (σ t)
  | [.tmp t, .tmp u] => some (.tuple #[σ t, σ u])
  | [.tmp t, .tmp u, .tmp x] => some (.tuple #[σ t, σ u, σ x])
  | _ => none

theorem results_of {fn : Func} {n : Nat} {a : Act} {σ : Fm} (ha : Fr n a σ) {v : Value} (hv : resOf fn σ = some v) (P : Program) (w : World) : (results fn a.tmps).run P w = .ok v w := by
  obtain ⟨rs, hrs⟩ : ∃ l : List ResultVar, fn.results = l.toArray := ⟨fn.results.toList, by simp⟩
  unfold resOf at hv
  rw [hrs] at hv
  simp only at hv
  split at hv
  · cases hv; simp [results, hrs]
  · cases hv; simp [results, hrs, ← ha.at_]
  · cases hv; simp [results, hrs, ← ha.at_]
  · cases hv; simp [results, hrs, ← ha.at_]
  · cases hv

/-- The end of a body: it has returned. -/
def Ends (fn : Func) (R : Value → World → Prop) : Exit → Fm → World → Prop
  | .normal, σ, w | .ret, σ, w => ∃ v, resOf fn σ = some v ∧ R v w
  | _, _, _ => False

theorem Calls.of_CW {P : Program} {f : FuncId} {fn : Func} {c : Code} {args : Array Value} {w : World} {R : Value → World → Prop}
    (hf : P.funcs[f]? = some fn) (hb : fn.body = some c) (hs : fits fn.ntmps c = true) (hn : args.size ≤ fn.ntmps)
    (h : CW P fn.ntmps c (frame0 args) w (Ends fn R)) : Calls P f args w fun e w' => ∃ v, e = .returned v ∧ R v w' := by
  refine calls_of_wp hf hb (wp_mono (h hs _ ⟨by simp; omega, rfl, fun t => ?_⟩) fun e a w' ⟨σ', hfr, hQ⟩ => ?_)
  · simp only [frame0, Array.getD_eq_getD_getElem?]
    by_cases ht : t < args.size
    · rw [Array.getElem?_append_left ht]
    · rw [Array.getElem?_append_right (by omega), Array.getElem?_eq_none (xs := args) (by omega)]
      by_cases hr : t - args.size < fn.ntmps - args.size
      · rw [Array.getElem?_replicate, if_pos hr]; rfl
      · rw [Array.getElem?_replicate, if_neg hr]
  · cases e with
    | normal => obtain ⟨v, hv, hR⟩ := hQ; exact ⟨hfr.defers, v, results_of hfr hv P w', v, rfl, hR⟩
    | ret => obtain ⟨v, hv, hR⟩ := hQ; exact ⟨hfr.defers, v, results_of hfr hv P w', v, rfl, hR⟩
    | _ => exact hQ.elim

end Go.Kx

/- A region's operations with its passing slots taken out: every operand is a slot as the region found it (2 t), or the result of an earlier operation (2 i + 1). -/
namespace Go.Kx

def mapOpd (g : Tmp → Tmp) : Operand → Operand
  | .tmp t => .tmp (g t)
  | x => x

def mapCallee (g : Tmp → Tmp) : Callee → Callee
  | .value f => .value (mapOpd g f)
  | .invoke r m => .invoke (mapOpd g r) m
  | .builtin b => .builtin b

def mapCall (g : Tmp → Tmp) (c : Call) : Call := { callee := mapCallee g c.callee, args := c.args.map (mapOpd g), argTypes := c.argTypes }

/-- The operation with its slots renamed; of the kinds that do not occur: none. -/
def mapOp (g : Tmp → Tmp) : Op → Option Op
  | .move x => some (.move (mapOpd g x))
  | .assign x => some (.assign (mapOpd g x))
  | .pick c a b => some (.pick (mapOpd g c) (mapOpd g a) (mapOpd g b))
  | .alloc e => some (.alloc e)
  | .box e x => some (.box e (mapOpd g x))
  | .build t ps => some (.build t (ps.map fun p => (p.1, mapOpd g p.2)))
  | .buildSlice t n ps => some (.buildSlice t n (ps.map fun p => (p.1, mapOpd g p.2)))
  | .load t x => some (.load t (mapOpd g x))
  | .store t a x => some (.store t (mapOpd g a) (mapOpd g x))
  | .nilCheck x => some (.nilCheck (mapOpd g x))
  | .binOp op t x y u => some (.binOp op t (mapOpd g x) (mapOpd g y) u)
  | .unOp op t x => some (.unOp op t (mapOpd g x))
  | .convert s d x => some (.convert s d (mapOpd g x))
  | .makeMap t r => some (.makeMap t (r.map (mapOpd g)))
  | .makeSlice t x y => some (.makeSlice t (mapOpd g x) (mapOpd g y))
  | .slice t x l h m => some (.slice t (mapOpd g x) (l.map (mapOpd g)) (h.map (mapOpd g)) (m.map (mapOpd g)))
  | .fieldAddr s x f => some (.fieldAddr s (mapOpd g x) f)
  | .field t x f => some (.field t (mapOpd g x) f)
  | .indexAddr t x i => some (.indexAddr t (mapOpd g x) (mapOpd g i))
  | .index t x i => some (.index t (mapOpd g x) (mapOpd g i))
  | .lookup t x i ok => some (.lookup t (mapOpd g x) (mapOpd g i) ok)
  | .mapUpdate t m k x => some (.mapUpdate t (mapOpd g m) (mapOpd g k) (mapOpd g x))
  | .extract x i => some (.extract (mapOpd g x) i)
  | .makeInterface t x => some (.makeInterface t (mapOpd g x))
  | .makeFunc f a b => some (.makeFunc f (a.map (mapOpd g)) (b.map (mapOpd g)))
  | .range t x => some (.range t (mapOpd g x))
  | .next x s => some (.next (mapOpd g x) s)
  | .entry x => some (.entry (mapOpd g x))
  | .typeAssert x t u ok => some (.typeAssert (mapOpd g x) t u ok)
  | .call c => some (.call (mapCall g c))
  | _ => none

theorem ev_mapOpd (σ : Fm) (g : Tmp → Tmp) (x : Operand) : ev σ (mapOpd g x) = ev (fun t => σ (g t)) x := by cases x <;> rfl

theorem map_map_ev (σ : Fm) (g : Tmp → Tmp) (l : Array Operand) : (l.map (mapOpd g)).map (ev σ) = l.map (ev fun t => σ (g t)) := by
  rw [Array.map_map]
  congr 1
  funext x
  exact ev_mapOpd σ g x

theorem map_parts_ev (σ : Fm) (g : Tmp → Tmp) (ps : Array (Nat × Operand)) :
    (ps.map fun p => (p.1, mapOpd g p.2)).map (fun p => (p.1, ev σ p.2)) = ps.map fun p => (p.1, ev (fun t => σ (g t)) p.2) := by
  rw [Array.map_map]
  congr 1
  funext p
  simp only [Function.comp, ev_mapOpd]

theorem opt_map_ev (σ : Fm) (g : Tmp → Tmp) (o : Option Operand) : (o.map (mapOpd g)).map (ev σ) = o.map (ev fun t => σ (g t)) := by
  cases o with
  | none => rfl
  | some x => simp only [Option.map_some, ev_mapOpd]

theorem const_mapOpd (g : Tmp → Tmp) (x : Operand) : (match mapOpd g x with | .const _ => true | _ => false) = (match x with | .const _ => true | _ => false) := by cases x <;> rfl

theorem resolve_map (σ : Fm) (g : Tmp → Tmp) (c : Call) (ty : TypeId) : resolve (ev σ) (mapCall g c) ty = resolve (ev fun t => σ (g t)) c ty := by
  obtain ⟨callee, args, ats⟩ := c
  simp only [resolve, mapCall, map_map_ev]
  cases callee with
  | value f => simp only [mapCallee, ev_mapOpd]
  | invoke r m => simp only [mapCallee, ev_mapOpd]
  | builtin b =>
    simp only [mapCallee, Array.map_map]
    congr 4
    funext x
    exact const_mapOpd g x

theorem eqGuard_map (g : Tmp → Tmp) (op : BinOp) (t : TypeId) (x y : Operand) (a b : Value) : eqGuard op t (mapOpd g x) (mapOpd g y) a b = eqGuard op t x y a b := by
  cases x <;> cases y <;> rfl

theorem execOp_map (σ : Fm) (g : Tmp → Tmp) {op op' : Op} (h : mapOp g op = some op') (d d' : Option Tmp) (ty : TypeId) (pos pos' : String) (af af' : Array Edge) (gd gd' : Option (Nat × Bool)) :
    execOp (ev σ) ⟨d', op', ty, pos', af', gd'⟩ = execOp (ev fun t => σ (g t)) ⟨d, op, ty, pos, af, gd⟩ := by
  cases op with
  | build t ps =>
    cases h
    have he := map_parts_ev σ g ps
    simp only [execOp]
    rw [show (Array.map (fun x => (x.1, ev σ x.2)) (Array.map (fun p => (p.1, mapOpd g p.2)) ps)) = Array.map (fun p => (p.1, ev (fun t => σ (g t)) p.2)) ps from he]
  | buildSlice t n ps =>
    cases h
    have he := map_parts_ev σ g ps
    simp only [execOp]
    rw [show (Array.map (fun x => (x.1, ev σ x.2)) (Array.map (fun p => (p.1, mapOpd g p.2)) ps)) = Array.map (fun p => (p.1, ev (fun t => σ (g t)) p.2)) ps from he]
  | makeMap t r => cases h; simp only [execOp, opt_map_ev]
  | slice t x l hh m => cases h; simp only [execOp, opt_map_ev, ev_mapOpd]
  | call c => cases h; simp only [execOp, resolve_map]
  | binOp op t x y u => cases h; simp only [execOp, ev_mapOpd, eqGuard_map]
  | alloc _ => cases h; rfl
  | ready _ => cases h
  | waits _ => cases h
  | sliceToArrayPointer _ _ => cases h
  | makeFunc _ _ _ => cases h; simp only [execOp, map_map_ev]
  | makeChan _ _ => cases h
  | insert _ _ _ _ => cases h
  | mapEntry _ _ _ => cases h
  | entryStore _ _ _ _ => cases h
  | go _ => cases h
  | defer _ => cases h
  | panic _ => cases h
  | send _ _ => cases h
  | recv _ _ _ => cases h
  | select _ _ => cases h
  | _ => cases h; simp only [execOp, ev_mapOpd]

/-- Where a slot's value stands: the last binding counts. -/
def look (m : List (Nat × Nat)) (t : Nat) : Nat :=
  match m with
  | [] => 2 * t
  | (s, e) :: r => if s == t then e else look r t

structure Can where
  ops : List (Op × TypeId)
  binds : List (Nat × Nat)

/-- m: the bindings so far, the last one first; k: how many results there are. -/
def canon : List Oper → List (Nat × Nat) → Nat → Option Can
  | [], m, _ => some ⟨[], m⟩
  | o :: l, m, k =>
    if o.guard.isSome then none else
    match o.op, o.dst with
    | .move (.tmp t), some d => canon l ((d, look m t) :: m) k
    | .assign (.tmp t), some d => canon l ((d, look m t) :: m) k
    | op, d =>
      match mapOp (look m) op, canon l (match d with | some d => (d, 2 * k + 1) :: m | none => m) (k + 1) with
      | some op', some c => some ⟨(op', o.type) :: c.ops, c.binds⟩
      | _, _ => none

/-- The operations of a region in this form: ρ (2 t) is slot t as it was, ρ (2 i + 1) the i-th result. -/
def RC (P : Program) : List (Op × TypeId) → Nat → Fm → World → (Fm → World → Prop) → Prop
  | [], _, ρ, w, K => K ρ w
  | (op, ty) :: l, k, ρ, w, K => OpK P (ev ρ) ⟨none, op, ty, "", #[], none⟩ w fun v w' => RC P l (k + 1) (upd ρ (some (2 * k + 1)) v) w' K

def enF (σ : Fm) : Fm := fun (t : Nat) => if t % 2 = 0 then σ (t / 2) else undef
theorem enF_even (σ : Fm) (t : Nat) : enF σ (2 * t) = σ t := by
  unfold enF
  rw [if_pos (by omega), show 2 * t / 2 = t by omega]

/-- Slots stand as bound; ρ agrees with the first frame on slots. -/
def Bound (m : List (Nat × Nat)) (k : Nat) (σ : Fm) (ρ : Fm) : Prop := (∀ t, σ t = ρ (look m t)) ∧ ∀ t, look m t % 2 = 1 → look m t < 2 * k + 1

theorem look_bound {m : List (Nat × Nat)} {k : Nat} (h : ∀ e ∈ m, e.2 % 2 = 1 → e.2 < 2 * k + 1) (t : Nat) : look m t % 2 = 1 → look m t < 2 * k + 1 := by
  induction m with
  | nil => intro hh; simp only [look] at hh ⊢; omega
  | cons x m ih =>
    obtain ⟨s, e⟩ := x
    simp only [look]
    split
    · exact h (s, e) (by simp)
    · exact ih fun e he => h e (by simp [he])

theorem canon_sound {P : Program} {ops : Array Oper} (l : List Oper) : ∀ {m : List (Nat × Nat)} {k : Nat} {c : Can} {σ ρ : Fm} {w : World} {K : Fm → World → Prop},
    canon l m k = some c → (∀ t, σ t = ρ (look m t)) → (∀ e ∈ m, e.2 % 2 = 1 → e.2 < 2 * k + 1) →
    RC P c.ops k ρ w (fun ρ' w' => K (fun t => ρ' (look c.binds t)) w') → RW P ops l σ w K := by
  induction l with
  | nil =>
    intro m k c σ ρ w K hc hm _ h
    simp only [canon, Option.some.injEq] at hc
    subst hc
    simp only [RC] at h
    simp only [RW]
    rw [show σ = fun t => ρ (look m t) from funext hm]
    exact h
  | cons o l ih =>
    intro m k c σ ρ w K hc hm hb h
    obtain ⟨dst, op, ty, pos, after, guard⟩ := o
    simp only [canon] at hc
    cases guard with
    | some g => simp at hc
    | none =>
      simp only [Option.isSome_none, Bool.false_eq_true, if_false] at hc
      simp only [RW, wantedB, if_true]
      split at hc
      · rename_i _ _ t d
        simp only [OpK, execOp, Sem.run_pure, After, ev_tmp]
        refine ih hc (fun s => ?_) (fun e he ho => ?_) h
        · simp only [look]
          by_cases hs : s = d
          · subst hs; simp [hm]
          · rw [upd_ne _ _ hs, if_neg (by simpa using Ne.symm hs), hm]
        · rcases List.mem_cons.1 he with rfl | he
          · exact look_bound hb t ho
          · exact hb e he ho
      · rename_i _ _ t d
        simp only [OpK, execOp, Sem.run_pure, After, ev_tmp]
        refine ih hc (fun s => ?_) (fun e he ho => ?_) h
        · simp only [look]
          by_cases hs : s = d
          · subst hs; simp [hm]
          · rw [upd_ne _ _ hs, if_neg (by simpa using Ne.symm hs), hm]
        · rcases List.mem_cons.1 he with rfl | he
          · exact look_bound hb t ho
          · exact hb e he ho
      · split at hc
        · rename_i op' c' hop' hc'
          simp only [Option.some.injEq] at hc
          subst hc
          simp only [RC] at h
          unfold OpK at h ⊢
          rw [execOp_map ρ (look m) hop' dst none ty pos "" after #[] none none] at h
          have hσ : (fun t => ρ (look m t)) = σ := (funext hm).symm
          rw [hσ] at h
          refine After.mono h fun v w' h' => ?_
          cases dst with
          | none =>
            simp only [upd_none]
            refine ih hc' (fun s => ?_) (fun e he ho => by have := hb e he ho; omega) h'
            rw [upd_ne, hm]
            have := look_bound hb s
            generalize look m s = x at this ⊢
            omega
          | some d =>
            refine ih hc' (fun s => ?_) (fun e he ho => ?_) h'
            · simp only [look]
              by_cases hs : s = d
              · subst hs; simp
              · rw [upd_ne _ _ hs, if_neg (by simpa using Ne.symm hs), upd_ne, hm]
                have := look_bound hb s
                generalize look m s = x at this ⊢
                omega
            · rcases List.mem_cons.1 he with rfl | he
              · simp only; omega
              · have := hb e he ho; omega
        · cases hc

/-- A region without an open order, in this form. -/
theorem CW.canon {P : Program} {n id : Nat} {ops : Array Oper} {σ : Fm} {w : World} {Q : Exit → Fm → World → Prop} {c : Can} (hc : Go.Kx.canon ops.toList [] 0 = some c)
    (h : RC P c.ops 0 (enF σ) w fun ρ w' => Q .normal (fun t => ρ (look c.binds t)) w') : CW P n (.region id ops false) σ w Q :=
  CW.region (canon_sound ops.toList hc (fun t => (enF_even σ t).symm) (fun e he => by cases he) h)

end Go.Kx

/- What each kind of operation does, as a rule of its own. -/
namespace Go.Kx
open Go.RowKit
set_option linter.unusedSimpArgs false

/-- A function with a body of its own. -/
def Callable (P : Program) (f : FuncId) : Prop := ∃ fn, P.funcs[f]? = some fn ∧ (fn.name == "runtime.NumGoroutine") = false ∧ fn.body.isNone = false

theorem run_callFunc {P : Program} {f : FuncId} (h : Callable P f) (args : Array Value) (w : World) : (callFunc f args).run P w = .ok (.enter f args) w := by
  obtain ⟨fn, hf, hn, hb⟩ := h
  simp only [callFunc, Sem.run_bind, run_program, Result.andThen_ok, hf, hn, hb]
  simp

/-- A type whose values have one cell. -/
def oneB (P : Program) (t : TypeId) : Bool :=
  match P.underlying t with
  | some (.struct _) | some (.array ..) | none => false
  | _ => true

theorem run_isAgg_one {P : Program} {t : TypeId} (h : oneB P t = true) (w : World) : (isAgg t).run P w = .ok false w := by
  unfold oneB at h
  cases hd : P.underlying t with
  | none => simp [hd] at h
  | some d => cases d <;> simp [hd] at h <;> simp [isAgg, run_underlying hd]

def fieldOff (P : Program) (T : TypeId) (k : Nat) : Option Nat :=
  match P.underlying T with
  | some (.struct fs) => match fs[k]? with
    | some f => match P.info? f.type with
      | some i => if i.size = 0 then none else some f.offset
      | none => none
    | none => none
  | _ => none

def elemSize (P : Program) (t : TypeId) : Option Nat :=
  match P.underlying t with
  | some (.slice e) => (P.info? e).map (·.size)
  | _ => none

section
variable {P : Program} {ρ : Operand → Value} {w : World} {K : Value → World → Prop} {d : Option Tmp} {ty : TypeId} {pos : String} {af : Array Edge} {g : Option (Nat × Bool)}

theorem OpK.move {x : Operand} (h : K (ρ x) w) : OpK P ρ ⟨d, .move x, ty, pos, af, g⟩ w K := by
  simp only [OpK, execOp, Sem.run_pure, After]; exact h
theorem OpK.assign {x : Operand} (h : K (ρ x) w) : OpK P ρ ⟨d, .assign x, ty, pos, af, g⟩ w K := by
  simp only [OpK, execOp, Sem.run_pure, After]; exact h
theorem OpK.pick {c x y : Operand} {b : Bool} (hc : ρ c = .bool b) (h : K (if b then ρ x else ρ y) w) : OpK P ρ ⟨d, .pick c x y, ty, pos, af, g⟩ w K := by
  simp only [OpK, execOp, hc, asBool, Sem.run_bind, Sem.run_pure, Result.andThen_ok, After]; exact h
theorem OpK.nilCheck {x : Operand} {a : Addr} (hx : ρ x = .pointer (some a)) (h : K (.pointer (some a)) w) : OpK P ρ ⟨d, .nilCheck x, ty, pos, af, g⟩ w K := by
  simp only [OpK, execOp, hx, Sem.run_pure, After]; exact h
theorem OpK.fieldAddr {x : Operand} {T : TypeId} {k off : Nat} {a : Addr} (ho : fieldOff P T k = some off) (hx : ρ x = .pointer (some a)) (h : K (.pointer (some (a.add off))) w) :
    OpK P ρ ⟨d, .fieldAddr T x k, ty, pos, af, g⟩ w K := by
  unfold fieldOff at ho
  split at ho
  · rename_i fs hs
    split at ho
    · rename_i f hf
      split at ho
      · rename_i i hi
        split at ho
        · cases ho
        · rename_i hz
          cases ho
          simp only [OpK, execOp, hx, Instr.fieldAt, Sem.run_bind, run_underlying hs, Result.andThen_ok, hf, Instr.sureAddr, Sem.run_pure, fieldPlace, sizeOf, typeInfo, run_program, hi, if_neg hz, After]
          exact h
      · cases ho
    · cases ho
  · cases ho
theorem OpK.load {x : Operand} {t : TypeId} {a : Addr} {v : Value} (ht : oneB P t = true) (hx : ρ x = .pointer (some a)) (hc : w.cell? a = some v) (h : K v w) :
    OpK P ρ ⟨d, .load t x, ty, pos, af, g⟩ w K := by
  simp only [OpK, execOp, hx, Instr.loadAt, Instr.sureAddr, Sem.run_bind, Sem.run_pure, Result.andThen_ok, loadVar, run_isAgg_one ht]
  simp [hc, After]
  exact h
theorem OpK.store {x y : Operand} {t : TypeId} {a : Addr} {v : Value} (hs : (P.info? t).map (·.size) = some 1) (hx : ρ x = .pointer (some a)) (hy : ρ y = v) (hv : v.oneCell' = true)
    (hc : (w.cell? a).isSome = true) (hf : w.frozen? a = false) (h : K undef (w.setCell a v)) : OpK P ρ ⟨d, .store t x y, ty, pos, af, g⟩ w K := by
  obtain ⟨u, hu⟩ := Option.isSome_iff_exists.1 hc
  obtain ⟨i, hi, hi1⟩ := Option.map_eq_some_iff.1 hs
  have hvc : v.cells = #[v] := by cases v <;> first | rfl | (simp [Value.oneCell'] at hv)
  have ha : a.add 0 = a := by simp [Addr.add]
  simp only [OpK, execOp, hx, hy, Instr.storeAt, Instr.sureAddr, Sem.run_bind, Sem.run_pure, Result.andThen_ok, storeVar, hvc, sizeOf, typeInfo, run_program, hi, hi1]
  simp [storeCells, ha, run_store P w a v .plain hv, hu, hf, After]
  exact h
theorem OpK.len {x : Operand} {t e : TypeId} {a : Option Addr} {n c : Nat} (ht : P.underlying t = some (.slice e)) (hx : ρ x = .slice a n c) (h : K (.int .i64 n) w) :
    OpK P ρ ⟨d, .call ⟨.builtin .len, #[x], #[t]⟩, ty, pos, af, g⟩ w K := by
  simp only [OpK, execOp, resolve, invoke, builtin, Sem.run_bind, Sem.run_pure, Result.andThen_ok, List.map_toArray, List.map_cons, List.map_nil, hx, Builtin.len_]
  simp [run_underlying ht, After, goInt]
  exact h
theorem OpK.lenStr {x : Operand} {t : TypeId} {s : ByteArray} (ht : P.underlying t = some .string) (hx : ρ x = .string s) (h : K (.int .i64 s.size) w) :
    OpK P ρ ⟨d, .call ⟨.builtin .len, #[x], #[t]⟩, ty, pos, af, g⟩ w K := by
  simp only [OpK, execOp, resolve, invoke, builtin, Sem.run_bind, Sem.run_pure, Result.andThen_ok, List.map_toArray, List.map_cons, List.map_nil, hx, Builtin.len_]
  simp [run_underlying ht, After, goInt]
  exact h
theorem OpK.call {f : FuncId} {args : Array Operand} {ats : Array TypeId} (hf : Callable P f) (h : Calls P f (args.map ρ) w fun e w' => ∃ v, e = .returned v ∧ K v w') (hρ : ρ (.func f) = .func (.func f) #[] #[]) :
    OpK P ρ ⟨d, .call ⟨.value (.func f), args, ats⟩, ty, pos, af, g⟩ w K := by
  simp only [OpK, execOp, resolve, hρ, Deferred.ofValue, invoke, Sem.run_bind, Sem.run_pure, Result.andThen_ok]
  simp [invoke, run_callFunc hf, After]
  exact h
theorem OpK.convInt {x : Operand} {s t : TypeId} {k k' : IntKind} {n : Int} (hs : (P.underlying s).isSome = true) (ht : P.underlying t = some (.int k')) (hx : ρ x = .int k n) (h : K (.int k' (k'.wrap n)) w) :
    OpK P ρ ⟨d, .convert s t x, ty, pos, af, g⟩ w K := by
  obtain ⟨ds, hds⟩ := Option.isSome_iff_exists.1 hs
  simp [OpK, execOp, hx, convert, run_underlying hds, run_underlying ht, Conv.intToInt, After]
  exact h
theorem OpK.not {x : Operand} {t : TypeId} {b : Bool} (hx : ρ x = .bool b) (h : K (.bool !b) w) : OpK P ρ ⟨d, .unOp .not t x, ty, pos, af, g⟩ w K := by
  simp [OpK, execOp, hx, Op.unary, After]
  exact h

def cmpB : BinOp → Int → Int → Option Bool
  | .eql, x, y => some (x == y)
  | .neq, x, y => some (x != y)
  | .lss, x, y => some (decide (x < y))
  | .leq, x, y => some (decide (x ≤ y))
  | .gtr, x, y => some (decide (x > y))
  | .geq, x, y => some (decide (x ≥ y))
  | _, _, _ => none

theorem OpK.cmp {x y : Operand} {op : BinOp} {t u : TypeId} {k : IntKind} {a b : Int} {r : Bool} (hr : cmpB op a b = some r) (hx : ρ x = .int k a) (hy : ρ y = .int k b) (h : K (.bool r) w) :
    OpK P ρ ⟨d, .binOp op t x y u, ty, pos, af, g⟩ w K := by
  cases op <;> simp [cmpB] at hr <;> subst hr <;> simp [OpK, execOp, hx, hy, eqGuard, binOp, Op.intCmp, After] <;> exact h

def arithI : BinOp → IntKind → Int → Int → Option Int
  | .add, k, x, y => some (k.wrap (x + y))
  | .sub, k, x, y => some (k.wrap (x - y))
  | .mul, k, x, y => some (k.wrap (x * y))
  | _, _, _, _ => none

theorem OpK.arith {x y : Operand} {op : BinOp} {t u : TypeId} {k : IntKind} {a b r : Int} (hr : arithI op k a b = some r) (hx : ρ x = .int k a) (hy : ρ y = .int k b) (h : K (.int k r) w) :
    OpK P ρ ⟨d, .binOp op t x y u, ty, pos, af, g⟩ w K := by
  cases op <;> simp [arithI] at hr <;> subst hr <;> simp [OpK, execOp, hx, hy, eqGuard, binOp, Op.intArith, After] <;> exact h

theorem OpK.indexAddr {x i : Operand} {t : TypeId} {a : Addr} {n c s : Nat} {k : IntKind} {j : Nat} (hs : elemSize P t = some s) (hx : ρ x = .slice (some a) n c) (hi : ρ i = .int k (j : Int)) (hj : j < n)
    (h : K (.pointer (some (a.add (j * s)))) w) : OpK P ρ ⟨d, .indexAddr t x i, ty, pos, af, g⟩ w K := by
  unfold elemSize at hs
  split at hs
  · rename_i e he
    obtain ⟨inf, hinf, hsz⟩ := Option.map_eq_some_iff.1 hs
    subst hsz
    have h0 : (0 : Int) ≤ j ∧ (j : Int) < n := by omega
    simp only [OpK, execOp, hx, hi, Instr.indexAt, asIntOf, Sem.run_bind, Sem.run_pure, Result.andThen_ok, run_underlying he, if_pos h0, sizeOf, typeInfo, run_program, hinf, Int.toNat_natCast, After]
    exact h
  · cases hs

theorem OpK.buildS {t : TypeId} {n : Nat} {parts : Array (Nat × Operand)} {v : Value} {w' : World} (hr : (Instr.buildSlice t n (parts.map fun (i, x) => (i, ρ x))).run P w = .ok v w') (h : K v w') :
    OpK P ρ ⟨d, .buildSlice t n parts, ty, pos, af, g⟩ w K := by
  simp only [OpK, execOp, Sem.run_bind, hr, Result.andThen_ok, Sem.run_pure, After]
  exact h

theorem OpK.run {x y : Operand} {b : Builtin} {t u : TypeId} {v : Value} {w' : World} (hb : b = .append)
    (hr : (Builtin.append_ #[t, u] ty #[ρ x, ρ y]).run P w = .ok v w') (h : K v w') : OpK P ρ ⟨d, .call ⟨.builtin b, #[x, y], #[t, u]⟩, ty, pos, af, g⟩ w K := by
  subst hb
  simp only [OpK, execOp, resolve, invoke, builtin, Sem.run_bind, Sem.run_pure, Result.andThen_ok, List.map_toArray, List.map_cons, List.map_nil, hr, After]
  exact h
end

section
variable {P : Program} {ρ : Operand → Value} {w : World} {K : Value → World → Prop} {d : Option Tmp} {ty : TypeId} {pos : String} {af : Array Edge} {g : Option (Nat × Bool)}
theorem OpK.shr {x y : Operand} {t u : TypeId} {k q : IntKind} {a b : Int} (hx : ρ x = .int k a) (hy : ρ y = .int q b) (hb : 0 ≤ b) (h : K (.int k (a / 2 ^ min b.toNat k.bits)) w) :
    OpK P ρ ⟨d, .binOp .shr t x y u, ty, pos, af, g⟩ w K := by
  simp [OpK, execOp, hx, hy, eqGuard, binOp, shift_shr_any k q a b hb, After]
  exact h
theorem OpK.and {x y : Operand} {t u : TypeId} {k : IntKind} {a b : Int} (hx : ρ x = .int k a) (hy : ρ y = .int k b) (h : K (.int k (bits .and k a b)) w) : OpK P ρ ⟨d, .binOp .and t x y u, ty, pos, af, g⟩ w K := by
  simp [OpK, execOp, hx, hy, eqGuard, binOp, Op.intBits, After]
  exact h
theorem OpK.or {x y : Operand} {t u : TypeId} {k : IntKind} {a b : Int} (hx : ρ x = .int k a) (hy : ρ y = .int k b) (h : K (.int k (bits .or k a b)) w) : OpK P ρ ⟨d, .binOp .or t x y u, ty, pos, af, g⟩ w K := by
  simp [OpK, execOp, hx, hy, eqGuard, binOp, Op.intBits, After]
  exact h
theorem OpK.indexStr {x i : Operand} {t : TypeId} {s : ByteArray} {k : IntKind} {j : Nat} {b : UInt8} (ht : P.underlying t = some .string) (hx : ρ x = .string s) (hi : ρ i = .int k (j : Int)) (hb : s[j]? = some b) (h : K (.int .u8 b.toNat) w) :
    OpK P ρ ⟨d, .index t x i, ty, pos, af, g⟩ w K := by
  have h0 : (0 : Int) ≤ j := by omega
  simp only [OpK, execOp, hx, hi, Instr.index, asIntOf, Sem.run_bind, Sem.run_pure, Result.andThen_ok, run_underlying ht, if_pos h0, Int.toNat_natCast, hb, After]
  exact h
theorem RW.c {ops : Array Oper} {o : Oper} {l : List Oper} {σ : Fm} {K' : Fm → World → Prop} (hg : o.guard = none) (h : OpK P (ev σ) o w fun v w' => RW P ops l (upd σ o.dst v) w' K') : RW P ops (o :: l) σ w K' := by
  unfold RW
  rw [if_pos (by unfold wantedB; rw [hg])]
  exact h
theorem RW.z {ops : Array Oper} {σ : Fm} {K' : Fm → World → Prop} (h : K' σ w) : RW P ops [] σ w K' := h
end

end Go.Kx
