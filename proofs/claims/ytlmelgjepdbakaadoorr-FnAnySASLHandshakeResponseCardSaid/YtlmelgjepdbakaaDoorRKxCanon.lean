/- A region's operations with its passing slots taken out: every operand is a slot as the region found it (2 t), or the result of an earlier operation (2 i + 1). -/
import Derived.Test.YtlmelgjepdbakaaDoorRKxCore
namespace Go.Kx

def mapOpd (g : Tmp → Tmp) : Operand → Operand
  | .tmp t => .tmp (g t)
  | x => x

def mapCallee (g : Tmp → Tmp) : Callee → Callee
  | .value f => .value (mapOpd g f)
  | .invoke r m => .invoke (mapOpd g r) m
  | .builtin b => .builtin b

def mapCall (g : Tmp → Tmp) (c : Call) : Call := { callee := mapCallee g c.callee, args := c.args.map (mapOpd g), argTypes := c.argTypes }

/-- The operation with its slots renamed; of the kinds that do not occur: none. -/
def mapOp (g : Tmp → Tmp) : Op → Option Op
  | .move x => some (.move (mapOpd g x))
  | .assign x => some (.assign (mapOpd g x))
  | .pick c a b => some (.pick (mapOpd g c) (mapOpd g a) (mapOpd g b))
  | .alloc e => some (.alloc e)
  | .box e x => some (.box e (mapOpd g x))
  | .build t ps => some (.build t (ps.map fun p => (p.1, mapOpd g p.2)))
  | .buildSlice t n ps => some (.buildSlice t n (ps.map fun p => (p.1, mapOpd g p.2)))
  | .load t x => some (.load t (mapOpd g x))
  | .store t a x => some (.store t (mapOpd g a) (mapOpd g x))
  | .nilCheck x => some (.nilCheck (mapOpd g x))
  | .binOp op t x y u => some (.binOp op t (mapOpd g x) (mapOpd g y) u)
  | .unOp op t x => some (.unOp op t (mapOpd g x))
  | .convert s d x => some (.convert s d (mapOpd g x))
  | .makeMap t r => some (.makeMap t (r.map (mapOpd g)))
  | .makeSlice t x y => some (.makeSlice t (mapOpd g x) (mapOpd g y))
  | .slice t x l h m => some (.slice t (mapOpd g x) (l.map (mapOpd g)) (h.map (mapOpd g)) (m.map (mapOpd g)))
  | .fieldAddr s x f => some (.fieldAddr s (mapOpd g x) f)
  | .field t x f => some (.field t (mapOpd g x) f)
  | .indexAddr t x i => some (.indexAddr t (mapOpd g x) (mapOpd g i))
  | .index t x i => some (.index t (mapOpd g x) (mapOpd g i))
  | .lookup t x i ok => some (.lookup t (mapOpd g x) (mapOpd g i) ok)
  | .mapUpdate t m k x => some (.mapUpdate t (mapOpd g m) (mapOpd g k) (mapOpd g x))
  | .extract x i => some (.extract (mapOpd g x) i)
  | .makeInterface t x => some (.makeInterface t (mapOpd g x))
  | .makeFunc f a b => some (.makeFunc f (a.map (mapOpd g)) (b.map (mapOpd g)))
  | .range t x => some (.range t (mapOpd g x))
  | .next x s => some (.next (mapOpd g x) s)
  | .entry x => some (.entry (mapOpd g x))
  | .typeAssert x t u ok => some (.typeAssert (mapOpd g x) t u ok)
  | .call c => some (.call (mapCall g c))
  | _ => none

theorem ev_mapOpd (σ : Fm) (g : Tmp → Tmp) (x : Operand) : ev σ (mapOpd g x) = ev (fun t => σ (g t)) x := by cases x <;> rfl

theorem map_map_ev (σ : Fm) (g : Tmp → Tmp) (l : Array Operand) : (l.map (mapOpd g)).map (ev σ) = l.map (ev fun t => σ (g t)) := by
  rw [Array.map_map]
  congr 1
  funext x
  exact ev_mapOpd σ g x

theorem map_parts_ev (σ : Fm) (g : Tmp → Tmp) (ps : Array (Nat × Operand)) :
    (ps.map fun p => (p.1, mapOpd g p.2)).map (fun p => (p.1, ev σ p.2)) = ps.map fun p => (p.1, ev (fun t => σ (g t)) p.2) := by
  rw [Array.map_map]
  congr 1
  funext p
  simp only [Function.comp, ev_mapOpd]

theorem opt_map_ev (σ : Fm) (g : Tmp → Tmp) (o : Option Operand) : (o.map (mapOpd g)).map (ev σ) = o.map (ev fun t => σ (g t)) := by
  cases o with
  | none => rfl
  | some x => simp only [Option.map_some, ev_mapOpd]

theorem const_mapOpd (g : Tmp → Tmp) (x : Operand) : (match mapOpd g x with | .const _ => true | _ => false) = (match x with | .const _ => true | _ => false) := by cases x <;> rfl

theorem resolve_map (σ : Fm) (g : Tmp → Tmp) (c : Call) (ty : TypeId) : resolve (ev σ) (mapCall g c) ty = resolve (ev fun t => σ (g t)) c ty := by
  obtain ⟨callee, args, ats⟩ := c
  simp only [resolve, mapCall, map_map_ev]
  cases callee with
  | value f => simp only [mapCallee, ev_mapOpd]
  | invoke r m => simp only [mapCallee, ev_mapOpd]
  | builtin b =>
    simp only [mapCallee, Array.map_map]
    congr 4
    funext x
    exact const_mapOpd g x

theorem eqGuard_map (g : Tmp → Tmp) (op : BinOp) (t : TypeId) (x y : Operand) (a b : Value) : eqGuard op t (mapOpd g x) (mapOpd g y) a b = eqGuard op t x y a b := by
  cases x <;> cases y <;> rfl

theorem execOp_map (σ : Fm) (g : Tmp → Tmp) {op op' : Op} (h : mapOp g op = some op') (d d' : Option Tmp) (ty : TypeId) (pos pos' : String) (af af' : Array Edge) (gd gd' : Option (Nat × Bool)) :
    execOp (ev σ) ⟨d', op', ty, pos', af', gd'⟩ = execOp (ev fun t => σ (g t)) ⟨d, op, ty, pos, af, gd⟩ := by
  cases op with
  | build t ps =>
    cases h
    have he := map_parts_ev σ g ps
    simp only [execOp]
    rw [show (Array.map (fun x => (x.1, ev σ x.2)) (Array.map (fun p => (p.1, mapOpd g p.2)) ps)) = Array.map (fun p => (p.1, ev (fun t => σ (g t)) p.2)) ps from he]
  | buildSlice t n ps =>
    cases h
    have he := map_parts_ev σ g ps
    simp only [execOp]
    rw [show (Array.map (fun x => (x.1, ev σ x.2)) (Array.map (fun p => (p.1, mapOpd g p.2)) ps)) = Array.map (fun p => (p.1, ev (fun t => σ (g t)) p.2)) ps from he]
  | makeMap t r => cases h; simp only [execOp, opt_map_ev]
  | slice t x l hh m => cases h; simp only [execOp, opt_map_ev, ev_mapOpd]
  | call c => cases h; simp only [execOp, resolve_map]
  | binOp op t x y u => cases h; simp only [execOp, ev_mapOpd, eqGuard_map]
  | alloc _ => cases h; rfl
  | ready _ => cases h
  | waits _ => cases h
  | sliceToArrayPointer _ _ => cases h
  | makeFunc _ _ _ => cases h; simp only [execOp, map_map_ev]
  | makeChan _ _ => cases h
  | insert _ _ _ _ => cases h
  | mapEntry _ _ _ => cases h
  | entryStore _ _ _ _ => cases h
  | go _ => cases h
  | defer _ => cases h
  | panic _ => cases h
  | send _ _ => cases h
  | recv _ _ _ => cases h
  | select _ _ => cases h
  | _ => cases h; simp only [execOp, ev_mapOpd]

/-- Where a slot's value stands: the last binding counts. -/
def look (m : List (Nat × Nat)) (t : Nat) : Nat :=
  match m with
  | [] => 2 * t
  | (s, e) :: r => if s == t then e else look r t

structure Can where
  ops : List (Op × TypeId)
  binds : List (Nat × Nat)

/-- m: the bindings so far, the last one first; k: how many results there are. -/
def canon : List Oper → List (Nat × Nat) → Nat → Option Can
  | [], m, _ => some ⟨[], m⟩
  | o :: l, m, k =>
    if o.guard.isSome then none else
    match o.op, o.dst with
    | .move (.tmp t), some d => canon l ((d, look m t) :: m) k
    | .assign (.tmp t), some d => canon l ((d, look m t) :: m) k
    | op, d =>
      match mapOp (look m) op, canon l (match d with | some d => (d, 2 * k + 1) :: m | none => m) (k + 1) with
      | some op', some c => some ⟨(op', o.type) :: c.ops, c.binds⟩
      | _, _ => none

/-- The operations of a region in this form: ρ (2 t) is slot t as it was, ρ (2 i + 1) the i-th result. -/
def RC (P : Program) : List (Op × TypeId) → Nat → Fm → World → (Fm → World → Prop) → Prop
  | [], _, ρ, w, K => K ρ w
  | (op, ty) :: l, k, ρ, w, K => OpK P (ev ρ) ⟨none, op, ty, "", #[], none⟩ w fun v w' => RC P l (k + 1) (upd ρ (some (2 * k + 1)) v) w' K

def enF (σ : Fm) : Fm := fun (t : Nat) => if t % 2 = 0 then σ (t / 2) else undef
theorem enF_even (σ : Fm) (t : Nat) : enF σ (2 * t) = σ t := by
  unfold enF
  rw [if_pos (by omega), show 2 * t / 2 = t by omega]

/-- Slots stand as bound; ρ agrees with the first frame on slots. -/
def Bound (m : List (Nat × Nat)) (k : Nat) (σ : Fm) (ρ : Fm) : Prop := (∀ t, σ t = ρ (look m t)) ∧ ∀ t, look m t % 2 = 1 → look m t < 2 * k + 1

theorem look_bound {m : List (Nat × Nat)} {k : Nat} (h : ∀ e ∈ m, e.2 % 2 = 1 → e.2 < 2 * k + 1) (t : Nat) : look m t % 2 = 1 → look m t < 2 * k + 1 := by
  induction m with
  | nil => intro hh; simp only [look] at hh ⊢; omega
  | cons x m ih =>
    obtain ⟨s, e⟩ := x
    simp only [look]
    split
    · exact h (s, e) (by simp)
    · exact ih fun e he => h e (by simp [he])

theorem canon_sound {P : Program} {ops : Array Oper} (l : List Oper) : ∀ {m : List (Nat × Nat)} {k : Nat} {c : Can} {σ ρ : Fm} {w : World} {K : Fm → World → Prop},
    canon l m k = some c → (∀ t, σ t = ρ (look m t)) → (∀ e ∈ m, e.2 % 2 = 1 → e.2 < 2 * k + 1) →
    RC P c.ops k ρ w (fun ρ' w' => K (fun t => ρ' (look c.binds t)) w') → RW P ops l σ w K := by
  induction l with
  | nil =>
    intro m k c σ ρ w K hc hm _ h
    simp only [canon, Option.some.injEq] at hc
    subst hc
    simp only [RC] at h
    simp only [RW]
    rw [show σ = fun t => ρ (look m t) from funext hm]
    exact h
  | cons o l ih =>
    intro m k c σ ρ w K hc hm hb h
    obtain ⟨dst, op, ty, pos, after, guard⟩ := o
    simp only [canon] at hc
    cases guard with
    | some g => simp at hc
    | none =>
      simp only [Option.isSome_none, Bool.false_eq_true, if_false] at hc
      simp only [RW, wantedB, if_true]
      split at hc
      · rename_i _ _ t d
        simp only [OpK, execOp, Sem.run_pure, After, ev_tmp]
        refine ih hc (fun s => ?_) (fun e he ho => ?_) h
        · simp only [look]
          by_cases hs : s = d
          · subst hs; simp [hm]
          · rw [upd_ne _ _ hs, if_neg (by simpa using Ne.symm hs), hm]
        · rcases List.mem_cons.1 he with rfl | he
          · exact look_bound hb t ho
          · exact hb e he ho
      · rename_i _ _ t d
        simp only [OpK, execOp, Sem.run_pure, After, ev_tmp]
        refine ih hc (fun s => ?_) (fun e he ho => ?_) h
        · simp only [look]
          by_cases hs : s = d
          · subst hs; simp [hm]
          · rw [upd_ne _ _ hs, if_neg (by simpa using Ne.symm hs), hm]
        · rcases List.mem_cons.1 he with rfl | he
          · exact look_bound hb t ho
          · exact hb e he ho
      · split at hc
        · rename_i op' c' hop' hc'
          simp only [Option.some.injEq] at hc
          subst hc
          simp only [RC] at h
          unfold OpK at h ⊢
          rw [execOp_map ρ (look m) hop' dst none ty pos "" after #[] none none] at h
          have hσ : (fun t => ρ (look m t)) = σ := (funext hm).symm
          rw [hσ] at h
          refine After.mono h fun v w' h' => ?_
          cases dst with
          | none =>
            simp only [upd_none]
            refine ih hc' (fun s => ?_) (fun e he ho => by have := hb e he ho; omega) h'
            rw [upd_ne, hm]
            have := look_bound hb s
            generalize look m s = x at this ⊢
            omega
          | some d =>
            refine ih hc' (fun s => ?_) (fun e he ho => ?_) h'
            · simp only [look]
              by_cases hs : s = d
              · subst hs; simp
              · rw [upd_ne _ _ hs, if_neg (by simpa using Ne.symm hs), upd_ne, hm]
                have := look_bound hb s
                generalize look m s = x at this ⊢
                omega
            · rcases List.mem_cons.1 he with rfl | he
              · simp only; omega
              · have := hb e he ho; omega
        · cases hc

/-- A region without an open order, in this form. -/
theorem CW.canon {P : Program} {n id : Nat} {ops : Array Oper} {σ : Fm} {w : World} {Q : Exit → Fm → World → Prop} {c : Can} (hc : Go.Kx.canon ops.toList [] 0 = some c)
    (h : RC P c.ops 0 (enF σ) w fun ρ w' => Q .normal (fun t => ρ (look c.binds t)) w') : CW P n (.region id ops false) σ w Q :=
  CW.region (canon_sound ops.toList hc (fun t => (enF_even σ t).symm) (fun e he => by cases he) h)

end Go.Kx
