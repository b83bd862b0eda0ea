/- A function that reads a message: what the functions that it calls do, what memory holds between its steps, and the steps that read a value. -/
import Derived.Test.YtlmelgjepdbakaaDoorRKxMem
namespace Go.Kx
open Go.RowKit
set_option linter.unusedSimpArgs false
set_option linter.unusedVariables false

def Rs.o (s : Rs) : Option (List UInt8) := if s.bad then none else some s.rest
/-- What a reading function yields. -/
def Got {α : Type} (o : Option (List UInt8)) (d : Dc α) (a : α) (s' : Rs) : Prop :=
  match o.bind d with
  | some x => a = x.1 ∧ s' = ⟨x.2, false⟩
  | none => s'.bad = true
def NewB (S : Nat → Prop) (w w' : World) : Nat → Prop := fun k => S k ∨ (w.heap.size ≤ k ∧ k < w'.heap.size)

def V.puts (v : V) : List (Nat × V) → V
  | [] => v
  | (k, x) :: l => V.puts (v.put k x) l

/-- The functions that a reading function calls. -/
inductive Rf where
  | val (fx : Bool) (w : Wt)
  | len (fx : Bool)
  | ok
  | comp
  | tags
  | dflt (T : Ty) (ps : List (Nat × V))

def RfOk (P : Program) (gE : Nat) (eV : Value) (f : FuncId) : Rf → Prop
  | .val fx wt => ∀ (w : World) (S : Nat → Prop) (r : Nat) (t : TypeId) (s : Rs), (∀ k, S k → k < w.heap.size) → RdIs w S r t s → Calls P f #[.pointer (some ⟨r, 0, none⟩)] w fun en w' =>
      ∃ u cs s', en = .returned (ldv wt.ty cs) ∧ RdIs w' S r t s' ∧ Ch (fun k => k = r) w w' ∧ Rep w' (NewB S w w') wt.ty u cs ∧ Got s.o (decW fx wt) u s'
  | .len fx => ∀ (w : World) (S : Nat → Prop) (r : Nat) (t : TypeId) (s : Rs), (∀ k, S k → k < w.heap.size) → RdIs w S r t s → Calls P f #[.pointer (some ⟨r, 0, none⟩)] w fun en w' =>
      ∃ (m : Int) (s' : Rs), en = .returned (.int .i32 m) ∧ RdIs w' S r t s' ∧ Ch (fun k => k = r) w w' ∧ (-2147483648 ≤ m ∧ m < 2147483648) ∧ Got s.o (decLen fx) m s'
  | .ok => ∀ (w : World) (S : Nat → Prop) (r : Nat) (t : TypeId) (s : Rs), RdIs w S r t s → Calls P f #[.pointer (some ⟨r, 0, none⟩)] w fun en w' => en = .returned (.bool (!s.bad)) ∧ w' = w
  | .comp => ∀ (w : World) (S : Nat → Prop) (r : Nat) (t : TypeId) (s : Rs), RdIs w S r t s → w.cell? ⟨gE, 0, none⟩ = some eV → Calls P f #[.pointer (some ⟨r, 0, none⟩)] w fun en w' => en = .returned (if s.bad then eV else .nilIface) ∧ w' = w
  | .tags => ∀ (w : World) (S : Nat → Prop) (r : Nat) (t : TypeId) (s : Rs), (∀ k, S k → k < w.heap.size) → RdIs w S r t s → Calls P f #[.pointer (some ⟨r, 0, none⟩)] w fun en w' =>
      ∃ u c s', en = .returned (.agg #[c]) ∧ RdIs w' S r t s' ∧ Ch (fun k => k = r) w w' ∧ Rep w' (NewB S w w') .tags (.tags u) [c] ∧ Got s.o decTags u s'
  | .dflt T ps => ∀ (w : World) (S : Nat → Prop) (g o : Nat) (t : TypeId) (cells : List Value) (v : V), Blk w g t cells → Rep w S T v ((cells.drop o).take T.size) → o + T.size ≤ cells.length → ¬ S g → Calls P f #[.pointer (some ⟨g, o, none⟩)] w fun en w' =>
      en = .returned (.tuple #[]) ∧ ∃ c', Blk w' g t (spl cells o c') ∧ Rep w' S T (v.puts ps) c' ∧ Ch (fun k => k = g) w w'

def rfAt (tab : List (Nat × Rf)) (f : FuncId) : Option Rf := (tab.find? fun x => x.1 == f).map (·.2)

/-- What a reading function is read in: its program, the functions that it calls, the error; the slots of its result, its version, whether it is flexible, whether it is unsafe. -/
structure Cx where
  P : Program
  n : Nat
  tab : List (Nat × Rf)
  gE : Nat
  eV : Value
  res : Nat
  x : Sl
  u : Nat
structure Cx.Sound (X : Cx) : Prop where
  ok : ∀ f a, rfAt X.tab f = some a → Callable X.P f ∧ RfOk X.P X.gE X.eV f a

def Cx.kn (X : Cx) (fx : Bool) : List (Nat × Bool) := (X.u, false) :: match X.x.flx with | some t => [(t, fx)] | none => []
def Kn (kn : List (Nat × Bool)) (σ : Fm) : Prop := ∀ s b, (s, b) ∈ kn → σ s = .bool b

/-- Blocks that are there and are not being written. -/
def Ob (W : Nat → Prop) (w : World) : Nat → Prop := fun k => k < w.heap.size ∧ ¬ W k
def rg (r g : Nat) : Nat → Prop := fun k => k = r ∨ k = g

structure Mem (X : Cx) (S W : Nat → Prop) (r : Nat) (tR : TypeId) (T : Ty) (g o : Nat) (tG : TypeId) (w : World) (v : V) (s : Rs) (cells : List Value) : Prop where
  rd : RdIs w S r tR s
  blk : Blk w g tG cells
  rep : Rep w (Ob W w) T v ((cells.drop o).take T.size)
  len : o + T.size ≤ cells.length
  err : w.cell? ⟨X.gE, 0, none⟩ = some X.eV
  bound : ∀ k, W k → k < w.heap.size
  src : ∀ k, S k → k < w.heap.size ∧ ¬ W k
  wr : W r
  wg : W g
  ne : r ≠ g
  eW : X.gE < w.heap.size ∧ X.gE ≠ r ∧ X.gE ≠ g

theorem RdIs.keepG {w w' : World} {S : Nat → Prop} {g : Nat} {t : TypeId} {s : Rs} (h : RdIs w S g t s) (hg : w'.heap[g]? = w.heap[g]?) (hS : ∀ k, S k → w'.heap[k]? = w.heap[k]?) : RdIs w' S g t s := by
  obtain ⟨v, hb, hs, hn⟩ := h
  exact ⟨v, hb.keep hg, hs.keep hS, hn⟩
theorem RdIs.lt {w : World} {S : Nat → Prop} {g : Nat} {t : TypeId} {s : Rs} (h : RdIs w S g t s) : g < w.heap.size := by
  obtain ⟨v, hb, _⟩ := h
  exact hb.lt
theorem Ob.up {W : Nat → Prop} {w w' : World} (h : w.heap.size ≤ w'.heap.size) : ∀ k, Ob W w k → Ob W w' k := fun k hk => ⟨Nat.lt_of_lt_of_le hk.1 h, hk.2⟩

section
variable {X : Cx} {S W : Nat → Prop} {r : Nat} {tR : TypeId} {T : Ty} {g o : Nat} {tG : TypeId} {w w' : World} {v : V} {s s' : Rs} {cells : List Value}

/-- The reader has gone on, nothing else has turned. -/
theorem Mem.call (h : Mem X S W r tR T g o tG w v s cells) (hr : RdIs w' S r tR s') (hc : Ch (fun k => k = r) w w') : Mem X S W r tR T g o tG w' v s' cells :=
  ⟨hr, h.blk.keep (hc.block g h.blk.lt fun e => h.ne e.symm), h.rep.keepMono (fun k hk => hc.block k hk.1 fun e => hk.2 (e ▸ h.wr)) (Ob.up hc.size), h.len,
    (ch_cell hc (a := ⟨X.gE, 0, none⟩) h.eW.1 (fun e => h.eW.2.1 e) rfl).trans h.err, fun k hk => Nat.lt_of_lt_of_le (h.bound k hk) hc.size, fun k hk => ⟨Nat.lt_of_lt_of_le (h.src k hk).1 hc.size, (h.src k hk).2⟩,
    h.wr, h.wg, h.ne, Nat.lt_of_lt_of_le h.eW.1 hc.size, h.eW.2⟩
/-- What is new may be led to. -/
theorem Mem.newB (h : Mem X S W r tR T g o tG w v s cells) (hc : w.heap.size ≤ w'.heap.size) : ∀ k, NewB S w w' k → Ob W w' k := by
  intro k hk
  rcases hk with hk | ⟨h1, h2⟩
  · exact ⟨Nat.lt_of_lt_of_le (h.src k hk).1 hc, (h.src k hk).2⟩
  · exact ⟨h2, fun hw => by have := h.bound k hw; omega⟩
/-- Cells of the part are written. -/
theorem Mem.write (h : Mem X S W r tR T g o tG w v s cells) {c : List Value} {p : Nat} {v' : V} (hp : p + c.length ≤ T.size) (hv : Rep w (Ob W w) T v' (spl ((cells.drop o).take T.size) p c)) :
    Mem X S W r tR T g o tG (w.setCells g (o + p) c) v' s (spl cells (o + p) c) := by
  have hl := h.len
  have hc := setCells_ch g c (o + p) w
  have hsz : (w.setCells g (o + p) c).heap.size = w.heap.size := by
    have : ∀ (vs : List Value) (o : Nat) (w : World), (w.setCells g o vs).heap.size = w.heap.size := by
      intro vs
      induction vs with
      | nil => intro o w; rfl
      | cons x vs ih => intro o w; rw [World.setCells, ih]; simp [World.setCell]
    exact this _ _ _
  have hk : ∀ k, k ≠ g → (w.setCells g (o + p) c).heap[k]? = w.heap[k]? := fun k hk => setCells_heap g c _ _ _ hk
  refine ⟨h.rd.keepG (hk r h.ne) fun k hS => hk k fun e => (h.src k hS).2 (e ▸ h.wg), h.blk.setCells c (o + p) (by omega), ?_, by rw [spl_len (by omega)]; exact hl, ?_, fun k hw => by rw [hsz]; exact h.bound k hw,
    fun k hS => by rw [hsz]; exact h.src k hS, h.wr, h.wg, h.ne, by rw [hsz]; exact h.eW.1, h.eW.2⟩
  · rw [spl_sub hp hl]
    exact hv.keepMono (fun k hO => hk k fun e => hO.2 (e ▸ h.wg)) (Ob.up hc.size)
  · exact (World.cell?_of_block (hk X.gE h.eW.2.2)).trans h.err
theorem Mem.put (h : Mem X S W r tR T g o tG w v s cells) {k off : Nat} {ty : Ty} {u : V} {c : List Value} (hf : T.fld k = some (ty, off)) (hu : Rep w (Ob W w) ty u c) :
    Mem X S W r tR T g o tG (w.setCells g (o + off) c) (v.put k u) s (spl cells (o + off) c) ∧ Outside cells (spl cells (o + off) c) o T.size := by
  obtain ⟨_, _, _, _, hb⟩ := h.rep.fld hf
  have hsz := h.rep.size
  have hcl := hu.size
  exact ⟨h.write (by omega) (h.rep.put hf hu), Outside.spl (by omega) h.len⟩
end

/-- What has been read so far: the part, what is left. -/
def St (oo : Option (V × List UInt8)) (v : V) (s : Rs) : Prop :=
  match oo with
  | some x => v = x.1 ∧ s = ⟨x.2, false⟩
  | none => s.bad = true
theorem St.good {v : V} {s : Rs} {x : V × List UInt8} (h : St (some x) v s) : v = x.1 ∧ s.o = some x.2 := by
  obtain ⟨h1, h2⟩ := h
  exact ⟨h1, by rw [h2]; rfl⟩
theorem St.none_ {v : V} {s : Rs} (h : St none v s) : s.o = none := by unfold St at h; unfold Rs.o; rw [h]; rfl

/-- A function of a part that is read: what it reads, what becomes of the part. -/
def RStep (X : Cx) (S W : Nat → Prop) (r : Nat) (tR : TypeId) (T : Ty) (g o : Nat) (tG : TypeId) (L : List Nat) (Pre : Fm → Prop) (A : V → Prop) (f : V → Dc V) (cs rest : List Code) : Prop :=
  ∀ (σ : Fm) (w : World) (oo : Option (V × List UInt8)) (v : V) (s : Rs) (cells : List Value) (Q : Exit → Fm → World → Prop),
    Pre σ → (∀ x, oo = some x → A x.1) → St oo v s → Mem X S W r tR T g o tG w v s cells →
    (oo.bind (fun x => f x.1 x.2) = none → ∀ σ' w', Ch (rg r g) w w' → σ' X.res = X.eV → Q .ret σ' w') →
    (∀ σ' w' v' s' cells', St (oo.bind fun x => f x.1 x.2) v' s' → Mem X S W r tR T g o tG w' v' s' cells' → Ch (rg r g) w w' → Outside cells cells' o T.size → (∀ t ∈ L, σ' t = σ t) → CWL X.P X.n rest σ' w' Q) →
    CWL X.P X.n cs σ w Q

section
variable {X : Cx} {S W : Nat → Prop} {r : Nat} {tR : TypeId} {T : Ty} {g o : Nat} {tG : TypeId} {L : List Nat} {Pre Pre' : Fm → Prop} {A A' : V → Prop} {f f' : V → Dc V} {a b c : List Code}

theorem RStep.refl (h : ∀ v l, f v l = some (v, l)) : RStep X S W r tR T g o tG L Pre A f a a := by
  intro σ w oo v s cells Q hP hA hS hM hr hk
  refine hk σ w v s cells ?_ hM (Ch.refl _ _) (Outside.refl _ _ _) fun _ _ => rfl
  cases oo with
  | none => exact hS
  | some x => simp only [Option.bind_some]; rw [h]; exact hS
theorem RStep.trans (h : RStep X S W r tR T g o tG L Pre A f a b) (k : RStep X S W r tR T g o tG L Pre' A' f' b c) (hA : ∀ v l y, A v → f v l = some y → A' y.1) (hp : ∀ σ σ', Pre σ → (∀ t ∈ L, σ' t = σ t) → Pre' σ') :
    RStep X S W r tR T g o tG L Pre A (fun v l => (f v l).bind fun y => f' y.1 y.2) a c := by
  intro σ w oo v s cells Q hP hA0 hS hM hr hk
  have e : (oo.bind fun x => (f x.1 x.2).bind fun y => f' y.1 y.2) = (oo.bind fun x => f x.1 x.2).bind fun y => f' y.1 y.2 := (Option.bind_assoc _ _ _).symm
  rw [e] at hr hk
  refine h σ w oo v s cells Q hP hA0 hS hM (fun hn => hr (by rw [hn]; rfl)) fun σ1 w1 v1 s1 c1 hS1 hM1 hc1 ho1 hk1 => ?_
  refine k σ1 w1 _ v1 s1 c1 Q (hp _ _ hP hk1) (fun x hx => ?_) hS1 hM1 (fun hn σ' w' hc hres => hr hn σ' w' (hc1.trans' hc) hres) fun σ2 w2 v2 s2 c2 hS2 hM2 hc2 ho2 hk2 => ?_
  · obtain ⟨y, hy, hx⟩ := Option.bind_eq_some_iff.1 hx
    exact hA _ _ _ (hA0 y hy) hx
  · exact hk σ2 w2 v2 s2 c2 hS2 hM2 (hc1.trans' hc2) (ho1.trans ho2) fun t ht => (hk2 t ht).trans (hk1 t ht)
theorem RStep.congr (h : RStep X S W r tR T g o tG L Pre A f a b) (he : ∀ v l, f v l = f' v l) : RStep X S W r tR T g o tG L Pre A f' a b := by
  have : f = f' := funext fun v => funext fun l => he v l
  exact this ▸ h
theorem RStep.wk (h : RStep X S W r tR T g o tG L Pre A f a b) (hA : ∀ v, A' v → A v) : RStep X S W r tR T g o tG L Pre A' f a b :=
  fun σ w oo v s cells Q hP hA0 hS hM hr hk => h σ w oo v s cells Q hP (fun x hx => hA _ (hA0 x hx)) hS hM hr hk
end

/-! ### Pieces -/
/-- A bracket on a slot that is known. -/
def condK (kn : List (Nat × Bool)) (L : List Nat) (cs : List Code) : Option (List Code × List Code) :=
  match cs with
  | c1 :: .cond (.tmp tc') A B :: rest =>
    match canR c1 with
    | some ⟨[], (tc, s) :: b⟩ =>
      match kn.find? fun x => s == 2 * x.1 with
      | some x => if tc == tc' && free L ((tc, s) :: b) then some (flat (if x.2 then A else B), rest) else none
      | none => none
    | _ => none
  | _ => none

section
variable {P : Program} {n : Nat} {L : List Nat} {cs rest X : List Code} {σ : Fm} {w : World} {Q : Exit → Fm → World → Prop}

theorem condK_sound {kn : List (Nat × Bool)} (h : condK kn L cs = some (X, rest)) (hkn : Kn kn σ) (hk : ∀ σ', (∀ t ∈ L, σ' t = σ t) → CWL P n X σ' w (Then (fun σ' w' => CWL P n rest σ' w' Q) Q)) : CWL P n cs σ w Q := by
  unfold condK at h
  split at h
  · rename_i c1 tc' A B rest'
    split at h
    · rename_i tc s b hcan
      split at h
      · rename_i x hfind
        split at h
        · rename_i hh
          simp only [Option.some.injEq, Prod.mk.injEq] at h
          obtain ⟨rfl, rfl⟩ := h
          simp only [Bool.and_eq_true, beq_iff_eq] at hh
          obtain ⟨rfl, hfree⟩ := hh
          have hm := List.mem_of_find?_eq_some hfind
          have hs := List.find?_some hfind
          simp only [beq_iff_eq] at hs
          subst hs
          refine CWL.reg hcan ?_
          simp only [RC]
          refine CWL.cons (CW.cond (t := x.2) ?_ (CW.of_flat (hk _ fun t ht => ?_)))
          · simp only [ev_tmp, outF_head, enF_two]; exact hkn x.1 x.2 hm
          · rw [outF_free hfree ht, enF_two]
        · cases h
      · cases h
    · cases h
  · cases h

/-- A call on the reader: its function, the slot of its answer. -/
def rcall (L : List Nat) (q : Nat) (c : Code) : Option (FuncId × Nat) :=
  match canR c with
  | some ⟨[(op, _)], (d, 1) :: b⟩ => match asCall op with
    | some (f, [.tmp q2]) => if q2 == 2 * q && free L ((d, 1) :: b) then some (f, d) else none
    | _ => none
  | _ => none

theorem rcall_sound {q d : Nat} {c : Code} {f : FuncId} (h : rcall L q c = some (f, d)) (hf : Callable P f)
    (hc : Calls P f #[σ q] w fun en w' => ∃ x, en = .returned x ∧ ∀ σ', σ' d = x → (∀ t ∈ L, σ' t = σ t) → CWL P n rest σ' w' Q) : CWL P n (c :: rest) σ w Q := by
  unfold rcall at h
  split at h
  · rename_i op ty d' b hcan
    split at h
    · rename_i f' q2 hop
      split at h
      · rename_i hh
        simp only [Option.some.injEq, Prod.mk.injEq] at h
        obtain ⟨rfl, rfl⟩ := h
        simp only [Bool.and_eq_true, beq_iff_eq] at hh
        obtain ⟨rfl, hfree⟩ := hh
        refine CWL.reg hcan (OpK.asCall hop hf rfl ?_)
        simp only [List.map_cons, List.map_nil, ev_tmp, enF_two]
        refine hc.mono fun en w' ⟨x, he, hx⟩ => ⟨x, he, hx _ ?_ fun t ht => ?_⟩
        · rw [outF_head]; simp
        · rw [outF_free hfree ht, upd_odd _ _ _ _ (by omega), enF_two]
      · cases h
    · cases h
  · cases h

/-- Through brackets that are known, and what is idle, to the next call on the reader. -/
def reach (kn : List (Nat × Bool)) (L : List Nat) (q : Nat) : Nat → List Code → Option (FuncId × Nat × List Code)
  | 0, _ => none
  | _ + 1, [] => none
  | k + 1, c :: cs => match rcall L q c with
    | some (f, d) => some (f, d, cs)
    | none => match condK kn L (c :: cs) with
      | some (X, rest) => match reach kn L q k X with
        | some (f, d, []) => some (f, d, rest)
        | _ => none
      | none => if isIdle L c then reach kn L q k cs else none

theorem reach_sound {kn : List (Nat × Bool)} {q : Nat} {R : Value → World → Prop} (hL : ∀ x ∈ kn, x.1 ∈ L) (hq : q ∈ L) {f : FuncId} {d : Nat} (hf : Callable P f) (k : Nat) : ∀ {cs rest : List Code} {σ : Fm} {Q : Exit → Fm → World → Prop}, reach kn L q k cs = some (f, d, rest) → Kn kn σ →
    Calls P f #[σ q] w (fun en w' => ∃ x, en = .returned x ∧ R x w') → (∀ σ' w' x, R x w' → σ' d = x → (∀ t ∈ L, σ' t = σ t) → CWL P n rest σ' w' Q) → CWL P n cs σ w Q := by
  induction k with
  | zero => intro cs rest σ Q h; cases h
  | succ k ih =>
    intro cs rest σ Q h hkn hc hk
    cases cs with
    | nil => cases h
    | cons c cs =>
      unfold reach at h
      have knK : ∀ σ', (∀ t ∈ L, σ' t = σ t) → Kn kn σ' := fun σ' he s b hm => (he s (hL _ hm)).trans (hkn s b hm)
      split at h
      · rename_i f' d' hr
        simp only [Option.some.injEq, Prod.mk.injEq] at h
        obtain ⟨rfl, rfl, rfl⟩ := h
        exact rcall_sound hr hf (hc.mono fun en w' ⟨x, he, hR⟩ => ⟨x, he, fun σ' hd hkeep => hk σ' w' x hR hd hkeep⟩)
      · split at h
        · rename_i X rest' hck
          split at h
          · rename_i f' d' hre
            simp only [Option.some.injEq, Prod.mk.injEq] at h
            obtain ⟨rfl, rfl, rfl⟩ := h
            refine condK_sound hck hkn fun σ1 he1 => ?_
            refine ih hre (knK σ1 he1) (by rw [he1 q hq]; exact hc) fun σ' w' x hR hd hkeep => ?_
            exact hk σ' w' x hR hd fun t ht => (hkeep t ht).trans (he1 t ht)
          · cases h
        · split at h
          · rename_i hi
            refine CWL.idle hi fun σ1 he1 => ?_
            refine ih h (knK σ1 he1) (by rw [he1 q hq]; exact hc) fun σ' w' x hR hd hkeep => ?_
            exact hk σ' w' x hR hd fun t ht => (hkeep t ht).trans (he1 t ht)
          · cases h

theorem movOf_sound {v v' : Nat} {c : Code} (h : movOf L v c = some v') (hk : ∀ σ', (∀ t ∈ L, σ' t = σ t) → σ' v' = σ v → CWL P n rest σ' w Q) : CWL P n (c :: rest) σ w Q := by
  unfold movOf at h
  split at h
  · rename_i v'' v2 b hcan
    split at h
    · rename_i hh
      simp only [Option.some.injEq] at h
      subst h
      simp only [Bool.and_eq_true, beq_iff_eq] at hh
      obtain ⟨rfl, hfree⟩ := hh
      refine CWL.reg hcan ?_
      simp only [RC]
      exact hk _ (fun t ht => by rw [outF_free hfree ht, enF_two]) (by rw [outF_head, enF_two])
    · cases h
  · cases h
/-- The value goes from slot to slot. -/
def movs (L : List Nat) : Nat → Nat → List Code → Nat × List Code
  | 0, v, cs => (v, cs)
  | k + 1, v, c :: cs => match movOf L v c with
    | some v' => movs L k v' cs
    | none => (v, c :: cs)
  | _ + 1, v, [] => (v, [])
theorem movs_sound (k : Nat) : ∀ {v v' : Nat} {cs rest : List Code} {σ : Fm}, movs L k v cs = (v', rest) → (∀ σ', (∀ t ∈ L, σ' t = σ t) → σ' v' = σ v → CWL P n rest σ' w Q) → CWL P n cs σ w Q := by
  induction k with
  | zero => intro v v' cs rest σ h hk; simp only [movs, Prod.mk.injEq] at h; obtain ⟨rfl, rfl⟩ := h; exact hk σ (fun _ _ => rfl) rfl
  | succ k ih =>
    intro v v' cs rest σ h hk
    cases cs with
    | nil => simp only [movs, Prod.mk.injEq] at h; obtain ⟨rfl, rfl⟩ := h; exact hk σ (fun _ _ => rfl) rfl
    | cons c cs =>
      unfold movs at h
      split at h
      · rename_i v1 hm
        exact movOf_sound hm fun σ1 he1 hv1 => ih h fun σ' he' hv' => hk σ' (fun t ht => (he' t ht).trans (he1 t ht)) (hv'.trans hv1)
      · simp only [Prod.mk.injEq] at h; obtain ⟨rfl, rfl⟩ := h; exact hk σ (fun _ _ => rfl) rfl
end

/-! ### A field is stored -/
def storeOf (P : Program) (L : List Nat) (p : Nat) (T : Ty) (k : Nat) (ty : Ty) (c : Code) : Option Nat :=
  match canR c with
  | some ⟨[(.nilCheck (.tmp p2), _), (.fieldAddr tid (.tmp 1) k', _), (.store st (.tmp 3) (.tmp v2), _)], b⟩ =>
    match T.fld k with
    | some (ty', off) => if p2 == 2 * p && fieldOff P tid k' == some off && decide (ty' = ty) && v2 % 2 == 0 && (P.info? st).map (·.size) == some ty.size && free L b then some (v2 / 2) else none
    | none => none
  | _ => none

/-- A value in a slot, as its cells. -/
def Sv (c : List Value) (v : Value) : Prop := v = .agg c.toArray ∨ c = [v]
theorem ldv_sv {w : World} {S : Nat → Prop} {ty : Ty} {v : V} {c : List Value} (h : Rep w S ty v c) (hn : ty ≠ .nil) (hc : ∀ h t, ty ≠ .cons h t) : Sv c (ldv ty c) := by
  have hs := h.size
  cases ty <;> first
    | exact absurd rfl hn
    | exact absurd rfl (hc _ _)
    | exact .inl rfl
    | (simp only [Ty.size] at hs; obtain ⟨x, rfl⟩ := List.length_eq_one_iff.1 hs; exact .inr rfl)

section
variable {X : Cx} {S W : Nat → Prop} {r : Nat} {tR : TypeId} {T : Ty} {g o : Nat} {tG : TypeId} {L : List Nat}

theorem storeOf_sound {p k vs : Nat} {ty : Ty} {c : Code} (h : storeOf X.P L p T k ty c = some vs) {rest : List Code} {σ : Fm} {w : World} {Q : Exit → Fm → World → Prop} {v : V} {s : Rs} {cells : List Value}
    (hp : σ p = .pointer (some ⟨g, o, none⟩)) (hM : Mem X S W r tR T g o tG w v s cells) {u : V} {cu : List Value} (hu : Rep w (Ob W w) ty u cu) (hv : Sv cu (σ vs))
    (hk : ∀ σ' w' cells', Mem X S W r tR T g o tG w' (v.put k u) s cells' → Ch (fun k => k = g) w w' → Outside cells cells' o T.size → (∀ t ∈ L, σ' t = σ t) → CWL X.P X.n rest σ' w' Q) : CWL X.P X.n (c :: rest) σ w Q := by
  unfold storeOf at h
  split at h
  · rename_i p2 ty1 tid k' ty2 st v2 ty3 b hc
    split at h
    · rename_i ty' off hf
      split at h
      · rename_i hh
        simp only [Option.some.injEq] at h
        subst h
        simp only [Bool.and_eq_true, beq_iff_eq, decide_eq_true_eq] at hh
        obtain ⟨⟨⟨⟨⟨rfl, hoff⟩, rfl⟩, h2⟩, hst⟩, hfree⟩ := hh
        obtain ⟨vs, rfl⟩ : ∃ vs, v2 = 2 * vs := ⟨v2 / 2, by have := Nat.div_add_mod v2 2; rw [h2] at this; exact this.symm⟩
        have hvs : 2 * vs / 2 = vs := Nat.mul_div_cancel_left vs (by decide)
        rw [hvs] at hv
        obtain ⟨hM', hO⟩ := hM.put hf hu
        obtain ⟨_, _, _, _, hb⟩ := hM.rep.fld hf
        have hsz := hM.rep.size
        have hlen := hM.len
        have hcu := hu.size
        refine CWL.reg hc ?_
        refine OpK.nilCheck (a := ⟨g, o, none⟩) (by simp only [ev_tmp, enF_two]; exact hp) ?_
        refine OpK.fieldAddr hoff (a := ⟨g, o, none⟩) (by simp [upd]) ?_
        refine OpK.storeV (c := cu) (v := σ vs) (g := g) (o := o + off) (tG := tG) (cells := cells) (by rw [hst, hcu]) (by simp [upd, add_at]) ?_ hv (rep_one hu) hM.blk (by omega) ?_
        · simp only [ev_tmp, Nat.mul_zero, Nat.zero_add, Nat.mul_one, Nat.reduceAdd, Nat.reduceMul]
          rw [upd_odd _ _ _ _ (by omega), upd_odd _ _ _ _ (by omega), enF_two]
        · simp only [RC]
          refine hk _ _ _ hM' (setCells_ch _ _ _ _) hO fun t ht => ?_
          rw [outF_free hfree ht, upd_odd _ _ _ _ (by omega), upd_odd _ _ _ _ (by omega), upd_odd _ _ _ _ (by omega), enF_two]
      · cases h
    · cases h
  · cases h
end
end Go.Kx
