/- Library texts Rx Rx2 Rx3, joined. -/
import Derived.Test.YthcpchmmpnakaaaGreatDoorKxMem
/- A function that reads a message: what the functions that it calls do, what memory holds between its steps, and the steps that read a value. -/
namespace Go.Kx
open Go.RowKit
set_option linter.unusedSimpArgs false
set_option linter.unusedVariables false

def Rs.o (s : Rs) : Option (List UInt8) := if s.bad then none else some s.rest
/-- What a reading function yields. -/
def Got {α : Type} (o : Option (List UInt8)) (d : Dc α) (a : α) (s' : Rs) : Prop :=
  match o.bind d with
  | some x => a = x.1 ∧ s' = ⟨x.2, false⟩
  | none => s'.bad = true
def NewB (S : Nat → Prop) (w w' : World) : Nat → Prop := fun k => S k ∨ (w.heap.size ≤ k ∧ k < w'.heap.size)

def V.puts (v : V) : List (Nat × V) → V
  | [] => v
  | (k, x) :: l => V.puts (v.put k x) l

/-- The functions that a reading function calls. -/
inductive Rf where
  | val (fx : Bool) (w : Wt)
  | len (fx : Bool)
  | ok
  | comp
  | tags
  | dflt (T : Ty) (ps : List (Nat × V))

def RfOk (P : Program) (gE : Nat) (eV : Value) (f : FuncId) : Rf → Prop
  | .val fx wt => ∀ (w : World) (S : Nat → Prop) (r : Nat) (t : TypeId) (s : Rs), (∀ k, S k → k < w.heap.size) → RdIs w S r t s → Calls P f #[.pointer (some ⟨r, 0, none⟩)] w fun en w' =>
      ∃ u cs s', en = .returned (ldv wt.ty cs) ∧ RdIs w' S r t s' ∧ Ch (fun k => k = r) w w' ∧ Rep w' (NewB S w w') wt.ty u cs ∧ Got s.o (decW fx wt) u s'
  | .len fx => ∀ (w : World) (S : Nat → Prop) (r : Nat) (t : TypeId) (s : Rs), (∀ k, S k → k < w.heap.size) → RdIs w S r t s → Calls P f #[.pointer (some ⟨r, 0, none⟩)] w fun en w' =>
      ∃ (m : Int) (s' : Rs), en = .returned (.int .i32 m) ∧ RdIs w' S r t s' ∧ Ch (fun k => k = r) w w' ∧ (-2147483648 ≤ m ∧ m < 2147483648) ∧ Got s.o (decLen fx) m s'
  | .ok => ∀ (w : World) (S : Nat → Prop) (r : Nat) (t : TypeId) (s : Rs), RdIs w S r t s → Calls P f #[.pointer (some ⟨r, 0, none⟩)] w fun en w' => en = .returned (.bool (!s.bad)) ∧ w' = w
  | .comp => ∀ (w : World) (S : Nat → Prop) (r : Nat) (t : TypeId) (s : Rs), RdIs w S r t s → w.cell? ⟨gE, 0, none⟩ = some eV → Calls P f #[.pointer (some ⟨r, 0, none⟩)] w fun en w' => en = .returned (if s.bad then eV else .nilIface) ∧ w' = w
  | .tags => ∀ (w : World) (S : Nat → Prop) (r : Nat) (t : TypeId) (s : Rs), (∀ k, S k → k < w.heap.size) → RdIs w S r t s → Calls P f #[.pointer (some ⟨r, 0, none⟩)] w fun en w' =>
      ∃ u c s', en = .returned (.agg #[c]) ∧ RdIs w' S r t s' ∧ Ch (fun k => k = r) w w' ∧ Rep w' (NewB S w w') .tags (.tags u) [c] ∧ Got s.o decTags u s'
  | .dflt T ps => ∀ (w : World) (S : Nat → Prop) (g o : Nat) (t : TypeId) (cells : List Value) (v : V), Blk w g t cells → Rep w S T v ((cells.drop o).take T.size) → o + T.size ≤ cells.length → ¬ S g → Calls P f #[.pointer (some ⟨g, o, none⟩)] w fun en w' =>
      en = .returned (.tuple #[]) ∧ ∃ c', Blk w' g t (spl cells o c') ∧ Rep w' S T (v.puts ps) c' ∧ Ch (fun k => k = g) w w'

def rfAt (tab : List (Nat × Rf)) (f : FuncId) : Option Rf := (tab.find? fun x => x.1 == f).map (·.2)

/-- What a reading function is read in: its program, the functions that it calls, the error; the slots of its result, its version, whether it is flexible, whether it is unsafe. -/
structure Cx where
  P : Program
  n : Nat
  tab : List (Nat × Rf)
  gE : Nat
  eV : Value
  res : Nat
  x : Sl
  u : Nat
structure Cx.Sound (X : Cx) : Prop where
  ok : ∀ f a, rfAt X.tab f = some a → Callable X.P f ∧ RfOk X.P X.gE X.eV f a

def Cx.kn (X : Cx) (fx : Bool) : List (Nat × Bool) := (X.u, false) :: match X.x.flx with | some t => [(t, fx)] | none => []
def Kn (kn : List (Nat × Bool)) (σ : Fm) : Prop := ∀ s b, (s, b) ∈ kn → σ s = .bool b

/-- Blocks that are there and are not being written. -/
def Ob (W : Nat → Prop) (w : World) : Nat → Prop := fun k => k < w.heap.size ∧ ¬ W k
def rg (r g : Nat) : Nat → Prop := fun k => k = r ∨ k = g

structure Mem (X : Cx) (S W : Nat → Prop) (r : Nat) (tR : TypeId) (T : Ty) (g o : Nat) (tG : TypeId) (w : World) (v : V) (s : Rs) (cells : List Value) : Prop where
  rd : RdIs w S r tR s
  blk : Blk w g tG cells
  rep : Rep w (Ob W w) T v ((cells.drop o).take T.size)
  len : o + T.size ≤ cells.length
  err : w.cell? ⟨X.gE, 0, none⟩ = some X.eV
  bound : ∀ k, W k → k < w.heap.size
  src : ∀ k, S k → k < w.heap.size ∧ ¬ W k
  wr : W r
  wg : W g
  ne : r ≠ g
  eW : X.gE < w.heap.size ∧ X.gE ≠ r ∧ X.gE ≠ g

theorem RdIs.keepG {w w' : World} {S : Nat → Prop} {g : Nat} {t : TypeId} {s : Rs} (h : RdIs w S g t s) (hg : w'.heap[g]? = w.heap[g]?) (hS : ∀ k, S k → w'.heap[k]? = w.heap[k]?) : RdIs w' S g t s := by
  obtain ⟨v, hb, hs, hn⟩ := h
  exact ⟨v, hb.keep hg, hs.keep hS, hn⟩
theorem RdIs.lt {w : World} {S : Nat → Prop} {g : Nat} {t : TypeId} {s : Rs} (h : RdIs w S g t s) : g < w.heap.size := by
  obtain ⟨v, hb, _⟩ := h
  exact hb.lt
theorem Ob.up {W : Nat → Prop} {w w' : World} (h : w.heap.size ≤ w'.heap.size) : ∀ k, Ob W w k → Ob W w' k := fun k hk => ⟨Nat.lt_of_lt_of_le hk.1 h, hk.2⟩

section
variable {X : Cx} {S W : Nat → Prop} {r : Nat} {tR : TypeId} {T : Ty} {g o : Nat} {tG : TypeId} {w w' : World} {v : V} {s s' : Rs} {cells : List Value}

/-- The reader has gone on, nothing else has turned. -/
theorem Mem.call (h : Mem X S W r tR T g o tG w v s cells) (hr : RdIs w' S r tR s') (hc : Ch (fun k => k = r) w w') : Mem X S W r tR T g o tG w' v s' cells :=
  ⟨hr, h.blk.keep (hc.block g h.blk.lt fun e => h.ne e.symm), h.rep.keepMono (fun k hk => hc.block k hk.1 fun e => hk.2 (e ▸ h.wr)) (Ob.up hc.size), h.len,
    (ch_cell hc (a := ⟨X.gE, 0, none⟩) h.eW.1 (fun e => h.eW.2.1 e) rfl).trans h.err, fun k hk => Nat.lt_of_lt_of_le (h.bound k hk) hc.size, fun k hk => ⟨Nat.lt_of_lt_of_le (h.src k hk).1 hc.size, (h.src k hk).2⟩,
    h.wr, h.wg, h.ne, Nat.lt_of_lt_of_le h.eW.1 hc.size, h.eW.2⟩
/-- What is new may be led to. -/
theorem Mem.newB (h : Mem X S W r tR T g o tG w v s cells) (hc : w.heap.size ≤ w'.heap.size) : ∀ k, NewB S w w' k → Ob W w' k := by
  intro k hk
  rcases hk with hk | ⟨h1, h2⟩
  · exact ⟨Nat.lt_of_lt_of_le (h.src k hk).1 hc, (h.src k hk).2⟩
  · exact ⟨h2, fun hw => by have := h.bound k hw; omega⟩
/-- Cells of the part are written. -/
theorem Mem.write (h : Mem X S W r tR T g o tG w v s cells) {c : List Value} {p : Nat} {v' : V} (hp : p + c.length ≤ T.size) (hv : Rep w (Ob W w) T v' (spl ((cells.drop o).take T.size) p c)) :
    Mem X S W r tR T g o tG (w.setCells g (o + p) c) v' s (spl cells (o + p) c) := by
  have hl := h.len
  have hc := setCells_ch g c (o + p) w
  have hsz : (w.setCells g (o + p) c).heap.size = w.heap.size := by
    have : ∀ (vs : List Value) (o : Nat) (w : World), (w.setCells g o vs).heap.size = w.heap.size := by
      intro vs
      induction vs with
      | nil => intro o w; rfl
      | cons x vs ih => intro o w; rw [World.setCells, ih]; simp [World.setCell]
    exact this _ _ _
  have hk : ∀ k, k ≠ g → (w.setCells g (o + p) c).heap[k]? = w.heap[k]? := fun k hk => setCells_heap g c _ _ _ hk
  refine ⟨h.rd.keepG (hk r h.ne) fun k hS => hk k fun e => (h.src k hS).2 (e ▸ h.wg), h.blk.setCells c (o + p) (by omega), ?_, by rw [spl_len (by omega)]; exact hl, ?_, fun k hw => by rw [hsz]; exact h.bound k hw,
    fun k hS => by rw [hsz]; exact h.src k hS, h.wr, h.wg, h.ne, by rw [hsz]; exact h.eW.1, h.eW.2⟩
  · rw [spl_sub hp hl]
    exact hv.keepMono (fun k hO => hk k fun e => hO.2 (e ▸ h.wg)) (Ob.up hc.size)
  · exact (World.cell?_of_block (hk X.gE h.eW.2.2)).trans h.err
theorem Mem.put (h : Mem X S W r tR T g o tG w v s cells) {k off : Nat} {ty : Ty} {u : V} {c : List Value} (hf : T.fld k = some (ty, off)) (hu : Rep w (Ob W w) ty u c) :
    Mem X S W r tR T g o tG (w.setCells g (o + off) c) (v.put k u) s (spl cells (o + off) c) ∧ Outside cells (spl cells (o + off) c) o T.size := by
  obtain ⟨_, _, _, _, hb⟩ := h.rep.fld hf
  have hsz := h.rep.size
  have hcl := hu.size
  exact ⟨h.write (by omega) (h.rep.put hf hu), Outside.spl (by omega) h.len⟩
end

/-- What has been read so far: the part, what is left. -/
def St (oo : Option (V × List UInt8)) (v : V) (s : Rs) : Prop :=
  match oo with
  | some x => v = x.1 ∧ s = ⟨x.2, false⟩
  | none => s.bad = true
theorem St.good {v : V} {s : Rs} {x : V × List UInt8} (h : St (some x) v s) : v = x.1 ∧ s.o = some x.2 := by
  obtain ⟨h1, h2⟩ := h
  exact ⟨h1, by rw [h2]; rfl⟩
theorem St.none_ {v : V} {s : Rs} (h : St none v s) : s.o = none := by unfold St at h; unfold Rs.o; rw [h]; rfl

/-- A function of a part that is read: what it reads, what becomes of the part. -/
def RStep (X : Cx) (S W : Nat → Prop) (r : Nat) (tR : TypeId) (T : Ty) (g o : Nat) (tG : TypeId) (L : List Nat) (Pre : Fm → Prop) (A : V → Prop) (f : V → Dc V) (cs rest : List Code) : Prop :=
  ∀ (σ : Fm) (w : World) (oo : Option (V × List UInt8)) (v : V) (s : Rs) (cells : List Value) (Q : Exit → Fm → World → Prop),
    Pre σ → (∀ x, oo = some x → A x.1) → St oo v s → Mem X S W r tR T g o tG w v s cells →
    (oo.bind (fun x => f x.1 x.2) = none → ∀ σ' w', Ch (rg r g) w w' → σ' X.res = X.eV → Q .ret σ' w') →
    (∀ σ' w' v' s' cells', St (oo.bind fun x => f x.1 x.2) v' s' → Mem X S W r tR T g o tG w' v' s' cells' → Ch (rg r g) w w' → Outside cells cells' o T.size → (∀ t ∈ L, σ' t = σ t) → CWL X.P X.n rest σ' w' Q) →
    CWL X.P X.n cs σ w Q

section
variable {X : Cx} {S W : Nat → Prop} {r : Nat} {tR : TypeId} {T : Ty} {g o : Nat} {tG : TypeId} {L : List Nat} {Pre Pre' : Fm → Prop} {A A' : V → Prop} {f f' : V → Dc V} {a b c : List Code}

theorem RStep.refl (h : ∀ v l, f v l = some (v, l)) : RStep X S W r tR T g o tG L Pre A f a a := by
  intro σ w oo v s cells Q hP hA hS hM hr hk
  refine hk σ w v s cells ?_ hM (Ch.refl _ _) (Outside.refl _ _ _) fun _ _ => rfl
  cases oo with
  | none => exact hS
  | some x => simp only [Option.bind_some]; rw [h]; exact hS
theorem RStep.trans (h : RStep X S W r tR T g o tG L Pre A f a b) (k : RStep X S W r tR T g o tG L Pre' A' f' b c) (hA : ∀ v l y, A v → f v l = some y → A' y.1) (hp : ∀ σ σ', Pre σ → (∀ t ∈ L, σ' t = σ t) → Pre' σ') :
    RStep X S W r tR T g o tG L Pre A (fun v l => (f v l).bind fun y => f' y.1 y.2) a c := by
  intro σ w oo v s cells Q hP hA0 hS hM hr hk
  have e : (oo.bind fun x => (f x.1 x.2).bind fun y => f' y.1 y.2) = (oo.bind fun x => f x.1 x.2).bind fun y => f' y.1 y.2 := (Option.bind_assoc _ _ _).symm
  rw [e] at hr hk
  refine h σ w oo v s cells Q hP hA0 hS hM (fun hn => hr (by rw [hn]; rfl)) fun σ1 w1 v1 s1 c1 hS1 hM1 hc1 ho1 hk1 => ?_
  refine k σ1 w1 _ v1 s1 c1 Q (hp _ _ hP hk1) (fun x hx => ?_) hS1 hM1 (fun hn σ' w' hc hres => hr hn σ' w' (hc1.trans' hc) hres) fun σ2 w2 v2 s2 c2 hS2 hM2 hc2 ho2 hk2 => ?_
  · obtain ⟨y, hy, hx⟩ := Option.bind_eq_some_iff.1 hx
    exact hA _ _ _ (hA0 y hy) hx
  · exact hk σ2 w2 v2 s2 c2 hS2 hM2 (hc1.trans' hc2) (ho1.trans ho2) fun t ht => (hk2 t ht).trans (hk1 t ht)
theorem RStep.congr (h : RStep X S W r tR T g o tG L Pre A f a b) (he : ∀ v l, f v l = f' v l) : RStep X S W r tR T g o tG L Pre A f' a b := by
  have : f = f' := funext fun v => funext fun l => he v l
  exact this ▸ h
theorem RStep.wk (h : RStep X S W r tR T g o tG L Pre A f a b) (hA : ∀ v, A' v → A v) : RStep X S W r tR T g o tG L Pre A' f a b :=
  fun σ w oo v s cells Q hP hA0 hS hM hr hk => h σ w oo v s cells Q hP (fun x hx => hA _ (hA0 x hx)) hS hM hr hk
end

/-! ### Pieces -/
/-- A bracket on a slot that is known. -/
def condK (kn : List (Nat × Bool)) (L : List Nat) (cs : List Code) : Option (List Code × List Code) :=
  match cs with
  | c1 :: .cond (.tmp tc') A B :: rest =>
    match canR c1 with
    | some ⟨[], (tc, s) :: b⟩ =>
      match kn.find? fun x => s == 2 * x.1 with
      | some x => if tc == tc' && free L ((tc, s) :: b) then some (flat (if x.2 then A else B), rest) else none
      | none => none
    | _ => none
  | _ => none

section
variable {P : Program} {n : Nat} {L : List Nat} {cs rest X : List Code} {σ : Fm} {w : World} {Q : Exit → Fm → World → Prop}

theorem condK_sound {kn : List (Nat × Bool)} (h : condK kn L cs = some (X, rest)) (hkn : Kn kn σ) (hk : ∀ σ', (∀ t ∈ L, σ' t = σ t) → CWL P n X σ' w (Then (fun σ' w' => CWL P n rest σ' w' Q) Q)) : CWL P n cs σ w Q := by
  unfold condK at h
  split at h
  · rename_i c1 tc' A B rest'
    split at h
    · rename_i tc s b hcan
      split at h
      · rename_i x hfind
        split at h
        · rename_i hh
          simp only [Option.some.injEq, Prod.mk.injEq] at h
          obtain ⟨rfl, rfl⟩ := h
          simp only [Bool.and_eq_true, beq_iff_eq] at hh
          obtain ⟨rfl, hfree⟩ := hh
          have hm := List.mem_of_find?_eq_some hfind
          have hs := List.find?_some hfind
          simp only [beq_iff_eq] at hs
          subst hs
          refine CWL.reg hcan ?_
          simp only [RC]
          refine CWL.cons (CW.cond (t := x.2) ?_ (CW.of_flat (hk _ fun t ht => ?_)))
          · simp only [ev_tmp, outF_head, enF_two]; exact hkn x.1 x.2 hm
          · rw [outF_free hfree ht, enF_two]
        · cases h
      · cases h
    · cases h
  · cases h

/-- A call on the reader: its function, the slot of its answer. -/
def rcall (L : List Nat) (q : Nat) (c : Code) : Option (FuncId × Nat) :=
  match canR c with
  | some ⟨[(op, _)], (d, 1) :: b⟩ => match asCall op with
    | some (f, [.tmp q2]) => if q2 == 2 * q && free L ((d, 1) :: b) then some (f, d) else none
    | _ => none
  | _ => none

theorem rcall_sound {q d : Nat} {c : Code} {f : FuncId} (h : rcall L q c = some (f, d)) (hf : Callable P f)
    (hc : Calls P f #[σ q] w fun en w' => ∃ x, en = .returned x ∧ ∀ σ', σ' d = x → (∀ t ∈ L, σ' t = σ t) → CWL P n rest σ' w' Q) : CWL P n (c :: rest) σ w Q := by
  unfold rcall at h
  split at h
  · rename_i op ty d' b hcan
    split at h
    · rename_i f' q2 hop
      split at h
      · rename_i hh
        simp only [Option.some.injEq, Prod.mk.injEq] at h
        obtain ⟨rfl, rfl⟩ := h
        simp only [Bool.and_eq_true, beq_iff_eq] at hh
        obtain ⟨rfl, hfree⟩ := hh
        refine CWL.reg hcan (OpK.asCall hop hf rfl ?_)
        simp only [List.map_cons, List.map_nil, ev_tmp, enF_two]
        refine hc.mono fun en w' ⟨x, he, hx⟩ => ⟨x, he, hx _ ?_ fun t ht => ?_⟩
        · rw [outF_head]; simp
        · rw [outF_free hfree ht, upd_odd _ _ _ _ (by omega), enF_two]
      · cases h
    · cases h
  · cases h

/-- Through brackets that are known, and what is idle, to the next call on the reader. -/
def reach (kn : List (Nat × Bool)) (L : List Nat) (q : Nat) : Nat → List Code → Option (FuncId × Nat × List Code)
  | 0, _ => none
  | _ + 1, [] => none
  | k + 1, c :: cs => match rcall L q c with
    | some (f, d) => some (f, d, cs)
    | none => match condK kn L (c :: cs) with
      | some (X, rest) => match reach kn L q k X with
        | some (f, d, []) => some (f, d, rest)
        | _ => none
      | none => if isIdle L c then reach kn L q k cs else none

theorem reach_sound {kn : List (Nat × Bool)} {q : Nat} {R : Value → World → Prop} (hL : ∀ x ∈ kn, x.1 ∈ L) (hq : q ∈ L) {f : FuncId} {d : Nat} (hf : Callable P f) (k : Nat) : ∀ {cs rest : List Code} {σ : Fm} {Q : Exit → Fm → World → Prop}, reach kn L q k cs = some (f, d, rest) → Kn kn σ →
    Calls P f #[σ q] w (fun en w' => ∃ x, en = .returned x ∧ R x w') → (∀ σ' w' x, R x w' → σ' d = x → (∀ t ∈ L, σ' t = σ t) → CWL P n rest σ' w' Q) → CWL P n cs σ w Q := by
  induction k with
  | zero => intro cs rest σ Q h; cases h
  | succ k ih =>
    intro cs rest σ Q h hkn hc hk
    cases cs with
    | nil => cases h
    | cons c cs =>
      unfold reach at h
      have knK : ∀ σ', (∀ t ∈ L, σ' t = σ t) → Kn kn σ' := fun σ' he s b hm => (he s (hL _ hm)).trans (hkn s b hm)
      split at h
      · rename_i f' d' hr
        simp only [Option.some.injEq, Prod.mk.injEq] at h
        obtain ⟨rfl, rfl, rfl⟩ := h
        exact rcall_sound hr hf (hc.mono fun en w' ⟨x, he, hR⟩ => ⟨x, he, fun σ' hd hkeep => hk σ' w' x hR hd hkeep⟩)
      · split at h
        · rename_i X rest' hck
          split at h
          · rename_i f' d' hre
            simp only [Option.some.injEq, Prod.mk.injEq] at h
            obtain ⟨rfl, rfl, rfl⟩ := h
            refine condK_sound hck hkn fun σ1 he1 => ?_
            refine ih hre (knK σ1 he1) (by rw [he1 q hq]; exact hc) fun σ' w' x hR hd hkeep => ?_
            exact hk σ' w' x hR hd fun t ht => (hkeep t ht).trans (he1 t ht)
          · cases h
        · split at h
          · rename_i hi
            refine CWL.idle hi fun σ1 he1 => ?_
            refine ih h (knK σ1 he1) (by rw [he1 q hq]; exact hc) fun σ' w' x hR hd hkeep => ?_
            exact hk σ' w' x hR hd fun t ht => (hkeep t ht).trans (he1 t ht)
          · cases h

theorem movOf_sound {v v' : Nat} {c : Code} (h : movOf L v c = some v') (hk : ∀ σ', (∀ t ∈ L, σ' t = σ t) → σ' v' = σ v → CWL P n rest σ' w Q) : CWL P n (c :: rest) σ w Q := by
  unfold movOf at h
  split at h
  · rename_i v'' v2 b hcan
    split at h
    · rename_i hh
      simp only [Option.some.injEq] at h
      subst h
      simp only [Bool.and_eq_true, beq_iff_eq] at hh
      obtain ⟨rfl, hfree⟩ := hh
      refine CWL.reg hcan ?_
      simp only [RC]
      exact hk _ (fun t ht => by rw [outF_free hfree ht, enF_two]) (by rw [outF_head, enF_two])
    · cases h
  · cases h
/-- The value goes from slot to slot. -/
def movs (L : List Nat) : Nat → Nat → List Code → Nat × List Code
  | 0, v, cs => (v, cs)
  | k + 1, v, c :: cs => match movOf L v c with
    | some v' => movs L k v' cs
    | none => (v, c :: cs)
  | _ + 1, v, [] => (v, [])
theorem movs_sound (k : Nat) : ∀ {v v' : Nat} {cs rest : List Code} {σ : Fm}, movs L k v cs = (v', rest) → (∀ σ', (∀ t ∈ L, σ' t = σ t) → σ' v' = σ v → CWL P n rest σ' w Q) → CWL P n cs σ w Q := by
  induction k with
  | zero => intro v v' cs rest σ h hk; simp only [movs, Prod.mk.injEq] at h; obtain ⟨rfl, rfl⟩ := h; exact hk σ (fun _ _ => rfl) rfl
  | succ k ih =>
    intro v v' cs rest σ h hk
    cases cs with
    | nil => simp only [movs, Prod.mk.injEq] at h; obtain ⟨rfl, rfl⟩ := h; exact hk σ (fun _ _ => rfl) rfl
    | cons c cs =>
      unfold movs at h
      split at h
      · rename_i v1 hm
        exact movOf_sound hm fun σ1 he1 hv1 => ih h fun σ' he' hv' => hk σ' (fun t ht => (he' t ht).trans (he1 t ht)) (hv'.trans hv1)
      · simp only [Prod.mk.injEq] at h; obtain ⟨rfl, rfl⟩ := h; exact hk σ (fun _ _ => rfl) rfl
end

/-! ### A field is stored -/
def storeOf (P : Program) (L : List Nat) (p : Nat) (T : Ty) (k : Nat) (ty : Ty) (c : Code) : Option Nat :=
  match canR c with
  | some ⟨[(.nilCheck (.tmp p2), _), (.fieldAddr tid (.tmp 1) k', _), (.store st (.tmp 3) (.tmp v2), _)], b⟩ =>
    match T.fld k with
    | some (ty', off) => if p2 == 2 * p && fieldOff P tid k' == some off && decide (ty' = ty) && v2 % 2 == 0 && (P.info? st).map (·.size) == some ty.size && free L b then some (v2 / 2) else none
    | none => none
  | _ => none

/-- A value in a slot, as its cells. -/
def Sv (c : List Value) (v : Value) : Prop := v = .agg c.toArray ∨ c = [v]
theorem ldv_sv {w : World} {S : Nat → Prop} {ty : Ty} {v : V} {c : List Value} (h : Rep w S ty v c) (hn : ty ≠ .nil) (hc : ∀ h t, ty ≠ .cons h t) : Sv c (ldv ty c) := by
  have hs := h.size
  cases ty <;> first
    | exact absurd rfl hn
    | exact absurd rfl (hc _ _)
    | exact .inl rfl
    | (simp only [Ty.size] at hs; obtain ⟨x, rfl⟩ := List.length_eq_one_iff.1 hs; exact .inr rfl)

section
variable {X : Cx} {S W : Nat → Prop} {r : Nat} {tR : TypeId} {T : Ty} {g o : Nat} {tG : TypeId} {L : List Nat}

theorem storeOf_sound {p k vs : Nat} {ty : Ty} {c : Code} (h : storeOf X.P L p T k ty c = some vs) {rest : List Code} {σ : Fm} {w : World} {Q : Exit → Fm → World → Prop} {v : V} {s : Rs} {cells : List Value}
    (hp : σ p = .pointer (some ⟨g, o, none⟩)) (hM : Mem X S W r tR T g o tG w v s cells) {u : V} {cu : List Value} (hu : Rep w (Ob W w) ty u cu) (hv : Sv cu (σ vs))
    (hk : ∀ σ' w' cells', Mem X S W r tR T g o tG w' (v.put k u) s cells' → Ch (fun k => k = g) w w' → Outside cells cells' o T.size → (∀ t ∈ L, σ' t = σ t) → CWL X.P X.n rest σ' w' Q) : CWL X.P X.n (c :: rest) σ w Q := by
  unfold storeOf at h
  split at h
  · rename_i p2 ty1 tid k' ty2 st v2 ty3 b hc
    split at h
    · rename_i ty' off hf
      split at h
      · rename_i hh
        simp only [Option.some.injEq] at h
        subst h
        simp only [Bool.and_eq_true, beq_iff_eq, decide_eq_true_eq] at hh
        obtain ⟨⟨⟨⟨⟨rfl, hoff⟩, rfl⟩, h2⟩, hst⟩, hfree⟩ := hh
        obtain ⟨vs, rfl⟩ : ∃ vs, v2 = 2 * vs := ⟨v2 / 2, by have := Nat.div_add_mod v2 2; rw [h2] at this; exact this.symm⟩
        have hvs : 2 * vs / 2 = vs := Nat.mul_div_cancel_left vs (by decide)
        rw [hvs] at hv
        obtain ⟨hM', hO⟩ := hM.put hf hu
        obtain ⟨_, _, _, _, hb⟩ := hM.rep.fld hf
        have hsz := hM.rep.size
        have hlen := hM.len
        have hcu := hu.size
        refine CWL.reg hc ?_
        refine OpK.nilCheck (a := ⟨g, o, none⟩) (by simp only [ev_tmp, enF_two]; exact hp) ?_
        refine OpK.fieldAddr hoff (a := ⟨g, o, none⟩) (by simp [upd]) ?_
        refine OpK.storeV (c := cu) (v := σ vs) (g := g) (o := o + off) (tG := tG) (cells := cells) (by rw [hst, hcu]) (by simp [upd, add_at]) ?_ hv (rep_one hu) hM.blk (by omega) ?_
        · simp only [ev_tmp, Nat.mul_zero, Nat.zero_add, Nat.mul_one, Nat.reduceAdd, Nat.reduceMul]
          rw [upd_odd _ _ _ _ (by omega), upd_odd _ _ _ _ (by omega), enF_two]
        · simp only [RC]
          refine hk _ _ _ hM' (setCells_ch _ _ _ _) hO fun t ht => ?_
          rw [outF_free hfree ht, upd_odd _ _ _ _ (by omega), upd_odd _ _ _ _ (by omega), upd_odd _ _ _ _ (by omega), enF_two]
      · cases h
    · cases h
  · cases h
end
end Go.Kx

/- The steps that read a value; fields that some versions have. -/
namespace Go.Kx
open Go.RowKit
set_option linter.unusedSimpArgs false
set_option linter.unusedVariables false

/-- What the slots hold while a part is read. -/
structure RP (X : Cx) (fx : Bool) (ver : Int) (q p r g o : Nat) (σ : Fm) : Prop where
  ver : σ X.x.ver = .int .i16 ver
  kn : Kn (X.kn fx) σ
  rdr : σ q = .pointer (some ⟨r, 0, none⟩)
  ptr : σ p = .pointer (some ⟨g, o, none⟩)
/-- Slots that are kept. -/
structure LIn (X : Cx) (fx : Bool) (q p : Nat) (L : List Nat) : Prop where
  ver : X.x.ver ∈ L
  kn : ∀ x ∈ X.kn fx, x.1 ∈ L
  rdr : q ∈ L
  ptr : p ∈ L
theorem RP.keep {X : Cx} {fx : Bool} {ver : Int} {q p r g o : Nat} {σ σ' : Fm} {L : List Nat} (h : RP X fx ver q p r g o σ) (hL : LIn X fx q p L) (he : ∀ t ∈ L, σ' t = σ t) : RP X fx ver q p r g o σ' :=
  ⟨(he _ hL.ver).trans h.ver, fun s b hm => (he s (hL.kn _ hm)).trans (h.kn s b hm), (he _ hL.rdr).trans h.rdr, (he _ hL.ptr).trans h.ptr⟩
theorem LIn.more {X : Cx} {fx : Bool} {q p : Nat} {L L' : List Nat} (h : LIn X fx q p L) (hl : ∀ t ∈ L, t ∈ L') : LIn X fx q p L' :=
  ⟨hl _ h.ver, fun x hx => hl _ (h.kn x hx), hl _ h.rdr, hl _ h.ptr⟩
theorem LIn.to {X : Cx} {fx : Bool} {q p p' : Nat} {L : List Nat} (h : LIn X fx q p L) (hp : p' ∈ L) : LIn X fx q p' L := ⟨h.ver, h.kn, h.rdr, hp⟩

theorem St.step {α : Type} {oo : Option (V × List UInt8)} {v : V} {s s' : Rs} {d : Dc α} {u : α} (h : St oo v s) (hg : Got s.o d u s') (F : V → α → V) : St (oo.bind fun x => (d x.2).map fun y => (F x.1 y.1, y.2)) (F v u) s' := by
  cases oo with
  | none =>
    rw [Got, h.none_] at hg
    exact hg
  | some x =>
    obtain ⟨rfl, ho⟩ := h.good
    rw [Got, ho] at hg
    simp only [Option.bind_some] at hg ⊢
    cases hd : d x.2 with
    | none => rw [hd] at hg; exact hg
    | some y => rw [hd] at hg; exact ⟨by rw [hg.1], hg.2⟩
/-- What is got of what is there. -/
theorem Got.bad {α : Type} {d : Dc α} {u : α} {s s' : Rs} {oo : Option (V × List UInt8)} {v : V} (h : St oo v s) (hg : Got s.o d u s') (hb : s'.bad = true) : (oo.bind fun x => d x.2) = none := by
  cases oo with
  | none => rfl
  | some x =>
    obtain ⟨rfl, ho⟩ := h.good
    rw [Got, ho] at hg
    simp only [Option.bind_some] at hg ⊢
    cases hd : d x.2 with
    | none => rfl
    | some y => rw [hd] at hg; rw [hg.2] at hb; cases hb
theorem Got.good {α : Type} {d : Dc α} {u : α} {s s' : Rs} {oo : Option (V × List UInt8)} {v : V} (h : St oo v s) (hg : Got s.o d u s') (hb : s'.bad = false) : ∃ x l, oo = some (v, x) ∧ d x = some (u, l) ∧ s = ⟨x, false⟩ ∧ s' = ⟨l, false⟩ := by
  cases oo with
  | none =>
    rw [Got, h.none_] at hg
    rw [show s'.bad = true from hg] at hb
    cases hb
  | some x =>
    have hS := h
    obtain ⟨h1, h2⟩ := hS
    obtain ⟨_, ho⟩ := h.good
    rw [Got, ho] at hg
    simp only [Option.bind_some] at hg
    cases hd : d x.2 with
    | none => rw [hd] at hg; rw [show s'.bad = true from hg] at hb; cases hb
    | some y =>
      rw [hd] at hg
      obtain ⟨hu, hs⟩ := hg
      refine ⟨x.2, y.2, by rw [h1], ?_, h2, hs⟩
      rw [hd, hu]

def valMatch (fx : Bool) (w : Wt) (fx' : Bool) (w' : Wt) : Bool := (w' == w || (w == .e8 && w' == .i8)) && (fx' == fx || !w.two)
theorem valMatch_spec {fx fx' : Bool} {w w' : Wt} (h : valMatch fx w fx' w' = true) : w'.ty = w.ty ∧ decW fx' w' = decW fx w := by
  simp only [valMatch, Bool.and_eq_true, Bool.or_eq_true, beq_iff_eq, Bool.not_eq_true'] at h
  obtain ⟨h1, h2⟩ := h
  rcases h1 with rfl | ⟨rfl, rfl⟩
  · refine ⟨rfl, ?_⟩
    rcases h2 with rfl | h2
    · rfl
    · funext l
      cases w' <;> first | rfl | cases h2
  · exact ⟨rfl, by funext l; rfl⟩

/-- A value is read into a field. -/
def rdVal (X : Cx) (fx : Bool) (L : List Nat) (q p : Nat) (T : Ty) (k : Nat) (w : Wt) (cs : List Code) : Option (List Code) :=
  match reach (X.kn fx) L q 8 cs with
  | some (f, d, cs1) => match rfAt X.tab f with
    | some (.val fx' w') => if valMatch fx w fx' w' then
        match movs L 4 d cs1 with
        | (d', c :: cs2) => match storeOf X.P L p T k w.ty c with
          | some vs => if vs == d' then some cs2 else none
          | none => none
        | _ => none
      else none
    | _ => none
  | none => none

theorem Wt.ty_ne (w : Wt) : w.ty ≠ .nil ∧ ∀ h t, w.ty ≠ .cons h t := by cases w <;> exact ⟨by simp [Wt.ty], by simp [Wt.ty]⟩

section
variable {X : Cx} {S W : Nat → Prop} {r : Nat} {tR : TypeId} {T : Ty} {g o : Nat} {tG : TypeId} {L : List Nat} {fx : Bool} {ver : Int} {q p : Nat}

theorem rdVal_step (hX : X.Sound) (hL : LIn X fx q p L) {k : Nat} {w : Wt} {A : V → Prop} {cs rest : List Code} (h : rdVal X fx L q p T k w cs = some rest) :
    RStep X S W r tR T g o tG L (RP X fx ver q p r g o) A (fun v l => (decW fx w l).map fun x => (v.put k x.1, x.2)) cs rest := by
  intro σ w1 oo v s cells Q hP hA hS hM hr hk
  unfold rdVal at h
  split at h
  · rename_i f d cs1 hre
    split at h
    · rename_i fx' w' hf
      split at h
      · rename_i hm
        split at h
        · rename_i d' c cs2 hmv
          split at h
          · rename_i vs hst
            split at h
            · rename_i hvs
              simp only [Option.some.injEq] at h
              subst h
              rw [beq_iff_eq] at hvs
              subst hvs
              obtain ⟨hcall, hok⟩ := hX.ok f _ hf
              obtain ⟨hty, hdec⟩ := valMatch_spec hm
              have hc := hok w1 S r tR s (fun k hk => (hM.src k hk).1) hM.rd
              rw [← hP.rdr] at hc
              refine reach_sound (R := fun x w2 => ∃ u cu s', x = ldv w'.ty cu ∧ RdIs w2 S r tR s' ∧ Ch (fun k => k = r) w1 w2 ∧ Rep w2 (NewB S w1 w2) w'.ty u cu ∧ Got s.o (decW fx' w') u s') hL.kn hL.rdr hcall 8 hre hP.kn
                (hc.mono fun en w2 ⟨u, cu, s', he, h1, h2, h3, h4⟩ => ⟨_, he, u, cu, s', rfl, h1, h2, h3, h4⟩) fun σ1 w2 x ⟨u, cu, s', hx, h1, h2, h3, h4⟩ hd1 he1 => ?_
              rw [hty] at hx h3
              rw [hdec] at h4
              refine movs_sound 4 hmv fun σ2 he2 hd2 => ?_
              have hM2 := hM.call h1 h2
              have hu := h3.mono (hM.newB h2.size)
              refine storeOf_sound hst (((he2 p hL.ptr).trans (he1 p hL.ptr)).trans hP.ptr) hM2 hu ?_ fun σ3 w3 cells3 hM3 hc3 ho3 he3 => ?_
              · rw [hd2, hd1, hx]
                exact ldv_sv hu w.ty_ne.1 w.ty_ne.2
              · refine hk σ3 w3 _ s' cells3 (hS.step h4 fun v u => v.put k u) hM3 ?_ ho3 fun t ht => (he3 t ht).trans ((he2 t ht).trans (he1 t ht))
                exact (h2.mono fun _ _ h => .inl h).trans' (hc3.mono fun _ _ h => .inr h)
            · cases h
          · cases h
        · cases h
      · cases h
    · cases h
  · cases h
end

/-! ### A field that some versions have -/
def Cx.xv (X : Cx) : Sl := ⟨X.x.ver, X.x.flx, X.x.ver⟩
def rdVc (X : Cx) (L : List Nat) (c : Vc) (body : List Code → Option (List Code)) (cs : List Code) : Option (List Code) := withVc X.xv L c body cs

section
variable {X : Cx} {S W : Nat → Prop} {r : Nat} {tR : TypeId} {T : Ty} {g o : Nat} {tG : TypeId} {L : List Nat} {Pre : Fm → Prop} {A : V → Prop} {f : V → Dc V} {ver : Int}

/-- A list of statements that is run, and then the rest. -/
theorem RStep.inner {a rest : List Code} (h : RStep X S W r tR T g o tG L Pre A f a []) {σ : Fm} {w : World} {oo : Option (V × List UInt8)} {v : V} {s : Rs} {cells : List Value} {Q : Exit → Fm → World → Prop}
    (hP : Pre σ) (hA : ∀ x, oo = some x → A x.1) (hS : St oo v s) (hM : Mem X S W r tR T g o tG w v s cells)
    (hr : oo.bind (fun x => f x.1 x.2) = none → ∀ σ' w', Ch (rg r g) w w' → σ' X.res = X.eV → Q .ret σ' w')
    (hk : ∀ σ' w' v' s' cells', St (oo.bind fun x => f x.1 x.2) v' s' → Mem X S W r tR T g o tG w' v' s' cells' → Ch (rg r g) w w' → Outside cells cells' o T.size → (∀ t ∈ L, σ' t = σ t) → CWL X.P X.n rest σ' w' Q) :
    CWL X.P X.n a σ w (Then (fun σ' w' => CWL X.P X.n rest σ' w' Q) Q) :=
  h σ w oo v s cells _ hP hA hS hM (fun hn σ' w' hc hres => hr hn σ' w' hc hres) fun σ' w' v' s' cells' h1 h2 h3 h4 h5 => hk σ' w' v' s' cells' h1 h2 h3 h4 h5

theorem rdVc_step {c : Vc} {body : List Code → Option (List Code)} {cs rest : List Code} (h : rdVc X L c body cs = some rest) (hP : ∀ σ σ', Pre σ → (∀ t ∈ L, σ' t = σ t) → Pre σ') (hver : ∀ σ, Pre σ → σ X.x.ver = .int .i16 ver)
    (hb : c.ok ver = true → ∀ cs rest, body cs = some rest → RStep X S W r tR T g o tG L Pre A f cs rest) : RStep X S W r tR T g o tG L Pre A (fun v l => if c.ok ver then f v l else some (v, l)) cs rest := by
  have none_ : ∀ {oo : Option (V × List UInt8)}, (oo.bind fun x => (some (x.1, x.2) : Option (V × List UInt8))) = oo := by intro oo; cases oo <;> rfl
  unfold rdVc withVc at h
  cases c with
  | all => exact (hb rfl cs rest h).congr fun v l => rfl
  | ge m =>
    simp only at h
    split at h
    · rename_i A' rest' hg
      split at h
      · rename_i hbody
        simp only [Option.some.injEq] at h
        subst h
        intro σ w oo v s cells Q hp hA hS hM hr hk
        refine verGe_sound hg (hver σ hp) fun σ1 hd hL => ?_
        by_cases hm : ver ≥ m
        · rw [if_pos hm]
          have hb := hb (by simp [Vc.ok, hm])
          simp only [Vc.ok, hm, decide_true, if_true] at hr hk
          exact (hb _ _ hbody).inner (hP _ _ hp hL) hA hS hM hr fun σ' w' v' s' cells' h1 h2 h3 h4 h5 => hk σ' w' v' s' cells' h1 h2 h3 h4 fun t ht => (h5 t ht).trans (hL t ht)
        · rw [if_neg hm]
          simp only [Vc.ok, hm, decide_false, Bool.false_eq_true, if_false, none_] at hk
          exact hk σ1 w v s cells hS hM (Ch.refl _ _) (Outside.refl _ _ _) hL
      · cases h
    · cases h
  | rng lo hi =>
    simp only at h
    split at h
    · rename_i A' rest' hg
      split at h
      · rename_i hbody
        simp only [Option.some.injEq] at h
        subst h
        intro σ w oo v s cells Q hp hA hS hM hr hk
        refine verRng_sound hg (hver σ hp) fun σ1 hd hL => ?_
        by_cases hm : ver ≥ lo ∧ ver ≤ hi
        · rw [if_pos hm]
          have hb := hb (by simp [Vc.ok, hm])
          simp only [Vc.ok, hm, decide_true, Bool.and_self, if_true] at hr hk
          exact (hb _ _ hbody).inner (hP _ _ hp hL) hA hS hM hr fun σ' w' v' s' cells' h1 h2 h3 h4 h5 => hk σ' w' v' s' cells' h1 h2 h3 h4 fun t ht => (h5 t ht).trans (hL t ht)
        · rw [if_neg hm]
          have hok : (Vc.rng lo hi).ok ver = false := by
            simp only [Vc.ok, Bool.and_eq_false_iff, decide_eq_false_iff_not]
            by_cases h1 : ver ≥ lo
            · exact .inr fun h2 => hm ⟨h1, h2⟩
            · exact .inl h1
          simp only [hok, Bool.false_eq_true, if_false, none_] at hk
          exact hk σ1 w v s cells hS hM (Ch.refl _ _) (Outside.refl _ _ _) hL
      · cases h
    · cases h
end
end Go.Kx

/- New things are zero; the error is returned; a list grows; what a row of things holds while it is read. -/
namespace Go.Kx
open Go.RowKit
set_option linter.unusedSimpArgs false
set_option linter.unusedVariables false

/-! ### What is new is zero -/
def consV (x : V) : V → V
  | .st l => .st (x :: l)
  | _ => .st [x]
def zeroV : Ty → V
  | .bool => .b false
  | .int _ => .i 0
  | .f64 => .f 0
  | .str => .s []
  | .nstr => .nsN
  | .bytes => .byN
  | .uuid => .u (List.replicate 16 0)
  | .arr _ => .arrN
  | .nil => .st []
  | .cons h t => consV (zeroV h) (zeroV t)
  | .nst _ => .nstN
  | .tags => .tags []
def zeroC : Ty → List Value
  | .bool => [.bool false]
  | .int k => [.int k 0]
  | .f64 => [.float .f64 0]
  | .str => [.string ⟨#[]⟩]
  | .nstr => [.pointer none]
  | .bytes => [.slice none 0 0]
  | .uuid => List.replicate 16 (.int .u8 0)
  | .arr _ => [.slice none 0 0]
  | .nil => []
  | .cons h t => zeroC h ++ zeroC t
  | .nst _ => [.pointer none]
  | .tags => [.map none]
/-- The fields of a struct are a chain. -/
def wfT : Ty → Bool
  | .cons h t => wfT h && (match t with | .nil => true | .cons _ _ => wfT t | _ => false)
  | _ => true
theorem zeroC_len (T : Ty) : (zeroC T).length = T.size := by
  induction T with
  | cons h t ih1 ih2 => simp [zeroC, Ty.size, ih1, ih2]
  | _ => rfl
theorem rep_zero (w : World) (S : Nat → Prop) : ∀ (T : Ty), wfT T = true → Rep w S T (zeroV T) (zeroC T)
  | .bool, _ => rfl
  | .int k, _ => ⟨rfl, by cases k <;> rfl⟩
  | .f64, _ => ⟨rfl, by decide⟩
  | .str, _ => rfl
  | .nstr, _ => rfl
  | .bytes, _ => rfl
  | .uuid, _ => ⟨rfl, rfl⟩
  | .arr _, _ => rfl
  | .nil, _ => ⟨rfl, rfl⟩
  | .nst _, _ => rfl
  | .tags, _ => .inl ⟨rfl, rfl⟩
  | .cons h t, hw => by
    simp only [wfT, Bool.and_eq_true] at hw
    have h1 := rep_zero w S h hw.1
    cases t with
    | nil => exact ⟨_, [], _, [], rfl, rfl, zeroC_len h, h1, rfl, rfl⟩
    | cons h2 t2 =>
      have h2' := rep_zero w S (.cons h2 t2) hw.2
      have : ∃ l, zeroV (.cons h2 t2) = .st l := by
        simp only [zeroV]
        generalize zeroV t2 = y
        cases y <;> exact ⟨_, rfl⟩
      obtain ⟨l, hl⟩ := this
      rw [hl] at h2'
      have e : zeroV (.cons h (.cons h2 t2)) = .st (zeroV h :: l) := by
        show consV (zeroV h) (zeroV (.cons h2 t2)) = _
        rw [hl]
        rfl
      rw [e]
      exact ⟨zeroV h, l, zeroC h, zeroC (.cons h2 t2), rfl, rfl, zeroC_len h, h1, h2'⟩
    | _ => simp at hw

def vEq : Value → Value → Bool
  | .bool a, .bool b => a == b
  | .int k a, .int k' b => decide (k = k') && a == b
  | .float k a, .float k' b => decide (k = k') && a == b
  | .string a, .string b => a.size == 0 && b.size == 0
  | .pointer none, .pointer none => true
  | .slice none a b, .slice none c d => a == c && b == d
  | .map none, .map none => true
  | _, _ => false
theorem bytes_empty {a : ByteArray} (h : a.size = 0) : a = ⟨#[]⟩ := by
  obtain ⟨a⟩ := a
  have : a = #[] := Array.eq_empty_of_size_eq_zero h
  rw [this]
theorem vEq_eq {a b : Value} (h : vEq a b = true) : a = b := by
  unfold vEq at h
  split at h
  · rw [beq_iff_eq.1 h]
  · simp only [Bool.and_eq_true, decide_eq_true_eq, beq_iff_eq] at h; rw [h.1, h.2]
  · simp only [Bool.and_eq_true, decide_eq_true_eq, beq_iff_eq] at h; rw [h.1, h.2]
  · simp only [Bool.and_eq_true, beq_iff_eq] at h; rw [bytes_empty h.1, bytes_empty h.2]
  · rfl
  · simp only [Bool.and_eq_true, beq_iff_eq] at h; rw [h.1, h.2]
  · rfl
  · cases h
def cellsEq : List Value → List Value → Bool
  | [], [] => true
  | a :: l, b :: m => vEq a b && cellsEq l m
  | _, _ => false
theorem cellsEq_eq : ∀ {l m : List Value}, cellsEq l m = true → l = m
  | [], [], _ => rfl
  | a :: l, b :: m, h => by
    simp only [cellsEq, Bool.and_eq_true] at h
    rw [vEq_eq h.1, cellsEq_eq h.2]
  | [], _ :: _, h => by cases h
  | _ :: _, [], h => by cases h

mutual
def veq : V → V → Bool
  | .b x, .b y => x == y
  | .i x, .i y => x == y
  | .f x, .f y => x == y
  | .s x, .s y => x == y
  | .nsN, .nsN => true
  | .byN, .byN => true
  | .u x, .u y => x == y
  | .arrN, .arrN => true
  | .nstN, .nstN => true
  | .tags x, .tags y => x.isEmpty && y.isEmpty
  | .st l, .st m => veqs l m
  | _, _ => false
def veqs : List V → List V → Bool
  | [], [] => true
  | a :: l, b :: m => veq a b && veqs l m
  | _, _ => false
end
mutual
theorem veq_eq (a b : V) (h : veq a b = true) : a = b := by
  cases a with
  | st l =>
    cases b with
    | st m => exact congrArg V.st (veqs_eq l m (by simpa only [veq] using h))
    | _ => simp only [veq] at h; cases h
  | tags l =>
    cases b with
    | tags m =>
      simp only [veq, Bool.and_eq_true, List.isEmpty_iff] at h
      rw [h.1, h.2]
    | _ => simp only [veq] at h; cases h
  | _ => cases b <;> simp only [veq] at h <;> first | (cases h; done) | rfl | (rw [beq_iff_eq] at h; rw [h]; done)
termination_by SizeOf.sizeOf a
theorem veqs_eq (a b : List V) (h : veqs a b = true) : a = b := by
  cases a with
  | nil => cases b with
    | nil => rfl
    | cons _ _ => simp only [veqs] at h; cases h
  | cons x l => cases b with
    | nil => simp only [veqs] at h; cases h
    | cons y m =>
      simp only [veqs, Bool.and_eq_true] at h
      rw [veq_eq x y h.1, veqs_eq l m h.2]
termination_by SizeOf.sizeOf a
end

/-- The type of the things of a list; they are as T says, and zero when new. -/
def elemZ (P : Program) (t it : TypeId) (T : Ty) : Option TypeId :=
  match P.underlying t, P.underlying it with
  | some (.slice e), some (.int .i32) => match P.info? e with
    | some i => match i.zero with
      | some z => if i.size == T.size && Nat.blt 0 T.size && Nat.ble i.bytes 65536 && cellsEq z.cells.toList (zeroC T) then some e else none
      | none => none
    | none => none
  | _, _ => none
theorem elemZ_spec {P : Program} {t it e : TypeId} {T : Ty} (h : elemZ P t it T = some e) :
    P.underlying t = some (.slice e) ∧ P.underlying it = some (.int .i32) ∧ ∃ i z, P.info? e = some i ∧ i.zero = some z ∧ i.size = T.size ∧ 0 < T.size ∧ i.bytes ≤ 65536 ∧ z.cells.toList = zeroC T := by
  unfold elemZ at h
  split at h
  · rename_i e' h1 h2
    split at h
    · rename_i i hi
      split at h
      · rename_i z hz
        split at h
        · rename_i hh
          simp only [Option.some.injEq] at h
          subst h
          simp only [Bool.and_eq_true, beq_iff_eq, Nat.blt_eq, Nat.ble_eq] at hh
          exact ⟨h1, h2, i, z, hi, hz, hh.1.1.1, hh.1.1.2, hh.1.2, cellsEq_eq hh.2⟩
        · cases h
      · cases h
    · cases h
  · cases h

/-- A list that is not there grows by n new things. -/
theorem run_zeros {P : Program} (w : World) (t tn ty e : TypeId) (i : TypeInfo) (z : Value) (k kn : IntKind) (ht : P.underlying t = some (.slice e)) (htn : P.underlying tn = some (.int kn)) (hi : P.info? e = some i) (hz : i.zero = some z)
    (n : Nat) (h0 : 0 < n) (hs : 0 < i.size) (h63 : (n : Int) ≤ 9223372036854775807) (h48 : n * i.bytes ≤ 281474976710656) :
    (Builtin.append_ #[t, tn] ty #[.slice none 0 0, .int k n]).run P w =
      .ok (.slice (some ⟨w.heap.size, 0, none⟩) n (grownCap w n 0 e)) (w.drew.alloc (.cells (Builtin.zeroCells z.cells n ++ Builtin.zeroCells z.cells (grownCap w n 0 e - n)) e)) := by
  have hn : n ≠ 0 := by omega
  have hw : IntKind.i64.wrap (n : Int) = n := by rw [IntKind.wrap_i64]; omega
  have h63' : ¬ (9223372036854775807 < (n : Int)) := by omega
  have h48' : ¬ (281474976710656 < Builtin.nextslicecap n 0 * i.bytes) := by rw [nextslicecap_zero h0]; omega
  have h48i : ¬ (281474976710656 < (n : Int) * (i.bytes : Int)) := by
    rw [← Int.natCast_mul]
    omega
  have hneg : ¬ ((n : Int) < 0) := by omega
  have hns : ¬ (n * i.size = 0) := Nat.mul_ne_zero hn (by omega)
  simp [Builtin.append_, run_underlying ht, run_underlying htn, sizeOf, typeInfo, zeroValue, hi, hz, asInt, asIntOf, hw, hn, hneg, hns, h63', h48', h48i, Question.forced, run_firstCells_none, newRow, grownCap]

theorem zeros_get (zc : Array Value) (n i : Nat) (h : i < n * zc.size) : (Builtin.zeroCells zc n).toList[i]? = zc.toList[i % zc.size]? := by
  have hz : 0 < zc.size := by
    rcases Nat.eq_zero_or_pos zc.size with h0 | h0
    · rw [h0] at h; omega
    · exact h0
  have hm := Nat.mod_lt i hz
  unfold Builtin.zeroCells
  simp only [Array.toList_map, Array.toList_range, List.getElem?_map]
  rw [List.getElem?_range h]
  simp only [Option.map_some]
  rw [getElem!_pos zc (i % zc.size) hm, Array.getElem?_toList, Array.getElem?_eq_getElem hm]
theorem zeros_len (zc : Array Value) (n : Nat) : (Builtin.zeroCells zc n).toList.length = n * zc.size := by simp [Builtin.zeroCells]
/-- The j-th of the new things. -/
theorem zeros_at (zc : Array Value) (n j : Nat) (rest : List Value) (h : j < n) : ((((Builtin.zeroCells zc n).toList ++ rest).drop (j * zc.size)).take zc.size) = zc.toList := by
  have hle : (j + 1) * zc.size ≤ n * zc.size := Nat.mul_le_mul_right _ h
  rw [Nat.add_mul, Nat.one_mul] at hle
  apply List.ext_getElem?
  intro i
  rw [List.getElem?_take, List.getElem?_drop]
  by_cases hi : i < zc.size
  · rw [if_pos hi, List.getElem?_append_left (by rw [zeros_len]; omega), zeros_get _ _ _ (by omega)]
    congr 1
    rw [Nat.mul_comm j, Nat.mul_add_mod, Nat.mod_eq_of_lt hi]
  · rw [if_neg hi, List.getElem?_eq_none (by simpa using hi)]

/-! ### The error is returned -/
def isComp (X : Cx) (f : FuncId) : Bool := match rfAt X.tab f with | some .comp => true | _ => false
def isOk (X : Cx) (f : FuncId) : Bool := match rfAt X.tab f with | some .ok => true | _ => false
theorem isComp_spec {X : Cx} {f : FuncId} (h : isComp X f = true) : rfAt X.tab f = some .comp := by
  unfold isComp at h
  split at h
  · assumption
  · cases h
theorem isOk_spec {X : Cx} {f : FuncId} (h : isOk X f = true) : rfAt X.tab f = some .ok := by
  unfold isOk at h
  split at h
  · assumption
  · cases h
/-- 'return b.Complete()' -/
def compRet (X : Cx) (q : Nat) (cs : List Code) : Bool :=
  match cs with
  | [c, .ret] => match canR c with
    | some ⟨[(op, _)], (d, 1) :: _⟩ => match asCall op with
      | some (f, [.tmp q2]) => q2 == 2 * q && d == X.res && isComp X f
      | _ => false
    | _ => false
  | _ => false
/-- 'if !b.Ok() { return b.Complete() }' -/
def okRet (X : Cx) (L : List Nat) (q : Nat) (cs : List Code) : Option (List Code) :=
  match cs with
  | c1 :: .cond (.tmp tc') A B :: rest => match canR c1 with
    | some ⟨[(op, _), (.unOp .not _ (.tmp 1), _)], (tc, 3) :: b⟩ => match asCall op with
      | some (f, [.tmp q2]) => if q2 == 2 * q && tc == tc' && isOk X f && free (q :: L) ((tc, 3) :: b) && (flat B).isEmpty && compRet X q (flat A) then some rest else none
      | _ => none
    | _ => none
  | _ => none

section
variable {X : Cx} {S W : Nat → Prop} {r : Nat} {tR : TypeId} {L : List Nat} {σ : Fm} {w : World} {Q : Exit → Fm → World → Prop} {s : Rs} {q : Nat} {cs rest : List Code}

theorem compRet_sound (hX : X.Sound) (h : compRet X q cs = true) (hq : σ q = .pointer (some ⟨r, 0, none⟩)) (hR : RdIs w S r tR s) (he : w.cell? ⟨X.gE, 0, none⟩ = some X.eV)
    (hr : ∀ σ', σ' X.res = (if s.bad then X.eV else .nilIface) → Q .ret σ' w) : CWL X.P X.n cs σ w Q := by
  unfold compRet at h
  split at h
  · rename_i c
    split at h
    · rename_i op ty d b hcan
      split at h
      · rename_i f q2 hop
        simp only [Bool.and_eq_true, beq_iff_eq] at h
        obtain ⟨⟨rfl, rfl⟩, hf⟩ := h
        obtain ⟨hcall, hok⟩ := hX.ok f _ (isComp_spec hf)
        refine CWL.reg hcan (OpK.asCall hop hcall rfl ?_)
        simp only [List.map_cons, List.map_nil, ev_tmp, enF_two, hq]
        refine (hok w S r tR s hR he).mono fun en w' ⟨h1, h2⟩ => ⟨_, h1, ?_⟩
        subst h2
        refine CWL.ret (hr _ ?_)
        rw [outF_head]
        simp
      · cases h
    · cases h
  · cases h

theorem okRet_sound (hX : X.Sound) (h : okRet X L q cs = some rest) (hq : σ q = .pointer (some ⟨r, 0, none⟩)) (hR : RdIs w S r tR s) (he : w.cell? ⟨X.gE, 0, none⟩ = some X.eV)
    (hr : s.bad = true → ∀ σ', σ' X.res = X.eV → Q .ret σ' w) (hk : s.bad = false → ∀ σ', (∀ t ∈ L, σ' t = σ t) → CWL X.P X.n rest σ' w Q) : CWL X.P X.n cs σ w Q := by
  unfold okRet at h
  split at h
  · rename_i c1 tc' A B rest'
    split at h
    · rename_i op ty1 ty2 ty3 tc b hcan
      split at h
      · rename_i f q2 hop
        split at h
        · rename_i hh
          simp only [Option.some.injEq] at h
          subst h
          simp only [Bool.and_eq_true, beq_iff_eq, List.isEmpty_iff] at hh
          obtain ⟨⟨⟨⟨⟨rfl, rfl⟩, hf⟩, hfree⟩, hB⟩, hA⟩ := hh
          obtain ⟨hcall, hok⟩ := hX.ok f _ (isOk_spec hf)
          refine CWL.reg hcan (OpK.asCall hop hcall rfl ?_)
          simp only [List.map_cons, List.map_nil, ev_tmp, enF_two, hq]
          refine (hok w S r tR s hR).mono fun en w' ⟨h1, h2⟩ => ⟨_, h1, ?_⟩
          subst h2
          refine OpK.not (b := !s.bad) (by simp) ?_
          simp only [RC]
          have hkeep : ∀ t ∈ q :: L, outF ((tc, 3) :: b) (upd (upd (enF σ) (some (2 * 0 + 1)) (Value.bool !s.bad)) (some (2 * (0 + 1) + 1)) (Value.bool (!!s.bad))) t = σ t := fun t ht => by
            rw [outF_free hfree ht, upd_odd _ _ _ _ (by omega), upd_odd _ _ _ _ (by omega), enF_two]
          cases hb : s.bad with
          | true =>
            rw [hb] at hkeep
            refine CWL.condT (by simp only [ev_tmp, outF_head]; simp [upd, hb]) (CWL.append ?_)
            refine compRet_sound hX hA ((hkeep q (by simp)).trans hq) hR he fun σ' hσ => ?_
            rw [hb, if_pos rfl] at hσ
            exact hr hb σ' hσ
          | false =>
            rw [hb] at hkeep
            refine CWL.condF (by simp only [ev_tmp, outF_head]; simp [upd, hb]) ?_
            rw [hB, List.nil_append]
            exact hk hb _ fun t ht => hkeep t (List.mem_cons_of_mem _ ht)
        · cases h
      · cases h
    · cases h
  · cases h
end

/-! ### A list is cut to nothing, and grows -/
section
variable {P : Program} {ρ : Operand → Value} {w : World} {K : Value → World → Prop} {d : Option Tmp} {ty : TypeId} {pos : String} {af : Array Edge} {g : Option (Nat × Bool)}
theorem addr_add_zero (a : Addr) : a.add 0 = a := by simp [Addr.add]
theorem OpK.slice0 {x : Operand} {t e : TypeId} {a : Option Addr} {n c : Nat} (ht : P.underlying t = some (.slice e)) (hs : (P.info? e).isSome = true) (hx : ρ x = .slice a n c) (hz : ρ (.const (.int .i64 0)) = .int .i64 0)
    (h : K (.slice a 0 c) w) : OpK P ρ ⟨d, .slice t x none (some (.const (.int .i64 0))) none, ty, pos, af, g⟩ w K := by
  have he : P.underlying t = some (.slice (P.elem t)) := by rw [ht]; simp [Program.elem, ht]
  have hel : P.elem t = e := by simp [Program.elem, ht]
  obtain ⟨i, hi⟩ := Option.isSome_iff_exists.1 hs
  simp only [OpK, execOp, Option.map_some, Option.map_none, hx, hz, Instr.sliceAt, Sem.run_bind, run_underlying ht, Result.andThen_ok]
  rw [run_slice_h w t a n c he .i64 0 (by omega) (by omega)]
  simp only [hel, sizeOf, typeInfo, run_program, Sem.run_bind, Result.andThen_ok, hi, Sem.run_pure, sliced, Int.toNat_zero, Nat.zero_mul, Nat.sub_zero, After]
  have : (if c = 0 then a else a.map (·.add 0)) = a := by
    split
    · rfl
    · cases a <;> simp [addr_add_zero]
  rw [this]
  exact h
end
end Go.Kx
