/- Running code whose inputs are known: values, blocks and frames as plain data; where blocks lie and how much room they have is left open. -/
import Derived.Test.YtlmelgjepdbakaaDoorRKxDraw
import Derived.Great.BuildSlice
namespace Go.Kx
open Go.RowKit
set_option linter.unusedSimpArgs false
set_option linter.unusedVariables false

/-- A cell: a value that names no block; a pointer; a slice (its room where it is known); a function with what it has caught. -/
inductive AC where
  | lit (v : Value) | ptr (b o : Nat) | sl (b n : Nat) (c : Option Nat) | fn (f : Fn) (l : List (Nat × Nat)) | hole (m r : Nat)
inductive AV where
  | c (x : AC) | agg (l : List AC)

/-- Where the blocks lie, and their room. -/
abbrev En := List (Nat × Nat)

def PtrIs (E : En) (x : Nat × Nat) (v : Value) : Prop := ∃ p, E[x.1]? = some p ∧ v = .pointer (some ⟨p.1, x.2, none⟩)

def AC.is (E : En) : AC → Value → Prop
  | .lit u, v => v = u
  | .ptr b o, v => PtrIs E (b, o) v
  | .sl b n c, v => ∃ p, E[b]? = some p ∧ v = .slice (some ⟨p.1, 0, none⟩) n (c.getD p.2)
  | .fn f l, v => ∃ vs, All2 (PtrIs E) l vs ∧ v = .func f #[] vs.toArray
  | .hole m r, v => ∃ p : Nat × Nat, E[0]? = some p ∧ p.1 < 256 ∧ p.1 % m = r ∧ v = .int .u8 (p.1 : Int)
def AV.is (E : En) : AV → Value → Prop
  | .c x, v => x.is E v
  | .agg l, v => ∃ vs, All2 (AC.is E) l vs ∧ v = .agg vs.toArray

def AC.one : AC → Bool
  | .lit v => v.oneCell'
  | _ => true
def AV.cells : AV → List AC
  | .c x => [x]
  | .agg l => l

def Le (E E' : En) : Prop := ∀ (i : Nat) (p : Nat × Nat), E[i]? = some p → E'[i]? = some p
theorem Le.refl (E : En) : Le E E := fun _ _ h => h
theorem Le.trans {A B C : En} (h : Le A B) (k : Le B C) : Le A C := fun i p e => k i p (h i p e)
theorem Le.snoc (E : En) (x : Nat × Nat) : Le E (E ++ [x]) := fun i p h => by
  have hi : i < E.length := (List.getElem?_eq_some_iff.1 h).1
  rw [List.getElem?_append_left hi]; exact h
theorem get_snoc (E : En) (x : Nat × Nat) : (E ++ [x])[E.length]? = some x := by simp

theorem All2.imp {α β : Type} {R S : α → β → Prop} {l : List α} {m : List β} (h : All2 R l m) (k : ∀ a b, R a b → S a b) : All2 S l m := by
  induction h with
  | nil => exact .nil
  | cons h1 _ ih => exact .cons (k _ _ h1) ih
theorem All2.get {α β : Type} {R : α → β → Prop} {l : List α} {m : List β} (h : All2 R l m) : ∀ {i : Nat} {a : α}, l[i]? = some a → ∃ b, m[i]? = some b ∧ R a b := by
  induction h with
  | nil => intro i a h; simp at h
  | cons h1 _ ih =>
    intro i a h
    cases i with
    | zero => simp at h; subst h; exact ⟨_, rfl, h1⟩
    | succ i => simp at h ⊢; exact ih h
theorem All2.append {α β : Type} {R : α → β → Prop} {l l' : List α} {m m' : List β} (h : All2 R l m) (k : All2 R l' m') : All2 R (l ++ l') (m ++ m') := by
  induction h with
  | nil => exact k
  | cons h1 _ ih => exact .cons h1 ih
theorem All2.take {α β : Type} {R : α → β → Prop} {l : List α} {m : List β} (h : All2 R l m) : ∀ n, All2 R (l.take n) (m.take n) := by
  induction h with
  | nil => intro n; simp; exact .nil
  | cons h1 _ ih => intro n; cases n with
    | zero => exact .nil
    | succ n => exact .cons h1 (ih n)
theorem All2.drop {α β : Type} {R : α → β → Prop} {l : List α} {m : List β} (h : All2 R l m) : ∀ n, All2 R (l.drop n) (m.drop n) := by
  induction h with
  | nil => intro n; simp; exact .nil
  | cons h1 h2 ih => intro n; cases n with
    | zero => exact .cons h1 h2
    | succ n => exact ih n
theorem All2.set {α β : Type} {R : α → β → Prop} {l : List α} {m : List β} (h : All2 R l m) {a : α} {b : β} (hab : R a b) : ∀ n, All2 R (l.set n a) (m.set n b) := by
  induction h with
  | nil => intro n; exact .nil
  | cons h1 h2 ih => intro n; cases n with
    | zero => exact .cons hab h2
    | succ n => exact .cons h1 (ih n)
theorem All2.replicate {α β : Type} {R : α → β → Prop} {a : α} {b : β} (h : R a b) : ∀ n, All2 R (List.replicate n a) (List.replicate n b)
  | 0 => .nil
  | n + 1 => .cons h (All2.replicate h n)

theorem PtrIs.le {E E' : En} (h : Le E E') {x : Nat × Nat} {v : Value} (k : PtrIs E x v) : PtrIs E' x v := by
  obtain ⟨p, hp, hv⟩ := k; exact ⟨p, h _ _ hp, hv⟩
theorem AC.is.le {E E' : En} (h : Le E E') {x : AC} {v : Value} (k : x.is E v) : x.is E' v := by
  cases x with
  | lit u => exact k
  | ptr b o => exact PtrIs.le h k
  | sl b n c => obtain ⟨p, hp, hv⟩ := k; exact ⟨p, h _ _ hp, hv⟩
  | fn f l => obtain ⟨vs, h1, h2⟩ := k; exact ⟨vs, h1.imp fun _ _ => PtrIs.le h, h2⟩
  | hole m r => obtain ⟨p, h1, h2⟩ := k; exact ⟨p, h _ _ h1, h2⟩
theorem AV.is.le {E E' : En} (h : Le E E') {x : AV} {v : Value} (k : x.is E v) : x.is E' v := by
  cases x with
  | c x => exact AC.is.le h k
  | agg l => obtain ⟨vs, h1, h2⟩ := k; exact ⟨vs, h1.imp fun _ _ => AC.is.le h, h2⟩
theorem AC.is.one {E : En} {x : AC} {v : Value} (k : x.is E v) (h : x.one = true) : v.oneCell' = true := by
  cases x with
  | lit u => obtain rfl : v = u := k; exact h
  | ptr b o => obtain ⟨p, _, rfl⟩ := k; rfl
  | sl b n c => obtain ⟨p, _, rfl⟩ := k; rfl
  | fn f l => obtain ⟨vs, _, rfl⟩ := k; rfl
  | hole m r => obtain ⟨p, _, _, _, rfl⟩ := k; rfl

/-- A block: its cells (with row: those ahead of its spare room; the size of a thing). -/
structure AB where
  e : TypeId
  row : Option Nat
  cs : List AC

/-- Blocks, the newest first; none: no longer to be read. -/
structure AH where
  n : Nat
  l : List (Option AB)

def AH.get (h : AH) (i : Nat) : Option AB := if Nat.blt i h.n then (h.l[h.n - 1 - i]?).join else none
def AH.push (h : AH) (b : AB) : AH := ⟨h.n + 1, some b :: h.l⟩
def AH.put (h : AH) (i : Nat) (b : Option AB) : AH := ⟨h.n, h.l.set (h.n - 1 - i) b⟩

def BlkIs (E : En) (w : World) (p : Nat × Nat) (b : AB) : Prop :=
  ∃ vs tl, All2 (AC.is E) b.cs vs ∧ w.heap[p.1]? = some (.cells (vs ++ tl).toArray b.e (0, 0)) ∧
    (match b.row with | none => tl = [] | some s => 0 < s ∧ p.2 ≤ maxLen ∧ (vs ++ tl).length = p.2 * s)

/-- What the blocks of a reading are. -/
def Rd (E : En) (look : Nat → Option AB) (w : World) : Prop := ∀ i b, look i = some b → ∃ p, E[i]? = some p ∧ BlkIs E w p b

structure Hp (w0 : World) (E : En) (h : AH) (w : World) : Prop where
  os : w.os = w0.os
  tape : w.tape = w0.tape
  output : w.output = w0.output
  size : w0.heap.size ≤ w.heap.size
  old : ∀ k, k < w0.heap.size → w.heap[k]? = w0.heap[k]?
  en : E.length = h.n
  len : h.l.length = h.n
  rd : Rd E h.get w
  low : ∀ (i : Nat) (b : AB) (p : Nat × Nat), h.get i = some b → E[i]? = some p → w0.heap.size ≤ p.1 ∧ p.1 < w.heap.size
  inj : ∀ (i j : Nat) (b c : AB) (p q : Nat × Nat), h.get i = some b → h.get j = some c → E[i]? = some p → E[j]? = some q → p.1 = q.1 → i = j

theorem Hp.start (w : World) : Hp w [] ⟨0, []⟩ w := by
  have hg : ∀ i, AH.get ⟨0, []⟩ i = none := by intro i; simp [AH.get]
  exact ⟨rfl, rfl, rfl, Nat.le_refl _, fun _ _ => rfl, rfl, rfl, fun i b h => (by rw [hg] at h; cases h), fun i b p h => (by rw [hg] at h; cases h), fun i j b c p q h => (by rw [hg] at h; cases h)⟩

theorem Hp.start1 (w : World) (n : Nat) : Hp w [(n, 0)] ⟨1, [none]⟩ w := by
  have hg : ∀ i, AH.get ⟨1, [none]⟩ i = none := by
    intro i
    unfold AH.get
    cases i with
    | zero => simp
    | succ i => simp [Nat.blt_eq]
  exact ⟨rfl, rfl, rfl, Nat.le_refl _, fun _ _ => rfl, rfl, rfl, fun i b h => (by rw [hg] at h; cases h), fun i b p h => (by rw [hg] at h; cases h), fun i j b c p q h => (by rw [hg] at h; cases h)⟩

theorem Hp.drew {w0 : World} {E : En} {h : AH} {w : World} (k : Hp w0 E h w) : Hp w0 E h w.drew :=
  ⟨k.os, k.tape, k.output, k.size, k.old, k.en, k.len, k.rd, k.low, k.inj⟩

theorem AH.get_push (h : AH) (hl : h.l.length = h.n) (b : AB) (i : Nat) : (h.push b).get i = if i = h.n then some b else h.get i := by
  unfold AH.get AH.push
  simp only [Nat.blt_eq]
  by_cases hi : i = h.n
  · subst hi; simp
  · rw [if_neg hi]
    by_cases hlt : i < h.n
    · rw [if_pos (by omega), if_pos hlt]
      rw [show h.n + 1 - 1 - i = (h.n - 1 - i) + 1 by omega]
      simp
    · rw [if_neg (by omega), if_neg hlt]
theorem AH.get_put (h : AH) (hl : h.l.length = h.n) (j : Nat) (hj : j < h.n) (b : Option AB) (i : Nat) : (h.put j b).get i = if i = j then b else h.get i := by
  unfold AH.get AH.put
  simp only [Nat.blt_eq]
  by_cases hi : i = j
  · subst hi
    rw [if_pos hj, if_pos rfl, List.getElem?_set_self (by omega)]
    simp
  · rw [if_neg hi]
    by_cases hlt : i < h.n
    · rw [if_pos hlt, if_pos hlt, List.getElem?_set_ne (by omega)]
    · rw [if_neg hlt, if_neg hlt]
theorem AH.get_lt {h : AH} {i : Nat} {b : AB} (k : h.get i = some b) : i < h.n := by
  unfold AH.get at k
  by_cases hlt : i < h.n
  · exact hlt
  · simp [Nat.blt_eq, hlt] at k

theorem BlkIs.keep {E E' : En} {w w' : World} {p : Nat × Nat} {b : AB} (h : BlkIs E w p b) (hE : Le E E') (hw : w'.heap[p.1]? = w.heap[p.1]?) : BlkIs E' w' p b := by
  obtain ⟨vs, tl, h1, h2, h3⟩ := h
  exact ⟨vs, tl, h1.imp fun _ _ => AC.is.le hE, hw.trans h2, h3⟩

/-- A new block. -/
theorem Hp.push {w0 : World} {E : En} {h : AH} {w : World} (k : Hp w0 E h w) {b : AB} {vs : List Value} (cap : Nat) (hb : All2 (AC.is E) b.cs vs) (hr : b.row = none) :
    Hp w0 (E ++ [(w.heap.size, cap)]) (h.push b) (w.alloc (.cells vs.toArray b.e)) := by
  have hg := AH.get_push h k.len b
  have hE : Le E (E ++ [(w.heap.size, cap)]) := Le.snoc _ _
  refine ⟨k.os, k.tape, k.output, by simp; have := k.size; omega, fun j hj => (alloc_old w _ j (Nat.lt_of_lt_of_le hj k.size)).trans (k.old j hj), by simp [AH.push, k.en], by simp [AH.push, k.len], ?_, ?_, ?_⟩
  · intro i c hc
    rw [hg] at hc
    by_cases hi : i = h.n
    · rw [if_pos hi] at hc
      cases hc
      refine ⟨(w.heap.size, cap), by rw [hi, ← k.en]; exact get_snoc _ _, vs, [], hb.imp fun _ _ => AC.is.le hE, ?_, by rw [hr]⟩
      rw [List.append_nil]; exact heap_alloc_new w _
    · rw [if_neg hi] at hc
      obtain ⟨p, hp, hB⟩ := k.rd i c hc
      exact ⟨p, hE _ _ hp, hB.keep hE (alloc_old w _ _ (k.low i c p hc hp).2)⟩
  · intro i c p hc hp
    rw [hg] at hc
    by_cases hi : i = h.n
    · rw [hi, ← k.en, get_snoc] at hp; cases hp; exact ⟨k.size, by simp⟩
    · rw [if_neg hi] at hc
      have hlt : i < E.length := by rw [k.en]; exact AH.get_lt hc
      rw [List.getElem?_append_left hlt] at hp
      have := k.low i c p hc hp
      exact ⟨this.1, by simp; omega⟩
  · intro i j c d p q hc hd hp hq he
    rw [hg] at hc hd
    by_cases hi : i = h.n
    · by_cases hj : j = h.n
      · rw [hi, hj]
      · rw [hi, ← k.en, get_snoc] at hp; cases hp
        rw [if_neg hj] at hd
        have hlt : j < E.length := by rw [k.en]; exact AH.get_lt hd
        rw [List.getElem?_append_left hlt] at hq
        have := (k.low j d q hd hq).2
        simp only at he; omega
    · rw [if_neg hi] at hc
      have hlt : i < E.length := by rw [k.en]; exact AH.get_lt hc
      rw [List.getElem?_append_left hlt] at hp
      by_cases hj : j = h.n
      · rw [hj, ← k.en, get_snoc] at hq; cases hq
        have := (k.low i c p hc hp).2
        simp only at he; omega
      · rw [if_neg hj] at hd
        have hlt' : j < E.length := by rw [k.en]; exact AH.get_lt hd
        rw [List.getElem?_append_left hlt'] at hq
        exact k.inj i j c d p q hc hd hp hq he

/-- A block that is written. -/
theorem Hp.write {w0 : World} {E : En} {h : AH} {w : World} (k : Hp w0 E h w) {j : Nat} {b b' : AB} {p : Nat × Nat} (hj : h.get j = some b) (hp : E[j]? = some p) {w' : World} (hos : w'.os = w.os) (htp : w'.tape = w.tape)
    (hou : w'.output = w.output) (hsz : w'.heap.size = w.heap.size) (hot : ∀ i, i ≠ p.1 → w'.heap[i]? = w.heap[i]?) (hB : BlkIs E w' p b') : Hp w0 E (h.put j (some b')) w' := by
  have hjn := AH.get_lt hj
  have hg := AH.get_put h k.len j hjn (some b')
  have hpl := k.low j b p hj hp
  refine ⟨hos.trans k.os, htp.trans k.tape, hou.trans k.output, by rw [hsz]; exact k.size, fun i hi => (hot i (by omega)).trans (k.old i hi), k.en, by simp [AH.put, k.len], ?_, ?_, ?_⟩
  · intro i c hc
    rw [hg] at hc
    by_cases hi : i = j
    · rw [if_pos hi] at hc; cases hc; subst hi; exact ⟨p, hp, hB⟩
    · rw [if_neg hi] at hc
      obtain ⟨q, hq, hC⟩ := k.rd i c hc
      exact ⟨q, hq, hC.keep (Le.refl _) (hot _ fun e => hi (k.inj i j c b q p hc hj hq hp e))⟩
  · intro i c q hc hq
    rw [hg] at hc
    rw [hsz]
    by_cases hi : i = j
    · subst hi; rw [hp] at hq; cases hq; exact hpl
    · rw [if_neg hi] at hc; exact k.low i c q hc hq
  · intro i i' c d q r hc hd hq hr he
    rw [hg] at hc hd
    have look : ∀ x y, (if x = j then some b' else h.get x) = some y → ∃ z, h.get x = some z := by
      intro x y hx
      by_cases hxj : x = j
      · exact ⟨b, by rw [hxj]; exact hj⟩
      · rw [if_neg hxj] at hx; exact ⟨y, hx⟩
    obtain ⟨z, hz⟩ := look i c hc
    obtain ⟨z', hz'⟩ := look i' d hd
    exact k.inj i i' z z' q r hz hz' hq hr he

end Go.Kx
