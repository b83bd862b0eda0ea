/- Library texts Val Enc Buf, joined. -/
import Derived.Test.YthcpchmmpnakaaaGreatDoorKxOps
import Derived.MapKept
import Derived.Lib.AppendStr
import Derived.Maps.AppendAt
/- What is kept of a message in memory: kinds, values, and how the cells of a variable say a value. -/
namespace Go.Kx
open Go.RowKit
set_option linter.unusedSimpArgs false

/-- A block of cells that are not frozen. -/
def Blk (w : World) (g : Nat) (t : TypeId) (cs : List Value) : Prop := w.heap[g]? = some (.cells cs.toArray t (0, 0))

theorem Blk.lt {w : World} {g : Nat} {t : TypeId} {cs : List Value} (h : Blk w g t cs) : g < w.heap.size := by
  unfold Blk at h
  rcases Nat.lt_or_ge g w.heap.size with hlt | hge
  · exact hlt
  · rw [Array.getElem?_eq_none hge] at h; cases h
theorem Blk.cell {w : World} {g : Nat} {t : TypeId} {cs : List Value} (h : Blk w g t cs) (i : Nat) : w.cell? ⟨g, i, none⟩ = cs[i]? := by
  simp [World.cell?, show w.heap[g]? = _ from h]
theorem Blk.free {w : World} {g : Nat} {t : TypeId} {cs : List Value} (h : Blk w g t cs) (i : Nat) : w.frozen? ⟨g, i, none⟩ = false := by
  simp [World.frozen?, show w.heap[g]? = _ from h]
theorem Blk.keep {w w' : World} {g : Nat} {t : TypeId} {cs : List Value} (h : Blk w g t cs) (hk : w'.heap[g]? = w.heap[g]?) : Blk w' g t cs := by
  unfold Blk at h ⊢; rw [hk]; exact h
theorem Blk.set {w : World} {g : Nat} {t : TypeId} {cs : List Value} (h : Blk w g t cs) (i : Nat) (v : Value) : Blk (w.setCell ⟨g, i, none⟩ v) g t (cs.set i v) := by
  unfold Blk at h ⊢
  simp [World.setCell, Array.getElem?_modify, h]
theorem setCell_other (w : World) (a : Addr) (v : Value) (k : Nat) (h : k ≠ a.block) : (w.setCell a v).heap[k]? = w.heap[k]? := Below.heap_setCell w a v k h
theorem Blk.new (w : World) (t : TypeId) (cs : List Value) : Blk (w.alloc (.cells cs.toArray t)) w.heap.size t cs := heap_alloc_new w _
theorem alloc_old (w : World) (o : Obj) (k : Nat) (h : k < w.heap.size) : (w.alloc o).heap[k]? = w.heap[k]? := Below.heap_alloc w o k h

/-- Of the world nothing has turned but blocks that S names, and new ones. -/
structure Ch (S : Nat → Prop) (w w' : World) : Prop where
  os : w'.os = w.os
  tape : w'.tape = w.tape
  output : w'.output = w.output
  size : w.heap.size ≤ w'.heap.size
  block : ∀ k, k < w.heap.size → ¬ S k → w'.heap[k]? = w.heap[k]?

theorem Ch.refl (S : Nat → Prop) (w : World) : Ch S w w := ⟨rfl, rfl, rfl, Nat.le_refl _, fun _ _ _ => rfl⟩
theorem Ch.trans {S T : Nat → Prop} {a b c : World} (h : Ch S a b) (k : Ch T b c) (hT : ∀ i, i < a.heap.size → T i → S i) : Ch S a c :=
  ⟨k.os.trans h.os, k.tape.trans h.tape, k.output.trans h.output, Nat.le_trans h.size k.size,
    fun i hi hs => (k.block i (Nat.lt_of_lt_of_le hi h.size) (fun ht => hs (hT i hi ht))).trans (h.block i hi hs)⟩
theorem Ch.trans' {S : Nat → Prop} {a b c : World} (h : Ch S a b) (k : Ch S b c) : Ch S a c := h.trans k fun _ _ h => h
theorem Ch.mono {S T : Nat → Prop} {w w' : World} (h : Ch S w w') (hT : ∀ i, i < w.heap.size → S i → T i) : Ch T w w' :=
  ⟨h.os, h.tape, h.output, h.size, fun i hi hs => h.block i hi fun hS => hs (hT i hi hS)⟩
theorem Ch.drew (S : Nat → Prop) (w : World) : Ch S w w.drew := ⟨rfl, rfl, rfl, Nat.le_refl _, fun _ _ _ => rfl⟩
theorem Ch.alloc (S : Nat → Prop) (w : World) (o : Obj) : Ch S w (w.alloc o) := ⟨rfl, rfl, rfl, by simp, fun k hk _ => alloc_old w o k hk⟩
theorem Ch.set {S : Nat → Prop} (w : World) {a : Addr} (h : S a.block) (v : Value) : Ch S w (w.setCell a v) :=
  ⟨rfl, rfl, rfl, by simp [World.setCell], fun k _ hk => setCell_other w a v k (fun e => hk (e ▸ h))⟩
theorem Ch.of_grown {w w' : World} {row : Option Nat} (h : w.grownBy w' row) {S : Nat → Prop} (hS : ∀ k, row = some k → S k) : Ch S w w' :=
  ⟨h.os, h.tape, h.output, h.size, fun k hk hs => h.block k hk fun e => hs (hS k e.symm)⟩
theorem Ch.below {B : Nat} {S : Nat → Prop} {w w' : World} (h : Ch S w w') (hB : B ≤ w.heap.size) (hS : ∀ k, k < B → ¬ S k) : Below B w w' :=
  ⟨h.os, h.tape, h.output, h.size, fun k hk => h.block k (Nat.lt_of_lt_of_le hk hB) (hS k hk)⟩
theorem Ch.of_below {B : Nat} {w w' : World} (h : Below B w w') : Ch (fun k => B ≤ k) w w' := ⟨h.os, h.tape, h.output, h.size, fun k _ hs => h.block k (by omega)⟩

/-- The kinds of what a message holds; a struct is its fields, one behind the other. -/
inductive Ty where
  | bool | int (k : IntKind) | f64 | str | nstr | bytes | uuid
  | arr (e : Ty) | nil | cons (h t : Ty) | nst (e : Ty) | tags
  deriving DecidableEq

/-- Values of these kinds. -/
inductive V where
  | b (x : Bool) | i (n : Int) | f (bits : Nat) | s (x : List UInt8) | nsN | ns (x : List UInt8) | byN | by_ (x : List UInt8) | u (x : List UInt8)
  | arrN | arr (l : List V) | st (l : List V) | nstN | nst (v : V) | tags (l : List (Nat × List UInt8))

def Ty.size : Ty → Nat
  | .uuid => 16
  | .nil => 0
  | .cons h t => h.size + t.size
  | _ => 1

def bv (b : UInt8) : Value := .int .u8 b.toNat
def strV (l : List UInt8) : Value := .string ⟨l.toArray⟩

/-- Cells from a place on. -/
def At (w : World) (g o : Nat) (cs : List Value) : Prop := ∀ i u, cs[i]? = some u → w.cell? ⟨g, o + i, none⟩ = some u
/-- Octets from an address on. -/
def Oct (w : World) (a : Addr) (l : List UInt8) : Prop := ∀ i u, l[i]? = some u → w.cell? (a.add i) = some (bv u)

/-- Two lists, place by place. -/
inductive All2 {α β : Type} (R : α → β → Prop) : List α → List β → Prop
  | nil : All2 R [] []
  | cons {a : α} {b : β} {l : List α} {m : List β} : R a b → All2 R l m → All2 R (a :: l) (b :: m)

/-- Entries of a map from numbers of 32 bits to octets: the entries' order is the map's own. -/
def TagAt (w : World) (S : Nat → Prop) (e : MapEntry) (x : Nat × List UInt8) : Prop :=
  e.key = .int .u32 x.1 ∧ x.1 < 4294967296 ∧ ((e.val = .slice none 0 0 ∧ x.2 = []) ∨ ∃ a c, e.val = .slice (some a) x.2.length c ∧ x.2.length ≤ c ∧ S a.block ∧ Oct w a x.2)

/-- The cells cs say the value v of kind t in world w; what they lead to lies in blocks of S. -/
def Rep (w : World) (S : Nat → Prop) : Ty → V → List Value → Prop
  | .bool, .b x, cs => cs = [.bool x]
  | .int k, .i n, cs => cs = [.int k n] ∧ k.wrap n = n
  | .f64, .f n, cs => cs = [.float .f64 n] ∧ n < 18446744073709551616
  | .str, .s x, cs => cs = [strV x]
  | .nstr, .nsN, cs => cs = [.pointer none]
  | .nstr, .ns x, cs => ∃ g, cs = [.pointer (some ⟨g, 0, none⟩)] ∧ S g ∧ w.cell? ⟨g, 0, none⟩ = some (strV x)
  | .bytes, .byN, cs => cs = [.slice none 0 0]
  | .bytes, .by_ x, cs => ∃ a c, cs = [.slice (some a) x.length c] ∧ x.length ≤ c ∧ S a.block ∧ Oct w a x
  | .uuid, .u x, cs => x.length = 16 ∧ cs = x.map bv
  | .arr _, .arrN, cs => cs = [.slice none 0 0]
  | .arr e, .arr l, cs => ∃ g c, cs = [.slice (some ⟨g, 0, none⟩) l.length c] ∧ (l.length ≤ c ∧ c ≤ 9223372036854775807) ∧ S g ∧ ∀ i v, l[i]? = some v → ∃ ci, Rep w S e v ci ∧ ci.length = e.size ∧ At w g (i * e.size) ci
  | .nil, .st l, cs => l = [] ∧ cs = []
  | .cons h t, .st l, cs => ∃ v vs c1 c2, l = v :: vs ∧ cs = c1 ++ c2 ∧ c1.length = h.size ∧ Rep w S h v c1 ∧ Rep w S t (.st vs) c2
  | .nst _, .nstN, cs => cs = [.pointer none]
  | .nst e, .nst v, cs => ∃ g ci, cs = [.pointer (some ⟨g, 0, none⟩)] ∧ S g ∧ Rep w S e v ci ∧ ci.length = e.size ∧ At w g 0 ci
  | .tags, .tags l, cs => (cs = [.map none] ∧ l = []) ∨ ∃ r es clk, cs = [.map (some r)] ∧ S r ∧ w.heap[r]? = some (.map es clk) ∧ ((l.map (·.1)).Nodup ∧ MapKept.Stamped es clk) ∧ All2 (TagAt w S) es.toList l
  | _, _, _ => False

theorem Rep.size {w : World} {S : Nat → Prop} {t : Ty} : ∀ {v : V} {cs : List Value}, Rep w S t v cs → cs.length = t.size := by
  induction t with
  | nil => intro v cs h; cases v <;> simp only [Rep] at h; rw [h.2]; rfl
  | cons h t ih1 ih2 =>
    intro v cs hr
    cases v <;> simp only [Rep] at hr
    obtain ⟨_, _, c1, c2, _, rfl, h1, h2, h3⟩ := hr
    rw [List.length_append, h1, ih2 h3]; rfl
  | uuid => intro v cs h; cases v <;> simp only [Rep] at h; rw [h.2, List.length_map, h.1]; rfl
  | bool => intro v cs h; cases v <;> simp only [Rep] at h; rw [h]; rfl
  | int k => intro v cs h; cases v <;> simp only [Rep] at h; rw [h.1]; rfl
  | f64 => intro v cs h; cases v <;> simp only [Rep] at h; rw [h.1]; rfl
  | str => intro v cs h; cases v <;> simp only [Rep] at h; rw [h]; rfl
  | nstr =>
    intro v cs h
    cases v <;> simp only [Rep] at h
    · rw [h]; rfl
    · obtain ⟨g, rfl, _⟩ := h; rfl
  | bytes =>
    intro v cs h
    cases v <;> simp only [Rep] at h
    · rw [h]; rfl
    · obtain ⟨a, c, rfl, _⟩ := h; rfl
  | arr e ih =>
    intro v cs h
    cases v <;> simp only [Rep] at h
    · rw [h]; rfl
    · obtain ⟨a, c, rfl, _⟩ := h; rfl
  | nst e ih =>
    intro v cs h
    cases v <;> simp only [Rep] at h
    · rw [h]; rfl
    · obtain ⟨g, ci, rfl, _⟩ := h; rfl
  | tags =>
    intro v cs h
    cases v <;> simp only [Rep] at h
    rcases h with ⟨rfl, _⟩ | ⟨r, es, clk, rfl, _⟩ <;> rfl

theorem block_add (a : Addr) (n : Nat) : (a.add n).block = a.block := by unfold Addr.add; split <;> rfl
theorem add_add (a : Addr) (i j : Nat) : (a.add i).add j = a.add (i + j) := by
  unfold Addr.add
  by_cases hi : i = 0 <;> by_cases hj : j = 0 <;> simp [hi, hj, Nat.add_assoc]
theorem add_lit (g o n : Nat) : (⟨g, o, none⟩ : Addr).add n = ⟨g, o + n, none⟩ := by
  unfold Addr.add
  split
  · rename_i h; rw [h]; rfl
  · rfl

theorem Oct.keep {w w' : World} {a : Addr} {l : List UInt8} (h : Oct w a l) (hk : w'.heap[a.block]? = w.heap[a.block]?) : Oct w' a l :=
  fun i u hu => (World.cell?_of_block (by rw [block_add]; exact hk)).trans (h i u hu)
theorem At.keep {w w' : World} {g o : Nat} {cs : List Value} (h : At w g o cs) (hk : w'.heap[g]? = w.heap[g]?) : At w' g o cs :=
  fun i u hu => (World.cell?_of_block (w := w) (w' := w') (a := ⟨g, o + i, none⟩) hk).trans (h i u hu)

theorem TagAt.keep {w w' : World} {S : Nat → Prop} {e : MapEntry} {x : Nat × List UInt8} (h : TagAt w S e x) (hk : ∀ k, S k → w'.heap[k]? = w.heap[k]?) : TagAt w' S e x := by
  obtain ⟨h1, h2, h3⟩ := h
  refine ⟨h1, h2, ?_⟩
  rcases h3 with h3 | ⟨a, c, e1, e2, e3, e4⟩
  · exact .inl h3
  · exact .inr ⟨a, c, e1, e2, e3, e4.keep (hk _ e3)⟩
theorem TagAt.mono {w : World} {S S' : Nat → Prop} {e : MapEntry} {x : Nat × List UInt8} (h : TagAt w S e x) (hk : ∀ k, S k → S' k) : TagAt w S' e x := by
  obtain ⟨h1, h2, h3⟩ := h
  refine ⟨h1, h2, ?_⟩
  rcases h3 with h3 | ⟨a, c, e1, e2, e3, e4⟩
  · exact .inl h3
  · exact .inr ⟨a, c, e1, e2, hk _ e3, e4⟩

theorem forall2_imp {α β : Type} {R R' : α → β → Prop} (hi : ∀ a b, R a b → R' a b) : ∀ {l : List α} {m : List β}, All2 R l m → All2 R' l m
  | _, _, .nil => .nil
  | _, _, .cons h t => .cons (hi _ _ h) (forall2_imp hi t)

theorem Rep.keepMono {w w' : World} {S S' : Nat → Prop} (hk : ∀ k, S k → w'.heap[k]? = w.heap[k]?) (hs : ∀ k, S k → S' k) {t : Ty} : ∀ {v : V} {cs : List Value}, Rep w S t v cs → Rep w' S' t v cs := by
  induction t with
  | nil => intro v cs h; cases v <;> simp only [Rep] at h ⊢; exact h
  | cons h t ih1 ih2 =>
    intro v cs hr
    cases v <;> simp only [Rep] at hr ⊢
    obtain ⟨v, vs, c1, c2, e1, e2, e3, h1, h2⟩ := hr
    exact ⟨v, vs, c1, c2, e1, e2, e3, ih1 h1, ih2 h2⟩
  | uuid => intro v cs h; cases v <;> simp only [Rep] at h ⊢; exact h
  | bool => intro v cs h; cases v <;> simp only [Rep] at h ⊢; exact h
  | int k => intro v cs h; cases v <;> simp only [Rep] at h ⊢; exact h
  | f64 => intro v cs h; cases v <;> simp only [Rep] at h ⊢; exact h
  | str => intro v cs h; cases v <;> simp only [Rep] at h ⊢; exact h
  | nstr =>
    intro v cs h
    cases v <;> simp only [Rep] at h ⊢
    · exact h
    · obtain ⟨g, e, hg, hc⟩ := h
      exact ⟨g, e, hs g hg, (World.cell?_of_block (w := w) (w' := w') (a := ⟨g, 0, none⟩) (hk g hg)).trans hc⟩
  | bytes =>
    intro v cs h
    cases v <;> simp only [Rep] at h ⊢
    · exact h
    · obtain ⟨a, c, e, hl, hb, ho⟩ := h
      exact ⟨a, c, e, hl, hs _ hb, ho.keep (hk _ hb)⟩
  | arr e ih =>
    intro v cs h
    cases v <;> simp only [Rep] at h ⊢
    · exact h
    · obtain ⟨g, c, e1, hl, hg, hall⟩ := h
      refine ⟨g, c, e1, hl, hs g hg, fun i v hv => ?_⟩
      obtain ⟨ci, hr, hn, ha⟩ := hall i v hv
      exact ⟨ci, ih hr, hn, ha.keep (hk g hg)⟩
  | nst e ih =>
    intro v cs h
    cases v <;> simp only [Rep] at h ⊢
    · exact h
    · obtain ⟨g, ci, e1, hg, hr, hn, ha⟩ := h
      exact ⟨g, ci, e1, hs g hg, ih hr, hn, ha.keep (hk g hg)⟩
  | tags =>
    intro v cs h
    cases v <;> simp only [Rep] at h ⊢
    rcases h with h | ⟨r, es, clk, e1, hr, hh, hnd, hf⟩
    · exact .inl h
    · exact .inr ⟨r, es, clk, e1, hs r hr, (hk r hr).trans hh, hnd, forall2_imp (fun _ _ h => (h.keep hk).mono hs) hf⟩

theorem Rep.keep {w w' : World} {S : Nat → Prop} (hk : ∀ k, S k → w'.heap[k]? = w.heap[k]?) {t : Ty} {v : V} {cs : List Value} (h : Rep w S t v cs) : Rep w' S t v cs := h.keepMono hk fun _ h => h
theorem Rep.mono {w : World} {S S' : Nat → Prop} (hs : ∀ k, S k → S' k) {t : Ty} {v : V} {cs : List Value} (h : Rep w S t v cs) : Rep w S' t v cs := h.keepMono (fun _ _ => rfl) hs

/-- The k-th field of a struct: its kind, and how many cells stand ahead of it. -/
def Ty.fld : Ty → Nat → Option (Ty × Nat)
  | .cons h _, 0 => some (h, 0)
  | .cons h t, k + 1 => (t.fld k).map fun x => (x.1, h.size + x.2)
  | _, _ => none
def V.fld : V → Nat → V
  | .st l, k => l.getD k .nstN
  | _, _ => .nstN

theorem Rep.fld {w : World} {S : Nat → Prop} {t : Ty} : ∀ {v : V} {cs : List Value} {k : Nat} {f : Ty} {o : Nat}, Rep w S t v cs → t.fld k = some (f, o) →
    ∃ c, Rep w S f (v.fld k) c ∧ c.length = f.size ∧ c = (cs.drop o).take f.size ∧ o + f.size ≤ cs.length := by
  induction t with
  | cons h t ih1 ih2 =>
    intro v cs k f o hr hf
    cases v <;> simp only [Rep] at hr
    obtain ⟨v, vs, c1, c2, rfl, rfl, e3, h1, h2⟩ := hr
    cases k with
    | zero =>
      simp only [Ty.fld, Option.some.injEq, Prod.mk.injEq] at hf
      obtain ⟨rfl, rfl⟩ := hf
      refine ⟨c1, by simpa [V.fld] using h1, e3, by simp [← e3], by simp [e3]⟩
    | succ k =>
      simp only [Ty.fld, Option.map_eq_some_iff, Prod.exists, Prod.mk.injEq] at hf
      obtain ⟨f', o', hf', rfl, rfl⟩ := hf
      obtain ⟨c, hc1, hc2, hc3, hc4⟩ := ih2 h2 hf'
      refine ⟨c, by simpa [V.fld] using hc1, hc2, ?_, by simp; omega⟩
      rw [hc3, ← e3, ← List.drop_drop]
      simp
  | _ => intro v cs k f o _ hf; cases k <;> simp [Ty.fld] at hf

theorem At.sub {w : World} {g o : Nat} {cs : List Value} (h : At w g o cs) (p n : Nat) : At w g (o + p) ((cs.drop p).take n) := by
  intro i u hu
  rw [List.getElem?_take] at hu
  split at hu
  · rw [List.getElem?_drop] at hu
    have := h (p + i) u hu
    rwa [← Nat.add_assoc] at this
  · cases hu

/-- A variable of a kind at a place: what it says. -/
def Is (w : World) (S : Nat → Prop) (g o : Nat) (t : Ty) (v : V) : Prop := ∃ cs, Rep w S t v cs ∧ At w g o cs

theorem Is.fld {w : World} {S : Nat → Prop} {g o : Nat} {t f : Ty} {v : V} {k p : Nat} (h : Is w S g o t v) (hf : t.fld k = some (f, p)) : Is w S g (o + p) f (v.fld k) := by
  obtain ⟨cs, hr, ha⟩ := h
  obtain ⟨c, h1, h2, h3, h4⟩ := hr.fld hf
  exact ⟨c, h1, by rw [h3]; exact ha.sub p _⟩
theorem Is.keep {w w' : World} {S : Nat → Prop} {g o : Nat} {t : Ty} {v : V} (h : Is w S g o t v) (hk : ∀ k, S k → w'.heap[k]? = w.heap[k]?) (hg : S g) : Is w' S g o t v := by
  obtain ⟨cs, hr, ha⟩ := h
  exact ⟨cs, hr.keep hk, ha.keep (hk g hg)⟩

end Go.Kx

/- Messages as octets: the kinds of what is written, the fields of a part, and how values of them are written. Plain functions. -/
namespace Go.Kx
set_option linter.unusedSimpArgs false
set_option linter.unusedVariables false

/-- The octet of a number at a place (0: the lowest one). -/
def byteAt (n : Int) (i : Nat) : UInt8 := UInt8.ofNat ((n / (256 ^ i : Nat)) % 256).toNat
/-- A number in k octets, the highest one first. -/
def be : Nat → Int → List UInt8
  | 0, _ => []
  | k + 1, n => byteAt n k :: be k n

theorem be_length (k : Nat) (n : Int) : (be k n).length = k := by
  induction k with
  | zero => rfl
  | succ k ih => simp [be, ih]

/-- A number in groups of seven bits, the lowest one first. -/
def uvar (n : Nat) : List UInt8 := if n < 128 then [UInt8.ofNat n] else UInt8.ofNat (n % 128 + 128) :: uvar (n / 128)
termination_by n
decreasing_by omega

theorem uvar_small {n : Nat} (h : n < 128) : uvar n = [UInt8.ofNat n] := by rw [uvar, if_pos h]
theorem uvar_big {n : Nat} (h : ¬ n < 128) : uvar n = UInt8.ofNat (n % 128 + 128) :: uvar (n / 128) := by rw [uvar, if_neg h]

/-- Kinds of values as they are written. -/
inductive Wt where
  | bool | i8 | i16 | u16 | i32 | i64 | f64 | uuid | e8 | str | nstr | byt | nbyt
  deriving DecidableEq

def Wt.ty : Wt → Ty
  | .bool => .bool | .i8 => .int .i8 | .e8 => .int .i8 | .i16 => .int .i16 | .u16 => .int .u16 | .i32 => .int .i32 | .i64 => .int .i64
  | .f64 => .f64 | .uuid => .uuid | .str => .str | .nstr => .nstr | .byt => .bytes | .nbyt => .bytes

/-- Which versions have a field. -/
inductive Vc where
  | all | ge (n : Int) | rng (lo hi : Int)
  deriving DecidableEq

def Vc.ok : Vc → Int → Bool
  | .all, _ => true
  | .ge n, v => decide (v ≥ n)
  | .rng lo hi, v => decide (v ≥ lo) && decide (v ≤ hi)

/-- The fields of a part, in the order in which they are written. k: the field's place in the struct. nul: whether a list may be null, and from which version on. d: what a new thing of a list, or a new part, is. -/
inductive Sch where
  | nil
  | val (c : Vc) (k : Nat) (w : Wt) (r : Sch)
  | arrV (c : Vc) (k : Nat) (nul : Option Int) (w : Wt) (r : Sch)
  | arrS (c : Vc) (k : Nat) (nul : Option Int) (d : V) (e : Sch) (r : Sch)
  | opt (c : Vc) (k : Nat) (d : V) (e : Sch) (r : Sch)
  | tags (k : Nat) (r : Sch)

def word (n : Nat) : Nat := n % 4294967296

def encStr (fx : Bool) (l : List UInt8) : List UInt8 := if fx then uvar (word (l.length + 1)) ++ l else be 2 l.length ++ l
def encByt (fx : Bool) (l : List UInt8) : List UInt8 := if fx then uvar (word (l.length + 1)) ++ l else be 4 l.length ++ l

def encW (fx : Bool) : Wt → V → List UInt8
  | .bool, .b x => [if x then 1 else 0]
  | .i8, .i n => be 1 n
  | .e8, .i n => be 1 n
  | .i16, .i n => be 2 n
  | .u16, .i n => be 2 n
  | .i32, .i n => be 4 n
  | .i64, .i n => be 8 n
  | .f64, .f n => be 8 n
  | .uuid, .u l => l
  | .str, .s l => encStr fx l
  | .nstr, .nsN => if fx then uvar 0 else be 2 (-1)
  | .nstr, .ns l => encStr fx l
  | .byt, .byN => encByt fx []
  | .byt, .by_ l => encByt fx l
  | .nbyt, .byN => if fx then uvar 0 else be 4 (-1)
  | .nbyt, .by_ l => encByt fx l
  | _, _ => []

def V.elems : V → List V
  | .arr l => l
  | _ => []
def V.isNil : V → Bool
  | .arrN => true
  | _ => false

def encLen (fx nul : Bool) (v : V) : List UInt8 :=
  if nul && v.isNil then (if fx then uvar 0 else be 4 (-1))
  else if fx then uvar (word (v.elems.length + 1)) else be 4 v.elems.length

/-- Tags by rising numbers. -/
def insTag (x : Nat × List UInt8) : List (Nat × List UInt8) → List (Nat × List UInt8)
  | [] => [x]
  | y :: l => if x.1 < y.1 then x :: y :: l else y :: insTag x l
def sortTags : List (Nat × List UInt8) → List (Nat × List UInt8)
  | [] => []
  | x :: l => insTag x (sortTags l)

def encTag (x : Nat × List UInt8) : List UInt8 := uvar x.1 ++ uvar (word x.2.length) ++ x.2
def encEach (l : List (Nat × List UInt8)) : List UInt8 := (sortTags l).flatMap encTag
def V.tagsOf : V → List (Nat × List UInt8)
  | .tags l => l
  | _ => []
def encTags (v : V) : List UInt8 := uvar (word v.tagsOf.length) ++ encEach v.tagsOf

def enc (ver : Int) (fx : Bool) : Sch → V → List UInt8
  | .nil, _ => []
  | .val c k w r, v => (if c.ok ver then encW fx w (v.fld k) else []) ++ enc ver fx r v
  | .arrV c k nul w r, v => (if c.ok ver then encLen fx nul.isSome (v.fld k) ++ (v.fld k).elems.flatMap (encW fx w) else []) ++ enc ver fx r v
  | .arrS c k nul _ e r, v => (if c.ok ver then encLen fx nul.isSome (v.fld k) ++ (v.fld k).elems.flatMap (enc ver fx e) else []) ++ enc ver fx r v
  | .opt c k _ e r, v => (if c.ok ver then (match v.fld k with | .nst x => 1 :: enc ver fx e x | _ => [255]) else []) ++ enc ver fx r v
  | .tags k r, v => (if fx then encTags (v.fld k) else []) ++ enc ver fx r v

/-- No part of a message has tags. -/
def noTags : Sch → V → Prop
  | .nil, _ => True
  | .val _ _ _ r, v => noTags r v
  | .arrV _ _ _ _ r, v => noTags r v
  | .arrS _ k _ _ e r, v => (∀ (i : Nat) (u : V), (v.fld k).elems[i]? = some u → noTags e u) ∧ noTags r v
  | .opt _ k _ e r, v => (∀ u : V, v.fld k = .nst u → noTags e u) ∧ noTags r v
  | .tags k r, v => (v.fld k).tagsOf = [] ∧ noTags r v

end Go.Kx

/- A slice of octets that grows: what it holds, and what appending to it leaves. -/
namespace Go.Kx
open Go.RowKit
set_option linter.unusedSimpArgs false
set_option linter.unusedVariables false

/-- No slice of octets comes to more than this. -/
def Lim : Nat := 140737488355328

def Own (e : TypeId) (w : World) (v : Value) (bs : List UInt8) : Prop := w.ownsRow 0 e 1 v bs.length (bs.map bv)

/-- From w, where v is the slice, to w', where v' holds bs: nothing else that was there has turned. -/
structure Grew (e : TypeId) (w : World) (v : Value) (w' : World) (v' : Value) (bs : List UInt8) : Prop where
  own : Own e w' v' bs
  ch : Ch (fun k => v.ownBlock = some k) w w'
  blk : ∀ k, v'.ownBlock = some k → v.ownBlock = some k ∨ w.heap.size ≤ k

theorem Own.nil (e : TypeId) (w : World) : Own e w (.slice none 0 0) [] := World.ownsRow_nil w 0 e 1

theorem Own.lt {e : TypeId} {w : World} {v : Value} {bs : List UInt8} (h : Own e w v bs) {k : Nat} (hk : v.ownBlock = some k) : k < w.heap.size :=
  (World.ownsRow.lt h k hk).2

theorem Own.keep {e : TypeId} {w w' : World} {v : Value} {bs : List UInt8} (h : Own e w v bs) (hk : ∀ k, v.ownBlock = some k → w'.heap[k]? = w.heap[k]?) : Own e w' v bs := by
  refine ⟨h.1, ?_⟩
  rcases h.2 with hn | ⟨g, cap, cur, rfl, hb, hg, rest⟩
  · exact .inl hn
  · exact .inr ⟨g, cap, cur, rfl, hb, (hk g rfl).trans hg, rest⟩

theorem Own.len {e : TypeId} {w : World} {v : Value} {bs : List UInt8} (h : Own e w v bs) : ∃ a c, v = .slice a bs.length c ∧ bs.length ≤ c ∧ ∀ a', a = some a' → Oct w a' bs := by
  rcases h.2 with ⟨rfl, hn⟩ | ⟨g, cap, cur, rfl, hb, hg, hnc, hm, hs, ht⟩
  · exact ⟨none, 0, by rw [hn], by rw [hn]; exact Nat.le_refl _, fun _ h => by cases h⟩
  · refine ⟨some ⟨g, 0, none⟩, cap, rfl, hnc, fun a' ha i u hu => ?_⟩
    cases ha
    exact World.ownsRow.cells h (g := g) rfl i (bv u) (by simp [hu])

theorem Grew.refl {e : TypeId} {w : World} {v : Value} {bs : List UInt8} (h : Own e w v bs) : Grew e w v w v bs := ⟨h, Ch.refl _ _, fun _ h => .inl h⟩

theorem Grew.trans {e : TypeId} {w w1 w2 : World} {v v1 v2 : Value} {b1 b2 : List UInt8} (h : Grew e w v w1 v1 b1) (k : Grew e w1 v1 w2 v2 b2) : Grew e w v w2 v2 b2 := by
  refine ⟨k.own, h.ch.trans k.ch fun i hi he => ?_, fun i hi => ?_⟩
  · rcases h.blk i he with h' | h'
    · exact h'
    · omega
  · rcases k.blk i hi with h' | h'
    · exact h.blk i h'
    · exact .inr (Nat.le_trans h.ch.size h')

/-- What lies in blocks that are there, and not the slice's own, is kept. -/
theorem Grew.keep {e : TypeId} {w w' : World} {v v' : Value} {bs : List UInt8} (h : Grew e w v w' v' bs) {k : Nat} (hk : k < w.heap.size) (hv : v.ownBlock ≠ some k) : w'.heap[k]? = w.heap[k]? := h.ch.block k hk hv

/-- The number of the type of octets: its zero, its size. -/
def U8 (P : Program) (e : TypeId) : Prop := (P.info? e).map (fun i => (i.zero, i.size, i.bytes)) = some (some (.int .u8 0), 1, 1)

theorem bv_one (l : List UInt8) : ∀ u ∈ l.map bv, u.oneCell' = true := by
  intro u hu
  obtain ⟨b, _, rfl⟩ := List.mem_map.1 hu
  rfl

/-- append of a slice of octets. -/
theorem run_append_oct {P : Program} {w : World} {t ty e : TypeId} (he : U8 P e) (ht : P.underlying t = some (.slice e)) {v : Value} {bs : List UInt8} (hv : Own e w v bs)
    {a : Option Addr} {l : List UInt8} {c : Nat} (ha : a = none → l = []) (hl : ∀ a', a = some a' → Oct w a' l) (hlim : bs.length + l.length ≤ Lim) :
    ∃ v' w', (Builtin.append_ #[t, t] ty #[v, .slice a l.length c]).run P w = .ok v' w' ∧ Grew e w v w' v' (bs ++ l) := by
  unfold U8 at he
  obtain ⟨i, hi, hh⟩ := Option.map_eq_some_iff.1 he
  simp only [Prod.mk.injEq] at hh
  obtain ⟨hz, hs, hb⟩ := hh
  cases a with
  | none =>
    obtain rfl := ha rfl
    refine ⟨v, w, ?_, by simpa using Grew.refl hv⟩
    rcases hv.2 with ⟨rfl, _⟩ | ⟨g, cap, cur, rfl, _, _, hnc, _⟩
    · simp [Builtin.append_, run_underlying ht, sizeOf, typeInfo, hi, Builtin.lenOf, Builtin.firstCells]
    · simp [Builtin.append_, run_underlying ht, sizeOf, typeInfo, hi, Builtin.lenOf, Builtin.firstCells, hnc, storeCells]
  | some a =>
    unfold Lim at hlim
    obtain ⟨v', w', hr, hown, hg, _, hat⟩ := run_append_own_at (P := P) w 0 t ty e i (.int .u8 0) 1 1 ht hi hz hs hb rfl (by omega) v bs.length (bs.map bv) hv a l.length c (l.map bv)
      (by simp) (fun j u hu => by
        rw [List.getElem?_map, Option.map_eq_some_iff] at hu
        obtain ⟨b, hb, rfl⟩ := hu
        exact hl a rfl j b hb) (bv_one l) (by simp only [maxLen]; omega) (by omega) (Nat.zero_le _)
    have hown' : Own e w' v' (bs ++ l) := by
      unfold Own
      rw [List.length_append, List.map_append]
      exact hown
    refine ⟨v', w', hr, hown', Ch.of_grown hg fun k hk => hk, fun k hk => ?_⟩
    rcases hat with h | h
    · exact .inl (h ▸ hk)
    · rw [h] at hk
      simp only [Option.some.injEq] at hk
      exact .inr (by omega)

theorem strCells_mk (l : List UInt8) : Lib.strCells ⟨l.toArray⟩ = l.map bv := by simp [Lib.strCells, bv]
theorem size_mk (l : List UInt8) : (⟨l.toArray⟩ : ByteArray).size = l.length := by simp [ByteArray.size]

/-- append of a text. -/
theorem run_append_str {P : Program} {w : World} {t u ty e : TypeId} (he : U8 P e) (ht : P.underlying t = some (.slice e)) (hu : P.underlying u = some .string) {v : Value} {bs : List UInt8} (hv : Own e w v bs)
    {l : List UInt8} (hlim : bs.length + l.length ≤ Lim) :
    ∃ v' w', (Builtin.append_ #[t, u] ty #[v, strV l]).run P w = .ok v' w' ∧ Grew e w v w' v' (bs ++ l) := by
  unfold U8 at he
  obtain ⟨i, hi, hh⟩ := Option.map_eq_some_iff.1 he
  simp only [Prod.mk.injEq] at hh
  obtain ⟨hz, hs, hb⟩ := hh
  unfold Lim at hlim
  have hsz := size_mk l
  obtain ⟨v', w', hr, hown, hg, hnil⟩ := Lib.run_append_own_string (P := P) w 0 t u ty e i ht hu hi hz hs hb v bs.length (bs.map bv) hv ⟨l.toArray⟩
    (by rw [hsz]; simp only [maxLen]; omega) (by rw [hsz]; omega) (Nat.zero_le _)
  rw [strCells_mk, hsz] at hown
  have hown' : Own e w' v' (bs ++ l) := by
    unfold Own
    rw [List.length_append, List.map_append]
    exact hown
  refine ⟨v', w', hr, hown', Ch.of_grown hg fun k hk => hk, fun k hk => ?_⟩
  rcases hv.2 with ⟨rfl, hn⟩ | ⟨g, cap, cur, rfl, hbg, hgg, hnc, hcm, hcs, htake⟩
  · by_cases hm : l.length = 0
    · rw [(hnil.2 ⟨rfl, by rw [hsz]; exact hm⟩)] at hk
      cases hk
    · have hr2 := run_append_nil_string (P := P) w t u ty e i (.int .u8 0) ht hu hi hz ⟨l.toArray⟩ (by rw [hsz]; omega) (by rw [hsz]; omega) (by rw [hb, hsz]; omega)
      have := hr.symm.trans hr2
      injection this with hv' _
      rw [hv'] at hk
      simp only [Value.ownBlock, Option.some.injEq] at hk
      exact .inr (by omega)
  · by_cases hroom : bs.length + l.length ≤ cap
    · have hcs' : cur.size = cap := by simpa using hcs
      have hr2 := Lib.run_append_room_string (P := P) w t u ty e i ht hu hi hs g bs.length cap cur hgg ⟨l.toArray⟩ (by rw [hsz]; omega) (by rw [hsz]; omega)
      have := hr.symm.trans hr2
      injection this with hv' _
      rw [hv'] at hk
      exact .inl hk
    · have holds : ∀ j u, (bs.map bv)[j]? = some u → w.cell? ((⟨g, 0, none⟩ : Addr).add j) = some u := World.ownsRow.cells hv (g := g) rfl
      have hr2 := Lib.run_append_grow_string (P := P) w t u ty e i (.int .u8 0) ht hu hi hz ⟨g, 0, none⟩ bs.length cap (bs.map bv) (by rw [hs]; simp) holds ⟨l.toArray⟩ (by rw [hsz]; omega) (by rw [hsz]; omega)
        (by rw [hb]; exact growslice_fits (by rw [hsz]; omega) (by rw [hsz]; omega))
      have := hr.symm.trans hr2
      injection this with hv' _
      rw [hv'] at hk
      simp only [Value.ownBlock, Option.some.injEq] at hk
      exact .inr (by omega)

/-- Octets behind a new row. -/
theorem Oct.new (w : World) (e : TypeId) (l : List UInt8) : Oct (w.alloc (.cells (l.map bv).toArray e)) ⟨w.heap.size, 0, none⟩ l := by
  intro i u hu
  rw [add_lit, Nat.zero_add]
  have := (Blk.new w e (l.map bv)).cell i
  rw [this, List.getElem?_map, hu]
  rfl

/-- A function that writes a value behind a slice of octets: which octets it writes. -/
def ApC (P : Program) (e : TypeId) (f : FuncId) (x : Array Value) (out : List UInt8) (w : World) : Prop :=
  ∀ v bs, Own e w v bs → bs.length + out.length ≤ Lim → Calls P f (#[v] ++ x) w fun en w' => ∃ v', en = .returned v' ∧ Grew e w v w' v' (bs ++ out)

end Go.Kx
