/- Library texts Rd Dec Dec2, joined. -/
import Derived.Test.YthcpchmmpnakaaaGreatDoorKxRun3
import Derived.Laws.BitsLemmas
/- A reader of octets: what it holds, what is read of it; the operations that its functions use. -/
namespace Go.Kx
open Go.RowKit
set_option linter.unusedSimpArgs false
set_option linter.unusedVariables false

/-- What is left, and whether it ran out. -/
structure Rs where
  rest : List UInt8
  bad : Bool
def Rs.fail : Rs := ⟨[], true⟩

/-- Octets as a number, the highest one first. -/
def unbe (l : List UInt8) : Nat := l.foldl (fun n b => n * 256 + b.toNat) 0

def rdN (n : Nat) (s : Rs) : Option (List UInt8) × Rs := if s.rest.length < n then (none, Rs.fail) else (some (s.rest.take n), ⟨s.rest.drop n, s.bad⟩)
def rdInt (k : IntKind) (n : Nat) (s : Rs) : Int × Rs :=
  match rdN n s with
  | (some l, s') => (k.wrap (unbe l), s')
  | (none, s') => (0, s')
def rdSpan (n : Int) (s : Rs) : Option (List UInt8) × Rs := if n < 0 then (none, Rs.fail) else rdN n.toNat s

/-- The slice of what is left; its octets lie in blocks of S. -/
def SrcIs (w : World) (S : Nat → Prop) (l : List UInt8) (v : Value) : Prop :=
  (v = .slice none 0 0 ∧ l = []) ∨ ∃ a c, v = .slice (some a) l.length c ∧ l.length ≤ c ∧ (c ≤ 9223372036854775807 ∧ l.length ≤ 4294967296) ∧ S a.block ∧ Oct w a l
/-- The reader in block g. -/
def RdIs (w : World) (S : Nat → Prop) (g : Nat) (t : TypeId) (s : Rs) : Prop := ∃ v, Blk w g t [v, .bool s.bad] ∧ SrcIs w S s.rest v ∧ ¬ S g

theorem SrcIs.keep {w w' : World} {S : Nat → Prop} {l : List UInt8} {v : Value} (h : SrcIs w S l v) (hk : ∀ k, S k → w'.heap[k]? = w.heap[k]?) : SrcIs w' S l v := by
  rcases h with h | ⟨a, c, h1, h2, h3, h4, h5⟩
  · exact .inl h
  · exact .inr ⟨a, c, h1, h2, h3, h4, h5.keep (hk _ h4)⟩

section
variable {P : Program} {ρ : Operand → Value} {w : World} {K : Value → World → Prop} {d : Option Tmp} {ty : TypeId} {pos : String} {af : Array Edge} {g : Option (Nat × Bool)}
theorem OpK.sliceFrom {x lo : Operand} {t e : TypeId} {a : Option Addr} {n c j : Nat} {k : IntKind} (ht : P.underlying t = some (.slice e)) (hs : (P.info? e).map (·.size) = some 1) (hx : ρ x = .slice a n c) (hj : ρ lo = .int k (j : Int)) (hn : j ≤ n) (hc : n ≤ c)
    (h : K (.slice (if c = j then a else a.map (·.add j)) (n - j) (c - j)) w) : OpK P ρ ⟨d, .slice t x (some lo) none none, ty, pos, af, g⟩ w K := by
  have he : P.underlying t = some (.slice (P.elem t)) := by rw [ht]; simp [Program.elem, ht]
  have hel : P.elem t = e := by simp [Program.elem, ht]
  obtain ⟨i, hi, hsz⟩ := Option.map_eq_some_iff.1 hs
  simp only [OpK, execOp, Option.map_some, Option.map_none, hx, hj, Instr.sliceAt, Sem.run_bind, run_underlying ht, Result.andThen_ok]
  rw [run_slice_l w t a n c he k (j : Int) (by omega) (by omega)]
  simp only [hel, sizeOf, typeInfo, run_program, Sem.run_bind, Result.andThen_ok, hi, Sem.run_pure, sliced, Int.toNat_natCast, hsz, Nat.mul_one, After]
  exact h
theorem OpK.sliceTo3 {x hi mx : Operand} {t e : TypeId} {a : Option Addr} {n c j : Nat} {k k' : IntKind} (ht : P.underlying t = some (.slice e)) (hs : (P.info? e).map (·.size) = some 1) (hx : ρ x = .slice a n c) (hj : ρ hi = .int k (j : Int)) (hm : ρ mx = .int k' (j : Int)) (hn : j ≤ c)
    (h : K (.slice (if j = 0 then a else a.map (·.add 0)) j j) w) : OpK P ρ ⟨d, .slice t x none (some hi) (some mx), ty, pos, af, g⟩ w K := by
  have he : P.underlying t = some (.slice (P.elem t)) := by rw [ht]; simp [Program.elem, ht]
  have hel : P.elem t = e := by simp [Program.elem, ht]
  obtain ⟨i, hi, hsz⟩ := Option.map_eq_some_iff.1 hs
  simp only [OpK, execOp, Option.map_some, Option.map_none, hx, hj, hm, Instr.sliceAt, Sem.run_bind, run_underlying ht, Result.andThen_ok]
  rw [run_slice_hm w t a n c he k k' (j : Int) (j : Int) (by omega) (by omega) (by omega)]
  simp only [hel, sizeOf, typeInfo, run_program, Sem.run_bind, Result.andThen_ok, hi, Sem.run_pure, sliced, Int.toNat_natCast, hsz, Nat.mul_one, After, Nat.sub_zero]
  exact h
end

theorem Oct.drop {w : World} {a : Addr} {l : List UInt8} (h : Oct w a l) (j : Nat) : Oct w (a.add j) (l.drop j) := by
  intro i u hu
  rw [List.getElem?_drop] at hu
  have := h (j + i) u hu
  rwa [Addr.add_add] at *
theorem Oct.take {w : World} {a : Addr} {l : List UInt8} (h : Oct w a l) (j : Nat) : Oct w a (l.take j) := by
  intro i u hu
  rw [List.getElem?_take] at hu
  split at hu
  · exact h i u hu
  · cases hu


theorem Yi.nilCheck {P : Program} {S : World → Prop} {ρ : Operand → Value} {d : Option Tmp} {ty : TypeId} {pos : String} {af : Array Edge} {g : Option (Nat × Bool)} {x : Operand} {a : Addr} (hx : ρ x = .pointer (some a)) :
    Yi P S ρ ⟨d, .nilCheck x, ty, pos, af, g⟩ (.pointer (some a)) := by
  intro w _
  simp only [execOp, hx, Sem.run_pure]

def earlyOp : Op → Bool
  | .pick .. | .nilCheck _ => true
  | op => valOp op
theorem SrcIs.small {w : World} {S : Nat → Prop} {l : List UInt8} {v : Value} (h : SrcIs w S l v) : l.length ≤ 4294967296 := by
  rcases h with ⟨_, rfl⟩ | ⟨_, _, _, _, h, _⟩
  · decide
  · exact h.2
/-- There are octets, or there were. -/
def NN (w : World) (g : Nat) : Prop := ∃ a n c, w.cell? ⟨g, 0, none⟩ = some (.slice (some a) n c)
/-- One way through a region: what may be taken early first. -/
def mkSched (ops : Array Oper) : Nat → Array Bool → List (Nat × Bool)
  | 0, _ => []
  | n + 1, listed =>
    match Region.ready .any ops listed with
    | [] => []
    | i :: rs => match (i :: rs).find? fun j => Region.free .any ops listed j && ((ops[j]?).map fun o => earlyOp o.op).getD false with
      | some j => (j, true) :: mkSched ops n (listed.setIfInBounds j true)
      | none => (i, false) :: mkSched ops n (listed.setIfInBounds i true)

/-- The failing end of a reading function. -/
theorem RdIs.fail {w : World} {S : Nat → Prop} {g : Nat} {t : TypeId} {s : Rs} (h : RdIs w S g t s) :
    RdIs ((w.setCell ⟨g, 1, none⟩ (.bool true)).setCell ⟨g, 0, none⟩ (.slice none 0 0)) S g t Rs.fail ∧ Ch (fun k => k = g) w ((w.setCell ⟨g, 1, none⟩ (.bool true)).setCell ⟨g, 0, none⟩ (.slice none 0 0)) := by
  obtain ⟨v, hb, hs, hg⟩ := h
  exact ⟨⟨_, (hb.set 1 (.bool true)).set 0 (.slice none 0 0), .inl ⟨rfl, rfl⟩, hg⟩, (Ch.set (S := fun k => k = g) w rfl _).trans' (Ch.set (S := fun k => k = g) _ rfl _)⟩
/-- The reader goes on behind n octets. -/
theorem RdIs.step {w : World} {S : Nat → Prop} {g : Nat} {t : TypeId} {s : Rs} (h : RdIs w S g t s) {v : Value} {l : List UInt8} (hv : SrcIs w S l v) :
    RdIs (w.setCell ⟨g, 0, none⟩ v) S g t ⟨l, s.bad⟩ ∧ Ch (fun k => k = g) w (w.setCell ⟨g, 0, none⟩ v) := by
  obtain ⟨u, hb, hs, hg⟩ := h
  exact ⟨⟨v, hb.set 0 v, hv.keep fun k hk => setCell_other w _ v k (fun e => hg (by rw [← show k = g from e]; exact hk)), hg⟩, Ch.set (S := fun k => k = g) w rfl _⟩
theorem SrcIs.drop {w : World} {S : Nat → Prop} {l : List UInt8} {a : Option Addr} {c j : Nat} (h : SrcIs w S l (.slice a l.length c)) (hj : j ≤ l.length) : SrcIs w S (l.drop j) (.slice (if c = j then a else a.map (·.add j)) (l.length - j) (c - j)) := by
  rcases h with ⟨h, rfl⟩ | ⟨a', c', h1, h2, h3, h4, h5⟩
  · simp only [Value.slice.injEq] at h
    obtain ⟨rfl, _, rfl⟩ := h
    refine .inl ⟨?_, by simp⟩
    simp at hj
    subst hj
    simp
  · simp only [Value.slice.injEq] at h1
    obtain ⟨rfl, _, rfl⟩ := h1
    by_cases hcj : c = j
    · rw [if_pos hcj]
      have hl : l.drop j = [] := List.drop_eq_nil_of_le (by omega)
      exact .inr ⟨a', c - j, by rw [hl]; simp; omega, by rw [hl]; simp, ⟨by omega, by simp; omega⟩, h4, fun i u hu => by rw [hl] at hu; simp at hu⟩
    · rw [if_neg hcj]
      exact .inr ⟨a'.add j, c - j, by simp, by simp; omega, ⟨by omega, by simp; omega⟩, by unfold Addr.add; split <;> exact h4, h5.drop j⟩


theorem OpK.shl {P : Program} {ρ : Operand → Value} {w : World} {K : Value → World → Prop} {d : Option Tmp} {ty : TypeId} {pos : String} {af : Array Edge} {g : Option (Nat × Bool)} {x y : Operand} {t u : TypeId} {k q : IntKind} {a b : Int}
    (hx : ρ x = .int k a) (hy : ρ y = .int q b) (hb : 0 ≤ b) (h : K (.int k (k.wrap (a * 2 ^ min b.toNat k.bits))) w) : OpK P ρ ⟨d, .binOp .shl t x y u, ty, pos, af, g⟩ w K := by
  simp [OpK, execOp, hx, hy, eqGuard, binOp, shift_shl_any k q a b hb, After]
  exact h
theorem Yi.shl {P : Program} {S : World → Prop} {ρ : Operand → Value} {d : Option Tmp} {ty : TypeId} {pos : String} {af : Array Edge} {g : Option (Nat × Bool)} {x y : Operand} {t u : TypeId} {k q : IntKind} {a b : Int}
    (hx : ρ x = .int k a) (hy : ρ y = .int q b) (hb : 0 ≤ b) : Yi P S ρ ⟨d, .binOp .shl t x y u, ty, pos, af, g⟩ (.int k (k.wrap (a * 2 ^ min b.toNat k.bits))) := yi_of_OpK rfl fun w _ => OpK.shl hx hy hb ⟨rfl, rfl⟩
theorem Yi.or {P : Program} {S : World → Prop} {ρ : Operand → Value} {d : Option Tmp} {ty : TypeId} {pos : String} {af : Array Edge} {g : Option (Nat × Bool)} {x y : Operand} {t u : TypeId} {k : IntKind} {a b : Int}
    (hx : ρ x = .int k a) (hy : ρ y = .int k b) : Yi P S ρ ⟨d, .binOp .or t x y u, ty, pos, af, g⟩ (.int k (bits .or k a b)) := yi_of_OpK rfl fun w _ => OpK.or hx hy ⟨rfl, rfl⟩
theorem Yi.convInt {P : Program} {S : World → Prop} {ρ : Operand → Value} {d : Option Tmp} {ty : TypeId} {pos : String} {af : Array Edge} {g : Option (Nat × Bool)} {x : Operand} {s t : TypeId} {k k' : IntKind} {n : Int}
    (hs : (P.underlying s).isSome = true) (ht : P.underlying t = some (.int k')) (hx : ρ x = .int k n) : Yi P S ρ ⟨d, .convert s t x, ty, pos, af, g⟩ (.int k' (k'.wrap n)) := yi_of_OpK rfl fun w _ => OpK.convInt hs ht hx ⟨rfl, rfl⟩

theorem wrap_un (k : IntKind) (hk : k.signed = false) (n : Int) (h0 : 0 ≤ n) (h1 : n < 2 ^ k.bits) : k.wrap n = n := by
  simp only [IntKind.wrap, hk, Bool.false_and, Bool.false_eq_true, if_false]
  exact Int.emod_eq_of_lt h0 h1
/-- Two numbers whose bits do not meet. -/
theorem or_parts (k : IntKind) (hk : k.signed = false) (x y j : Nat) (hx : x < 2 ^ j) (hxy : x + y * 2 ^ j < 2 ^ k.bits) : bits .or k (x : Int) ((y * 2 ^ j : Nat) : Int) = ((x + y * 2 ^ j : Nat) : Int) := by
  have h1 : x < 2 ^ k.bits := by omega
  have h2 : y * 2 ^ j < 2 ^ k.bits := by omega
  have := (bits_nat k k.bits (Nat.le_refl _) (fun n h0 h1 => wrap_un k hk n h0 h1) x (y * 2 ^ j) h1 h2).2
  rw [this]
  have h3 := Nat.shiftLeft_add_eq_or_of_lt hx y
  rw [Nat.shiftLeft_eq] at h3
  rw [Nat.or_comm, ← h3, Nat.add_comm]


/-- A drawn region in which nothing that was there is written. -/
theorem CWL.regD0 {P : Program} {n id : Nat} {ops : Array Oper} {cs : List Code} {σ : Fm} {w : World} {Q : Exit → Fm → World → Prop} (hm : P.follows .mixedOrders = true) (l : List (Nat × Bool))
    (hb : (Region.noSelect ops && schedB ops (Array.replicate ops.size false) l && Nat.ble l.length ops.size) = true) (h : HW P ops (fun w' => Ch (fun _ => False) w w') l σ w.drew fun σ' w' => CWL P n cs σ' w' Q) : CWL P n (.region id ops true :: cs) σ w Q :=
  CWL.regD hm _ l hb (Ch.drew _ w) h

theorem ch_cell {S : Nat → Prop} {w w' : World} (h : Ch S w w') {a : Addr} (hlt : a.block < w.heap.size) (hs : ¬ S a.block) (hp : a.spot = none) : w'.cell? a = w.cell? a := by
  have := h.block a.block hlt hs
  obtain ⟨b, o, sp⟩ := a
  simp only at hp
  subst hp
  simp only [World.cell?] at this ⊢
  rw [this]

theorem Oct.mono {w w' : World} {a : Addr} {l : List UInt8} (h : Oct w a l) (hlt : a.block < w.heap.size) (hc : Ch (fun _ => False) w w') (i : Nat) (u : UInt8) (hu : l[i]? = some u) : w'.cell? (a.add i) = some (bv u) := by
  rw [← h i u hu]
  have hb : (a.add i).block = a.block := by unfold Addr.add; split <;> rfl
  unfold World.cell?
  rw [hc.block (a.add i).block (by rw [hb]; exact hlt) (fun h => h)]


theorem oct_conv (k : IntKind) (hk : k.signed = false) (h8 : 8 ≤ k.bits) (b : UInt8) : k.wrap ((b.toNat : Nat) : Int) = ((b.toNat : Nat) : Int) := by
  refine wrap_un k hk _ (by omega) ?_
  have h1 : b.toNat < 2 ^ 8 := b.toNat_lt
  have h2 : (2 : Nat) ^ 8 ≤ 2 ^ k.bits := Nat.pow_le_pow_right (by decide) h8
  have h3 : ((2 : Int) ^ k.bits) = ((2 ^ k.bits : Nat) : Int) := by rw [Int.natCast_pow]; rfl
  rw [h3]
  omega
theorem oct_up (k : IntKind) (hk : k.signed = false) (h8 : 8 ≤ k.bits) (b : UInt8) (j : Nat) (hj : j + 8 ≤ k.bits) : k.wrap (k.wrap ((b.toNat : Nat) : Int) * 2 ^ min ((j : Int).toNat) k.bits) = ((b.toNat * 2 ^ j : Nat) : Int) := by
  rw [oct_conv k hk h8 b, Int.toNat_natCast, Nat.min_eq_left (by omega)]
  have e : ((b.toNat : Int) * 2 ^ j) = ((b.toNat * 2 ^ j : Nat) : Int) := by rw [Int.natCast_mul, Int.natCast_pow]; rfl
  rw [e]
  refine wrap_un k hk _ (by omega) ?_
  have h1 : b.toNat < 2 ^ 8 := b.toNat_lt
  have h2 : b.toNat * 2 ^ j < 2 ^ 8 * 2 ^ j := Nat.mul_lt_mul_of_pos_right h1 (Nat.two_pow_pos j)
  rw [← Nat.pow_add] at h2
  have h3 : (2 : Nat) ^ (8 + j) ≤ 2 ^ k.bits := Nat.pow_le_pow_right (by decide) (by omega)
  have h4 : ((2 : Int) ^ k.bits) = ((2 ^ k.bits : Nat) : Int) := by rw [Int.natCast_pow]; rfl
  rw [h4]
  omega
/-- One more octet ahead of those that are there. -/
theorem oct_or (k : IntKind) (hk : k.signed = false) (h8 : 8 ≤ k.bits) (x : Nat) (b : UInt8) (j : Nat) (hx : x < 2 ^ j) (hj : j + 8 ≤ k.bits) :
    bits .or k (x : Int) (k.wrap (k.wrap ((b.toNat : Nat) : Int) * 2 ^ min ((j : Int).toNat) k.bits)) = ((x + b.toNat * 2 ^ j : Nat) : Int) ∧ x + b.toNat * 2 ^ j < 2 ^ (j + 8) := by
  have h1 : b.toNat < 2 ^ 8 := b.toNat_lt
  have h2 : (b.toNat + 1) * 2 ^ j ≤ 2 ^ 8 * 2 ^ j := Nat.mul_le_mul_right _ h1
  have h3 : (2 : Nat) ^ 8 * 2 ^ j = 2 ^ (j + 8) := by rw [← Nat.pow_add, Nat.add_comm]
  have h4 : x + b.toNat * 2 ^ j < 2 ^ (j + 8) := by rw [Nat.add_mul, Nat.one_mul, h3] at h2; omega
  have h5 : (2 : Nat) ^ (j + 8) ≤ 2 ^ k.bits := Nat.pow_le_pow_right (by decide) hj
  rw [oct_up k hk h8 b j hj]
  exact ⟨or_parts k hk x b.toNat j hx (Nat.lt_of_lt_of_le h4 h5), h4⟩


theorem SrcIs.form {w : World} {S : Nat → Prop} {l : List UInt8} {v : Value} (h : SrcIs w S l v) : ∃ a c, v = .slice a l.length c ∧ l.length ≤ c := by
  rcases h with ⟨rfl, rfl⟩ | ⟨a, c, rfl, h, _⟩
  · exact ⟨none, 0, rfl, Nat.le_refl _⟩
  · exact ⟨some a, c, rfl, h⟩
theorem SrcIs.some_ {w : World} {S : Nat → Prop} {l : List UInt8} {a : Option Addr} {c : Nat} (h : SrcIs w S l (.slice a l.length c)) (hl : l ≠ []) : ∃ a', a = some a' ∧ l.length ≤ c ∧ S a'.block ∧ Oct w a' l := by
  rcases h with ⟨_, h⟩ | ⟨a', c', h1, h2, h3, h4, h5⟩
  · exact absurd h hl
  · simp only [Value.slice.injEq] at h1
    obtain ⟨rfl, _, rfl⟩ := h1
    exact ⟨a', rfl, h2, h4, h5⟩
theorem Yi.empty {P : Program} {S : World → Prop} {ρ : Operand → Value} {d : Option Tmp} {ty : TypeId} {pos : String} {af : Array Edge} {g : Option (Nat × Bool)} {x : Operand} {t : TypeId} {b o : Nat} (ht : aggSize P t = some 0) (hx : ρ x = .pointer (some ⟨b, o, none⟩)) :
    Yi P S ρ ⟨d, .load t x, ty, pos, af, g⟩ (.agg #[]) := yi_of_OpK rfl fun w _ => OpK.loadAgg (us := []) ht hx (fun j v h => by simp at h) rfl ⟨rfl, rfl⟩


theorem RdIs.keep {w w' : World} {S : Nat → Prop} {g : Nat} {t : TypeId} {s : Rs} (h : RdIs w S g t s) (hS : ∀ k, S k → k < w.heap.size) (hc : Ch (fun _ => False) w w') : RdIs w' S g t s := by
  obtain ⟨v, hb, hs, hg⟩ := h
  exact ⟨v, hb.keep (hc.block g hb.lt fun h => h), hs.keep fun k hk => hc.block k (hS k hk) fun h => h, hg⟩
theorem two_octets {l : List UInt8} (h : ¬ l.length < 2) : ∃ b0 b1 r, l = b0 :: b1 :: r := by
  match l, h with
  | b0 :: b1 :: r, _ => exact ⟨b0, b1, r, rfl⟩
  | [_], h => exact absurd (by simp) h
  | [], h => exact absurd (by simp) h

theorem octets2 {l : List UInt8} (h : ¬ l.length < 2) : ∃ b0 b1 r, l = b0 :: b1 :: r := by
  match l, h with
  | b0 :: b1 :: r, _ => exact ⟨b0, b1, r, rfl⟩
  | [_], h => exact absurd (by simp) h
  | [], h => exact absurd (by simp) h
theorem unbe_wrap2 (k : IntKind) (hk : k.signed = false) (hb : 16 ≤ k.bits) (b0 b1 : UInt8) : k.wrap ((unbe [b0, b1] : Nat) : Int) = ((unbe [b0, b1] : Nat) : Int) := by
  have hlt : unbe [b0, b1] < 2 ^ 16 := by
    simp only [unbe, List.foldl_cons, List.foldl_nil]
    have h0 := b0.toNat_lt
    have h1 := b1.toNat_lt
    omega
  refine wrap_un k hk _ (by omega) ?_
  have h3 : (2 : Nat) ^ 16 ≤ 2 ^ k.bits := Nat.pow_le_pow_right (by decide) hb
  have h4 : ((2 : Int) ^ k.bits) = ((2 ^ k.bits : Nat) : Int) := by rw [Int.natCast_pow]; rfl
  rw [h4]
  omega
theorem octets4 {l : List UInt8} (h : ¬ l.length < 4) : ∃ b0 b1 b2 b3 r, l = b0 :: b1 :: b2 :: b3 :: r := by
  match l, h with
  | b0 :: b1 :: b2 :: b3 :: r, _ => exact ⟨b0, b1, b2, b3, r, rfl⟩
  | [_, _, _], h => exact absurd (by simp) h
  | [_, _], h => exact absurd (by simp) h
  | [_], h => exact absurd (by simp) h
  | [], h => exact absurd (by simp) h
theorem unbe_wrap4 (k : IntKind) (hk : k.signed = false) (hb : 32 ≤ k.bits) (b0 b1 b2 b3 : UInt8) : k.wrap ((unbe [b0, b1, b2, b3] : Nat) : Int) = ((unbe [b0, b1, b2, b3] : Nat) : Int) := by
  have hlt : unbe [b0, b1, b2, b3] < 2 ^ 32 := by
    simp only [unbe, List.foldl_cons, List.foldl_nil]
    have h0 := b0.toNat_lt
    have h1 := b1.toNat_lt
    have h2 := b2.toNat_lt
    have h3 := b3.toNat_lt
    omega
  refine wrap_un k hk _ (by omega) ?_
  have h3 : (2 : Nat) ^ 32 ≤ 2 ^ k.bits := Nat.pow_le_pow_right (by decide) hb
  have h4 : ((2 : Int) ^ k.bits) = ((2 ^ k.bits : Nat) : Int) := by rw [Int.natCast_pow]; rfl
  rw [h4]
  omega
theorem octets8 {l : List UInt8} (h : ¬ l.length < 8) : ∃ b0 b1 b2 b3 b4 b5 b6 b7 r, l = b0 :: b1 :: b2 :: b3 :: b4 :: b5 :: b6 :: b7 :: r := by
  match l, h with
  | b0 :: b1 :: b2 :: b3 :: b4 :: b5 :: b6 :: b7 :: r, _ => exact ⟨b0, b1, b2, b3, b4, b5, b6, b7, r, rfl⟩
  | [_, _, _, _, _, _, _], h => exact absurd (by simp) h
  | [_, _, _, _, _, _], h => exact absurd (by simp) h
  | [_, _, _, _, _], h => exact absurd (by simp) h
  | [_, _, _, _], h => exact absurd (by simp) h
  | [_, _, _], h => exact absurd (by simp) h
  | [_, _], h => exact absurd (by simp) h
  | [_], h => exact absurd (by simp) h
  | [], h => exact absurd (by simp) h
theorem unbe_wrap8 (k : IntKind) (hk : k.signed = false) (hb : 64 ≤ k.bits) (b0 b1 b2 b3 b4 b5 b6 b7 : UInt8) : k.wrap ((unbe [b0, b1, b2, b3, b4, b5, b6, b7] : Nat) : Int) = ((unbe [b0, b1, b2, b3, b4, b5, b6, b7] : Nat) : Int) := by
  have hlt : unbe [b0, b1, b2, b3, b4, b5, b6, b7] < 2 ^ 64 := by
    simp only [unbe, List.foldl_cons, List.foldl_nil]
    have h0 := b0.toNat_lt
    have h1 := b1.toNat_lt
    have h2 := b2.toNat_lt
    have h3 := b3.toNat_lt
    have h4 := b4.toNat_lt
    have h5 := b5.toNat_lt
    have h6 := b6.toNat_lt
    have h7 := b7.toNat_lt
    omega
  refine wrap_un k hk _ (by omega) ?_
  have h3 : (2 : Nat) ^ 64 ≤ 2 ^ k.bits := Nat.pow_le_pow_right (by decide) hb
  have h4 : ((2 : Int) ^ k.bits) = ((2 ^ k.bits : Nat) : Int) := by rw [Int.natCast_pow]; rfl
  rw [h4]
  omega


/-- A count ahead of a list: no more than octets are left. -/
def rdLen (s : Rs) : Int × Rs := if ((rdInt .i32 4 s).2.rest.length : Int) < (rdInt .i32 4 s).1 then (0, Rs.fail) else rdInt .i32 4 s
theorem rdInt_i32 (s : Rs) : -2147483648 ≤ (rdInt .i32 4 s).1 ∧ (rdInt .i32 4 s).1 < 2147483648 := by
  unfold rdInt
  split
  · rw [IntKind.wrap_i32]; omega
  · exact ⟨by simp, by simp⟩
theorem i64_in (n : Int) (h1 : -2147483648 ≤ n) (h2 : n < 2147483648) : IntKind.i64.wrap n = n := by
  rw [show IntKind.i64.wrap n = (if n % 18446744073709551616 ≥ 9223372036854775808 then n % 18446744073709551616 - 18446744073709551616 else n % 18446744073709551616) by simp [IntKind.wrap, IntKind.bits, IntKind.signed]]
  split <;> omega


section
variable {P : Program} {ops : Array Oper} {o : Oper} {l : List Oper} {σ : Fm} {w : World} {K : Fm → World → Prop}
theorem RW.want (hw : wantedB o ops σ = true) (h : OpK P (ev σ) o w fun v w' => RW P ops l (upd σ o.dst v) w' K) : RW P ops (o :: l) σ w K := by
  unfold RW
  rw [if_pos hw]
  exact h
theorem RW.skip (hw : wantedB o ops σ = false) (h : RW P ops l (upd σ o.dst undef) w K) : RW P ops (o :: l) σ w K := by
  unfold RW
  rw [if_neg (by rw [hw]; simp)]
  exact h
end
theorem guard_is {p : Prop} [Decidable p] (b : Bool) (h : decide p = b) : ((some (decide p) : Option Bool) == some b) = true := by rw [h]; simp
theorem guard_not {p : Prop} [Decidable p] (b : Bool) (h : decide p = !b) : ((some (decide p) : Option Bool) == some b) = false := by rw [h]; cases b <;> rfl

end Go.Kx

/- Messages as they are read: plain functions, and what reading and writing are to each other. -/
namespace Go.Kx
open Go.RowKit
set_option linter.unusedSimpArgs false
set_option linter.unusedVariables false

/-! ### Numbers -/
def decInt (k : IntKind) (n : Nat) (l : List UInt8) : Option (Int × List UInt8) := if l.length < n then none else some (k.wrap (unbe (l.take n)), l.drop n)
def decSpan (n : Int) (l : List UInt8) : Option (List UInt8 × List UInt8) := if n < 0 ∨ (l.length : Int) < n then none else some (l.take n.toNat, l.drop n.toNat)
def decUvA : Nat → List UInt8 → Option (Nat × List UInt8)
  | _, [] => none
  | 0, b :: l => if b.toNat ≤ 15 then some (b.toNat, l) else none
  | i + 1, b :: l => if b.toNat < 128 then some (b.toNat, l) else (decUvA i l).map fun x => (b.toNat - 128 + 128 * x.1, x.2)
def decUv (l : List UInt8) : Option (Nat × List UInt8) := decUvA 4 l

theorem wrap_mod (k : IntKind) (x : Int) : k.wrap (x % 2 ^ k.bits) = k.wrap x := by
  simp only [IntKind.wrap, Int.emod_emod]

theorem emod_split (x : Int) (a : Int) (ha : 0 < a) : x % (a * 256) = (x / a) % 256 * a + x % a := by
  have h1 := Int.mul_ediv_add_emod x a
  have h2 := Int.mul_ediv_add_emod (x / a) 256
  have h3 : 0 ≤ x % a := Int.emod_nonneg _ (by omega)
  have h4 : x % a < a := Int.emod_lt_of_pos _ ha
  have h5 : 0 ≤ (x / a) % 256 := Int.emod_nonneg _ (by omega)
  have h6 : (x / a) % 256 < 256 := Int.emod_lt_of_pos _ (by omega)
  generalize (x / a) % 256 = r at *
  generalize x % a = s at *
  generalize x / a = d at *
  have e : x = (r * a + s) + (a * 256) * (d / 256) := by
    rw [← h1]
    conv => lhs; rw [← h2]
    rw [Int.mul_add, Int.mul_assoc, Int.mul_comm a r]
    omega
  rw [e, Int.add_mul_emod_self_left]
  have h8 : r * a ≤ 255 * a := Int.mul_le_mul_of_nonneg_right (by omega) (by omega)
  have h9 : 0 ≤ r * a := Int.mul_nonneg h5 (by omega)
  exact Int.emod_eq_of_lt (by omega) (by omega)

theorem unbe_be_acc (x : Int) (n : Nat) : ∀ acc : Nat, (((be n x).foldl (fun n b => n * 256 + b.toNat) acc : Nat) : Int) = acc * (256 ^ n : Nat) + x % (256 ^ n : Nat) := by
  induction n with
  | zero => intro acc; simp [be]
  | succ n ih =>
    intro acc
    rw [be, List.foldl_cons, ih]
    have hp : (0 : Int) < (256 ^ n : Nat) := by exact_mod_cast Nat.pow_pos (by omega)
    rw [show ((256 ^ (n + 1) : Nat) : Int) = (256 ^ n : Nat) * 256 by rw [Nat.pow_succ]; rfl, emod_split x _ hp, Int.natCast_add, byteAt_toNat, Int.natCast_mul]
    generalize (x / ((256 ^ n : Nat) : Int)) % 256 = r
    generalize ((256 ^ n : Nat) : Int) = a
    rw [Int.add_mul, Int.add_assoc]
    congr 1
    rw [Int.mul_assoc]
    congr 1
    exact Int.mul_comm _ _
theorem unbe_be (x : Int) (n : Nat) : ((unbe (be n x) : Nat) : Int) = x % (256 ^ n : Nat) := by
  have := unbe_be_acc x n 0
  simpa [unbe] using this

theorem decInt_be (k : IntKind) (n : Nat) (hb : k.bits = 8 * n) (x : Int) (hx : k.wrap x = x) (z : List UInt8) : decInt k n (be n x ++ z) = some (x, z) := by
  unfold decInt
  have hl := be_length n x
  rw [if_neg (by rw [List.length_append, hl]; omega), List.take_append_of_le_length (by omega), List.take_of_length_le (by omega), List.drop_append_of_le_length (by omega), List.drop_of_length_le (by omega), List.nil_append]
  rw [unbe_be, show ((256 ^ n : Nat) : Int) = 2 ^ k.bits by rw [hb, Int.natCast_pow, Int.pow_mul]; rfl, wrap_mod, hx]

theorem uvar_ne (n : Nat) : uvar n ≠ [] := by rw [uvar]; split <;> simp
theorem decUvA_uvar (z : List UInt8) : ∀ (i n : Nat), n < 16 * 128 ^ i → decUvA i (uvar n ++ z) = some (n, z)
  | 0, n, h => by
    rw [uvar_small (by omega), List.cons_append, List.nil_append, decUvA, UInt8.toNat_ofNat']
    rw [show n % 2 ^ 8 = n by omega, if_pos (by omega)]
  | i + 1, n, h => by
    by_cases hn : n < 128
    · rw [uvar_small hn, List.cons_append, List.nil_append, decUvA, UInt8.toNat_ofNat', show n % 2 ^ 8 = n by omega, if_pos hn]
    · rw [uvar_big hn, List.cons_append, decUvA, UInt8.toNat_ofNat', show (n % 128 + 128) % 2 ^ 8 = n % 128 + 128 by omega, if_neg (by omega), decUvA_uvar z i (n / 128) (by rw [Nat.pow_succ] at h; omega)]
      simp only [Option.map_some, Option.some.injEq, Prod.mk.injEq, and_true]
      omega
theorem decUv_uvar (n : Nat) (h : n < 4294967296) (z : List UInt8) : decUv (uvar n ++ z) = some (n, z) := decUvA_uvar z 4 n (by omega)

/-- A number that is read of so many octets fits them. -/
theorem decUvA_lt : ∀ (i : Nat) {l l' : List UInt8} {n : Nat}, decUvA i l = some (n, l') → n < 16 * 128 ^ i
  | 0, [], _, _, h => by simp [decUvA] at h
  | i + 1, [], _, _, h => by simp [decUvA] at h
  | 0, b :: l, l', n, h => by
    rw [decUvA] at h
    split at h
    · simp only [Option.some.injEq, Prod.mk.injEq] at h; omega
    · cases h
  | i + 1, b :: l, l', n, h => by
    rw [decUvA] at h
    have hb := b.toNat_lt
    split at h
    · rename_i hlt
      simp only [Option.some.injEq, Prod.mk.injEq] at h
      have : 0 < 128 ^ i := Nat.pow_pos (by omega)
      rw [Nat.pow_succ]; omega
    · obtain ⟨⟨m, l2⟩, hm, he⟩ := Option.map_eq_some_iff.1 h
      have := decUvA_lt i hm
      simp only [Prod.mk.injEq] at he
      rw [Nat.pow_succ]; omega
theorem decUv_lt {l l' : List UInt8} {n : Nat} (h : decUv l = some (n, l')) : n < 4294967296 := by have := decUvA_lt 4 h; omega

/-- More octets behind do no harm. -/
theorem decUvA_ext : ∀ (i : Nat) {l l' : List UInt8} {n : Nat} (z : List UInt8), decUvA i l = some (n, l') → decUvA i (l ++ z) = some (n, l' ++ z)
  | 0, [], _, _, _, h => by simp [decUvA] at h
  | i + 1, [], _, _, _, h => by simp [decUvA] at h
  | 0, b :: l, l', n, z, h => by
    rw [decUvA] at h
    rw [List.cons_append, decUvA]
    split at h
    · rename_i hb
      simp only [Option.some.injEq, Prod.mk.injEq] at h
      obtain ⟨rfl, rfl⟩ := h
      rw [if_pos hb]
    · cases h
  | i + 1, b :: l, l', n, z, h => by
    rw [decUvA] at h
    rw [List.cons_append, decUvA]
    split at h
    · rename_i hb
      simp only [Option.some.injEq, Prod.mk.injEq] at h
      obtain ⟨rfl, rfl⟩ := h
      rw [if_pos hb]
    · rename_i hb
      rw [if_neg hb]
      obtain ⟨⟨m, l2⟩, hm, he⟩ := Option.map_eq_some_iff.1 h
      simp only [Prod.mk.injEq] at he
      obtain ⟨rfl, rfl⟩ := he
      rw [decUvA_ext i z hm]
      rfl
theorem decUv_ext {l l' : List UInt8} {n : Nat} (z : List UInt8) (h : decUv l = some (n, l')) : decUv (l ++ z) = some (n, l' ++ z) := decUvA_ext 4 z h

theorem decInt_ext {k : IntKind} {n : Nat} {l l' : List UInt8} {x : Int} (z : List UInt8) (h : decInt k n l = some (x, l')) : decInt k n (l ++ z) = some (x, l' ++ z) := by
  unfold decInt at h ⊢
  split at h
  · cases h
  · rename_i hl
    simp only [Option.some.injEq, Prod.mk.injEq] at h
    obtain ⟨rfl, rfl⟩ := h
    rw [if_neg (by rw [List.length_append]; omega), List.take_append_of_le_length (by omega), List.drop_append_of_le_length (by omega)]
theorem decSpan_ext {n : Int} {l l' x : List UInt8} (z : List UInt8) (h : decSpan n l = some (x, l')) : decSpan n (l ++ z) = some (x, l' ++ z) := by
  unfold decSpan at h ⊢
  split at h
  · cases h
  · rename_i hl
    simp only [Option.some.injEq, Prod.mk.injEq] at h
    obtain ⟨rfl, rfl⟩ := h
    rw [if_neg (by rw [List.length_append]; omega), List.take_append_of_le_length (by omega), List.drop_append_of_le_length (by omega)]

/-- How many octets a number takes, and how many its shortest form would. -/
theorem uvar_len_le : ∀ (i : Nat) {l l' : List UInt8} {n : Nat}, decUvA i l = some (n, l') → (uvar n).length + l'.length ≤ l.length
  | 0, [], _, _, h => by simp [decUvA] at h
  | i + 1, [], _, _, h => by simp [decUvA] at h
  | 0, b :: l, l', n, h => by
    rw [decUvA] at h
    split at h
    · simp only [Option.some.injEq, Prod.mk.injEq] at h
      obtain ⟨rfl, rfl⟩ := h
      rw [uvar_small (by omega)]
      simp; omega
    · cases h
  | i + 1, b :: l, l', n, h => by
    rw [decUvA] at h
    split at h
    · rename_i hb
      simp only [Option.some.injEq, Prod.mk.injEq] at h
      obtain ⟨rfl, rfl⟩ := h
      rw [uvar_small hb]
      simp; omega
    · obtain ⟨⟨m, l2⟩, hm, he⟩ := Option.map_eq_some_iff.1 h
      simp only [Prod.mk.injEq] at he
      obtain ⟨rfl, rfl⟩ := he
      have := uvar_len_le i hm
      by_cases hn : b.toNat - 128 + 128 * m < 128
      · rw [uvar_small hn]
        have h1 : 1 ≤ (uvar m).length := by have := uvar_ne m; cases h : uvar m with | nil => exact absurd h this | cons _ _ => simp
        simp; omega
      · rw [uvar_big hn]
        have hb := b.toNat_lt
        rw [show (b.toNat - 128 + 128 * m) / 128 = m by omega]
        simp; omega
theorem decUv_len {l l' : List UInt8} {n : Nat} (h : decUv l = some (n, l')) : (uvar n).length + l'.length ≤ l.length := uvar_len_le 4 h
theorem uvar_pos (n : Nat) : 1 ≤ (uvar n).length := by have := uvar_ne n; cases h : uvar n with | nil => exact absurd h this | cons _ _ => simp
theorem decInt_len {k : IntKind} {n : Nat} {l l' : List UInt8} {x : Int} (h : decInt k n l = some (x, l')) : n + l'.length = l.length := by
  unfold decInt at h
  split at h
  · cases h
  · simp only [Option.some.injEq, Prod.mk.injEq] at h
    obtain ⟨rfl, rfl⟩ := h
    simp; omega
theorem decSpan_len {n : Int} {l l' x : List UInt8} (h : decSpan n l = some (x, l')) : (x.length : Int) = n ∧ x.length + l'.length = l.length := by
  unfold decSpan at h
  split at h
  · cases h
  · simp only [Option.some.injEq, Prod.mk.injEq] at h
    obtain ⟨rfl, rfl⟩ := h
    simp; omega
theorem decSpan_app {n : Int} (x z : List UInt8) (h : n = x.length) : decSpan n (x ++ z) = some (x, z) := by
  subst h
  unfold decSpan
  rw [if_neg (by rw [List.length_append]; omega), Int.toNat_natCast, List.take_append_of_le_length (by omega), List.take_of_length_le (by omega), List.drop_append_of_le_length (by omega), List.drop_of_length_le (by omega), List.nil_append]

theorem wrap_emod (k : IntKind) (x : Int) : k.wrap x % 2 ^ k.bits = x % 2 ^ k.bits := by
  simp only [IntKind.wrap]
  split
  · rw [show x % 2 ^ k.bits - 2 ^ k.bits = x % 2 ^ k.bits + 2 ^ k.bits * (-1) by omega, Int.add_mul_emod_self_left, Int.emod_emod]
  · rw [Int.emod_emod]
theorem wrap_in (k : IntKind) (x : Int) : k.wrap (k.wrap x) = k.wrap x := by
  rw [← wrap_mod k (k.wrap x), wrap_emod, wrap_mod]
theorem decInt_in {k : IntKind} {n : Nat} {l l' : List UInt8} {x : Int} (h : decInt k n l = some (x, l')) : k.wrap x = x := by
  unfold decInt at h
  split at h
  · cases h
  · simp only [Option.some.injEq, Prod.mk.injEq] at h
    obtain ⟨rfl, rfl⟩ := h
    exact wrap_in _ _
end Go.Kx

/- Values and parts as they are read; reading what was written; what is read can be written and read again. -/
namespace Go.Kx
open Go.RowKit
set_option linter.unusedSimpArgs false
set_option linter.unusedVariables false

def decBool : List UInt8 → Option (V × List UInt8)
  | [] => none
  | b :: l => some (.b (b != 0), l)
def decStrLen (fx : Bool) (l : List UInt8) : Option (Int × List UInt8) := if fx then (decUv l).map fun x => ((x.1 : Int) - 1, x.2) else decInt .i16 2 l
def decBytLen (fx : Bool) (l : List UInt8) : Option (Int × List UInt8) := if fx then (decUv l).map fun x => ((x.1 : Int) - 1, x.2) else decInt .i32 4 l
def decI (k : IntKind) (n : Nat) (l : List UInt8) : Option (V × List UInt8) := (decInt k n l).map fun x => (.i x.1, x.2)

def decW (fx : Bool) : Wt → List UInt8 → Option (V × List UInt8)
  | .bool, l => decBool l
  | .i8, l => decI .i8 1 l
  | .e8, l => decI .i8 1 l
  | .i16, l => decI .i16 2 l
  | .u16, l => decI .u16 2 l
  | .i32, l => decI .i32 4 l
  | .i64, l => decI .i64 8 l
  | .f64, l => (decInt .u64 8 l).map fun x => (.f x.1.toNat, x.2)
  | .uuid, l => (decSpan 16 l).map fun x => (.u x.1, x.2)
  | .str, l => (decStrLen fx l).bind fun n => (decSpan n.1 n.2).map fun x => (.s x.1, x.2)
  | .nstr, l => (decStrLen fx l).bind fun n => if n.1 < 0 then some (.nsN, n.2) else (decSpan n.1 n.2).map fun x => (.ns x.1, x.2)
  | .byt, l => (decBytLen fx l).bind fun n => if n.1 = -1 then some (.by_ [], n.2) else (decSpan n.1 n.2).map fun x => (.by_ x.1, x.2)
  | .nbyt, l => (decBytLen fx l).bind fun n => if n.1 < 0 then some (.byN, n.2) else (decSpan n.1 n.2).map fun x => (.by_ x.1, x.2)

def okStr (fx : Bool) (l : List UInt8) : Prop := if fx then l.length + 1 < 4294967296 else l.length < 32768
def okByt (fx : Bool) (l : List UInt8) : Prop := if fx then l.length + 1 < 4294967296 else l.length < 2147483648

/-- A value that is written and read again as it is. -/
def GoodW (fx : Bool) : Wt → V → Prop
  | .bool, .b _ => True
  | .i8, .i n => IntKind.i8.wrap n = n
  | .e8, .i n => IntKind.i8.wrap n = n
  | .i16, .i n => IntKind.i16.wrap n = n
  | .u16, .i n => IntKind.u16.wrap n = n
  | .i32, .i n => IntKind.i32.wrap n = n
  | .i64, .i n => IntKind.i64.wrap n = n
  | .f64, .f n => n < 18446744073709551616
  | .uuid, .u l => l.length = 16
  | .str, .s l => okStr fx l
  | .nstr, .nsN => True
  | .nstr, .ns l => okStr fx l
  | .byt, .by_ l => okByt fx l
  | .nbyt, .byN => True
  | .nbyt, .by_ l => okByt fx l
  | _, _ => False

theorem word_eq {n : Nat} (h : n < 4294967296) : word n = n := Nat.mod_eq_of_lt h
theorem decI_be (k : IntKind) (n : Nat) (hb : k.bits = 8 * n) (x : Int) (hx : k.wrap x = x) (z : List UInt8) : decI k n (be n x ++ z) = some (.i x, z) := by
  unfold decI; rw [decInt_be k n hb x hx z]; rfl
theorem i16_len {n : Nat} (h : n < 32768) : IntKind.i16.wrap (n : Int) = n := by
  simp only [IntKind.wrap, IntKind.bits, IntKind.signed, Bool.true_and, decide_eq_true_eq, show ((2 : Int) ^ 16) = 65536 from rfl, show ((2 : Int) ^ (16 - 1)) = 32768 from rfl]
  split <;> omega
theorem i32_len {n : Nat} (h : n < 2147483648) : IntKind.i32.wrap (n : Int) = n := by rw [IntKind.wrap_i32]; omega
theorem decStrLen_enc {fx : Bool} {l : List UInt8} (h : okStr fx l) (z : List UInt8) : (decStrLen fx (encStr fx l ++ z)) = some ((l.length : Int), l ++ z) := by
  unfold okStr at h
  unfold decStrLen encStr
  cases fx
  · simp only [Bool.false_eq_true, if_false] at h ⊢
    rw [List.append_assoc, decInt_be .i16 2 rfl _ (i16_len h)]
  · simp only [if_true] at h ⊢
    rw [List.append_assoc, word_eq h, decUv_uvar _ h]
    simp only [Option.map_some, Option.some.injEq, Prod.mk.injEq, and_true]
    omega
theorem decBytLen_enc {fx : Bool} {l : List UInt8} (h : okByt fx l) (z : List UInt8) : (decBytLen fx (encByt fx l ++ z)) = some ((l.length : Int), l ++ z) := by
  unfold okByt at h
  unfold decBytLen encByt
  cases fx
  · simp only [Bool.false_eq_true, if_false] at h ⊢
    rw [List.append_assoc, decInt_be .i32 4 rfl _ (i32_len h)]
  · simp only [if_true] at h ⊢
    rw [List.append_assoc, word_eq h, decUv_uvar _ h]
    simp only [Option.map_some, Option.some.injEq, Prod.mk.injEq, and_true]
    omega
theorem decStrLen_nul (fx : Bool) (z : List UInt8) : decStrLen fx ((if fx then uvar 0 else be 2 (-1)) ++ z) = some (-1, z) := by
  unfold decStrLen
  cases fx
  · simp only [Bool.false_eq_true, if_false]
    exact decInt_be .i16 2 rfl _ (by decide) z
  · simp only [if_true]
    rw [decUv_uvar 0 (by decide)]
    rfl
theorem decBytLen_nul (fx : Bool) (z : List UInt8) : decBytLen fx ((if fx then uvar 0 else be 4 (-1)) ++ z) = some (-1, z) := by
  unfold decBytLen
  cases fx
  · simp only [Bool.false_eq_true, if_false]
    exact decInt_be .i32 4 rfl _ (by decide) z
  · simp only [if_true]
    rw [decUv_uvar 0 (by decide)]
    rfl

theorem decW_encW {fx : Bool} {w : Wt} {u : V} (h : GoodW fx w u) (z : List UInt8) : decW fx w (encW fx w u ++ z) = some (u, z) := by
  cases w <;> cases u <;> first | exact h.elim | skip
  case bool.b x => cases x <;> rfl
  case i8.i n => exact decI_be .i8 1 rfl n h z
  case e8.i n => exact decI_be .i8 1 rfl n h z
  case i16.i n => exact decI_be .i16 2 rfl n h z
  case u16.i n => exact decI_be .u16 2 rfl n h z
  case i32.i n => exact decI_be .i32 4 rfl n h z
  case i64.i n => exact decI_be .i64 8 rfl n h z
  case f64.f n =>
    have hw : IntKind.u64.wrap (n : Int) = n := by
      have : n < 18446744073709551616 := h
      rw [show IntKind.u64.wrap (n : Int) = (n : Int) % 18446744073709551616 by simp [IntKind.wrap, IntKind.bits, IntKind.signed]]; omega
    simp only [decW, encW]
    rw [decInt_be .u64 8 rfl _ hw]
    simp
  case uuid.u l =>
    have h : l.length = 16 := h
    simp only [decW, encW]
    rw [decSpan_app l z (by omega)]
    rfl
  case str.s l =>
    simp only [decW, encW]
    rw [decStrLen_enc h]
    simp only [Option.bind_some]
    rw [decSpan_app l z rfl]
    rfl
  case nstr.nsN =>
    simp only [decW, encW]
    rw [decStrLen_nul]
    simp
  case nstr.ns l =>
    simp only [decW, encW]
    rw [decStrLen_enc h]
    simp only [Option.bind_some]
    rw [if_neg (by omega), decSpan_app l z rfl]
    rfl
  case byt.by_ l =>
    simp only [decW, encW]
    rw [decBytLen_enc h]
    simp only [Option.bind_some]
    rw [if_neg (by omega), decSpan_app l z rfl]
    rfl
  case nbyt.byN =>
    simp only [decW, encW]
    rw [decBytLen_nul]
    simp
  case nbyt.by_ l =>
    simp only [decW, encW]
    rw [decBytLen_enc h]
    simp only [Option.bind_some]
    rw [if_neg (by omega), decSpan_app l z rfl]
    rfl

theorem map_ext {α β : Type} {f : α × List UInt8 → β × List UInt8} {o : Option (α × List UInt8)} {o' : Option (α × List UInt8)} {x : β} {l' z : List UInt8} (hf : ∀ a l, f (a, l) = ((f (a, [])).1, l))
    (ho : ∀ a l, o = some (a, l) → o' = some (a, l ++ z)) (h : o.map f = some (x, l')) : o'.map f = some (x, l' ++ z) := by
  obtain ⟨⟨a, l⟩, h1, h2⟩ := Option.map_eq_some_iff.1 h
  rw [ho a l h1]
  rw [hf] at h2
  simp only [Prod.mk.injEq] at h2
  simp only [Option.map_some]
  rw [hf, h2.1, h2.2]
theorem decStrLen_ext {fx : Bool} {l l' : List UInt8} {n : Int} (z : List UInt8) (h : decStrLen fx l = some (n, l')) : decStrLen fx (l ++ z) = some (n, l' ++ z) := by
  unfold decStrLen at h ⊢
  cases fx
  · exact decInt_ext z h
  · exact map_ext (fun _ _ => rfl) (fun a l1 h => decUv_ext z h) h
theorem decBytLen_ext {fx : Bool} {l l' : List UInt8} {n : Int} (z : List UInt8) (h : decBytLen fx l = some (n, l')) : decBytLen fx (l ++ z) = some (n, l' ++ z) := by
  unfold decBytLen at h ⊢
  cases fx
  · exact decInt_ext z h
  · exact map_ext (fun _ _ => rfl) (fun a l1 h => decUv_ext z h) h
theorem decW_ext {fx : Bool} {w : Wt} {l l' : List UInt8} {u : V} (z : List UInt8) (h : decW fx w l = some (u, l')) : decW fx w (l ++ z) = some (u, l' ++ z) := by
  have hi : ∀ k n, decI k n l = some (u, l') → decI k n (l ++ z) = some (u, l' ++ z) := fun k n h => map_ext (fun _ _ => rfl) (fun a l1 h => decInt_ext z h) h
  cases w <;> simp only [decW] at h ⊢
  case bool =>
    cases l with
    | nil => cases h
    | cons b l => simp only [decBool, Option.some.injEq, Prod.mk.injEq, List.cons_append] at h ⊢; exact ⟨h.1, by rw [h.2]⟩
  case i8 => exact hi _ _ h
  case e8 => exact hi _ _ h
  case i16 => exact hi _ _ h
  case u16 => exact hi _ _ h
  case i32 => exact hi _ _ h
  case i64 => exact hi _ _ h
  case f64 => exact map_ext (fun _ _ => rfl) (fun a l1 h => decInt_ext z h) h
  case uuid => exact map_ext (fun _ _ => rfl) (fun a l1 h => decSpan_ext z h) h
  case str =>
    obtain ⟨⟨n, l1⟩, h1, h2⟩ := Option.bind_eq_some_iff.1 h
    rw [decStrLen_ext z h1]
    exact map_ext (fun _ _ => rfl) (fun a l1 h => decSpan_ext z h) h2
  case nstr =>
    obtain ⟨⟨n, l1⟩, h1, h2⟩ := Option.bind_eq_some_iff.1 h
    rw [decStrLen_ext z h1]
    simp only [Option.bind_some] at h2 ⊢
    split at h2
    · rename_i hn
      rw [if_pos hn]
      simp only [Option.some.injEq, Prod.mk.injEq] at h2 ⊢
      exact ⟨h2.1, by rw [h2.2]⟩
    · rename_i hn
      rw [if_neg hn]
      exact map_ext (fun _ _ => rfl) (fun a l1 h => decSpan_ext z h) h2
  case byt =>
    obtain ⟨⟨n, l1⟩, h1, h2⟩ := Option.bind_eq_some_iff.1 h
    rw [decBytLen_ext z h1]
    simp only [Option.bind_some] at h2 ⊢
    split at h2
    · rename_i hn
      rw [if_pos hn]
      simp only [Option.some.injEq, Prod.mk.injEq] at h2 ⊢
      exact ⟨h2.1, by rw [h2.2]⟩
    · rename_i hn
      rw [if_neg hn]
      exact map_ext (fun _ _ => rfl) (fun a l1 h => decSpan_ext z h) h2
  case nbyt =>
    obtain ⟨⟨n, l1⟩, h1, h2⟩ := Option.bind_eq_some_iff.1 h
    rw [decBytLen_ext z h1]
    simp only [Option.bind_some] at h2 ⊢
    split at h2
    · rename_i hn
      rw [if_pos hn]
      simp only [Option.some.injEq, Prod.mk.injEq] at h2 ⊢
      exact ⟨h2.1, by rw [h2.2]⟩
    · rename_i hn
      rw [if_neg hn]
      exact map_ext (fun _ _ => rfl) (fun a l1 h => decSpan_ext z h) h2

/-- A length that is read: the octets of its shortest form. -/
theorem decStrLen_len {fx : Bool} {l l' : List UInt8} {n : Int} (h : decStrLen fx l = some (n, l')) : l'.length ≤ l.length ∧ (fx = true → -1 ≤ n ∧ n < 4294967295 ∧ (uvar (n + 1).toNat).length + l'.length ≤ l.length) ∧ (fx = false → -32768 ≤ n ∧ n < 32768 ∧ 2 + l'.length = l.length) := by
  unfold decStrLen at h
  cases fx
  · have h1 := decInt_len h
    have h2 := decInt_in h
    refine ⟨by omega, (fun h => by cases h), fun _ => ?_⟩
    simp only [IntKind.wrap, IntKind.bits, IntKind.signed, Bool.true_and, decide_eq_true_eq, show ((2 : Int) ^ 16) = 65536 from rfl, show ((2 : Int) ^ (16 - 1)) = 32768 from rfl] at h2
    split at h2 <;> omega
  · obtain ⟨⟨m, l1⟩, h1, h2⟩ := Option.map_eq_some_iff.1 h
    simp only [Prod.mk.injEq] at h2
    obtain ⟨rfl, rfl⟩ := h2
    have h3 := decUv_len h1
    have h4 := decUv_lt h1
    refine ⟨by omega, fun _ => ⟨by omega, by omega, ?_⟩, fun h => by cases h⟩
    rw [show ((m : Int) - 1 + 1).toNat = m by omega]
    exact h3
theorem decBytLen_len {fx : Bool} {l l' : List UInt8} {n : Int} (h : decBytLen fx l = some (n, l')) : l'.length ≤ l.length ∧ (fx = true → -1 ≤ n ∧ n < 4294967295 ∧ (uvar (n + 1).toNat).length + l'.length ≤ l.length) ∧ (fx = false → n < 2147483648 ∧ 4 + l'.length = l.length) := by
  unfold decBytLen at h
  cases fx
  · have h1 := decInt_len h
    have h2 := decInt_in h
    refine ⟨by omega, (fun h => by cases h), fun _ => ?_⟩
    rw [IntKind.wrap_i32] at h2
    omega
  · obtain ⟨⟨m, l1⟩, h1, h2⟩ := Option.map_eq_some_iff.1 h
    simp only [Prod.mk.injEq] at h2
    obtain ⟨rfl, rfl⟩ := h2
    have h3 := decUv_len h1
    have h4 := decUv_lt h1
    refine ⟨by omega, fun _ => ⟨by omega, by omega, ?_⟩, fun h => by cases h⟩
    rw [show ((m : Int) - 1 + 1).toNat = m by omega]
    exact h3

theorem encStr_len {fx : Bool} {l l1 x : List UInt8} {n : Int} (h : decStrLen fx l = some (n, l1)) (hx : (x.length : Int) = n) : okStr fx x ∧ (encStr fx x).length + l1.length ≤ l.length + x.length := by
  obtain ⟨h0, h1, h2⟩ := decStrLen_len h
  unfold okStr encStr
  cases fx
  · have := h2 rfl
    simp only [Bool.false_eq_true, if_false, List.length_append, be_length]
    omega
  · have := h1 rfl
    simp only [if_true, List.length_append]
    rw [word_eq (by omega), show x.length + 1 = (n + 1).toNat by omega]
    omega
theorem encByt_len {fx : Bool} {l l1 x : List UInt8} {n : Int} (h : decBytLen fx l = some (n, l1)) (hx : (x.length : Int) = n) : okByt fx x ∧ (encByt fx x).length + l1.length ≤ l.length + x.length := by
  obtain ⟨h0, h1, h2⟩ := decBytLen_len h
  unfold okByt encByt
  cases fx
  · have := h2 rfl
    simp only [Bool.false_eq_true, if_false, List.length_append, be_length]
    omega
  · have := h1 rfl
    simp only [if_true, List.length_append]
    rw [word_eq (by omega), show x.length + 1 = (n + 1).toNat by omega]
    omega
theorem encNul_len {fx : Bool} (k : Nat) : ((if fx then uvar 0 else be k (-1)).length : Nat) = if fx then 1 else k := by
  cases fx
  · simp [be_length]
  · simp [uvar_small]

theorem decI_good {k : IntKind} {n : Nat} {l l' : List UInt8} {u : V} (h : decI k n l = some (u, l')) : ∃ x, u = .i x ∧ k.wrap x = x ∧ n + l'.length = l.length := by
  obtain ⟨⟨m, l1⟩, h1, h2⟩ := Option.map_eq_some_iff.1 h
  simp only [Prod.mk.injEq] at h2
  obtain ⟨rfl, rfl⟩ := h2
  exact ⟨m, rfl, decInt_in h1, decInt_len h1⟩

theorem decW_good {fx : Bool} {w : Wt} {l l' : List UInt8} {u : V} (h : decW fx w l = some (u, l')) : GoodW fx w u ∧ (encW fx w u).length + l'.length ≤ l.length := by
  cases w <;> simp only [decW] at h
  case bool =>
    cases l with
    | nil => cases h
    | cons b l =>
      simp only [decBool, Option.some.injEq, Prod.mk.injEq] at h
      obtain ⟨rfl, rfl⟩ := h
      exact ⟨trivial, by simp [encW]; omega⟩
  case i8 => obtain ⟨x, rfl, h1, h2⟩ := decI_good h; exact ⟨h1, by simp only [encW, be_length]; omega⟩
  case e8 => obtain ⟨x, rfl, h1, h2⟩ := decI_good h; exact ⟨h1, by simp only [encW, be_length]; omega⟩
  case i16 => obtain ⟨x, rfl, h1, h2⟩ := decI_good h; exact ⟨h1, by simp only [encW, be_length]; omega⟩
  case u16 => obtain ⟨x, rfl, h1, h2⟩ := decI_good h; exact ⟨h1, by simp only [encW, be_length]; omega⟩
  case i32 => obtain ⟨x, rfl, h1, h2⟩ := decI_good h; exact ⟨h1, by simp only [encW, be_length]; omega⟩
  case i64 => obtain ⟨x, rfl, h1, h2⟩ := decI_good h; exact ⟨h1, by simp only [encW, be_length]; omega⟩
  case f64 =>
    obtain ⟨⟨m, l1⟩, h1, h2⟩ := Option.map_eq_some_iff.1 h
    simp only [Prod.mk.injEq] at h2
    obtain ⟨rfl, rfl⟩ := h2
    have h3 := decInt_len h1
    have h4 := decInt_in h1
    rw [show IntKind.u64.wrap m = m % 18446744073709551616 by simp [IntKind.wrap, IntKind.bits, IntKind.signed]] at h4
    exact ⟨show m.toNat < 18446744073709551616 by omega, by simp only [encW, be_length]; omega⟩
  case uuid =>
    obtain ⟨⟨m, l1⟩, h1, h2⟩ := Option.map_eq_some_iff.1 h
    simp only [Prod.mk.injEq] at h2
    obtain ⟨rfl, rfl⟩ := h2
    have h3 := decSpan_len h1
    exact ⟨show m.length = 16 by omega, by simp only [encW]; omega⟩
  case str =>
    obtain ⟨⟨n, l1⟩, h1, h2⟩ := Option.bind_eq_some_iff.1 h
    obtain ⟨⟨m, l2⟩, h3, h4⟩ := Option.map_eq_some_iff.1 h2
    simp only [Prod.mk.injEq] at h4
    obtain ⟨rfl, rfl⟩ := h4
    have h5 := decSpan_len h3
    simp only at h5
    have h6 := encStr_len h1 h5.1
    exact ⟨h6.1, by simp only [encW]; omega⟩
  case nstr =>
    obtain ⟨⟨n, l1⟩, h1, h2⟩ := Option.bind_eq_some_iff.1 h
    simp only at h2
    split at h2
    · simp only [Option.some.injEq, Prod.mk.injEq] at h2
      obtain ⟨rfl, rfl⟩ := h2
      refine ⟨trivial, ?_⟩
      have h3 := decStrLen_len h1
      simp only [encW]
      rw [encNul_len]
      cases fx
      · have := h3.2.2 rfl; simp; omega
      · have h4 := h3.2.1 rfl
        have := uvar_pos (n + 1).toNat
        simp; omega
    · obtain ⟨⟨m, l2⟩, h3, h4⟩ := Option.map_eq_some_iff.1 h2
      simp only [Prod.mk.injEq] at h4
      obtain ⟨rfl, rfl⟩ := h4
      have h5 := decSpan_len h3
      have h6 := encStr_len h1 h5.1
      exact ⟨h6.1, by simp only [encW]; omega⟩
  case byt =>
    obtain ⟨⟨n, l1⟩, h1, h2⟩ := Option.bind_eq_some_iff.1 h
    simp only at h2
    split at h2
    · simp only [Option.some.injEq, Prod.mk.injEq] at h2
      obtain ⟨rfl, rfl⟩ := h2
      have h3 := decBytLen_len h1
      refine ⟨by simp only [GoodW, okByt]; split <;> simp, ?_⟩
      simp only [encW, encByt]
      cases fx
      · have := h3.2.2 rfl; simp [be_length]; omega
      · have h4 := h3.2.1 rfl
        have := uvar_pos (n + 1).toNat
        simp [word, uvar_small]; omega
    · obtain ⟨⟨m, l2⟩, h3, h4⟩ := Option.map_eq_some_iff.1 h2
      simp only [Prod.mk.injEq] at h4
      obtain ⟨rfl, rfl⟩ := h4
      have h5 := decSpan_len h3
      have h6 := encByt_len h1 h5.1
      exact ⟨h6.1, by simp only [encW]; omega⟩
  case nbyt =>
    obtain ⟨⟨n, l1⟩, h1, h2⟩ := Option.bind_eq_some_iff.1 h
    simp only at h2
    split at h2
    · simp only [Option.some.injEq, Prod.mk.injEq] at h2
      obtain ⟨rfl, rfl⟩ := h2
      refine ⟨trivial, ?_⟩
      have h3 := decBytLen_len h1
      simp only [encW]
      rw [encNul_len]
      cases fx
      · have := h3.2.2 rfl; simp; omega
      · have h4 := h3.2.1 rfl
        have := uvar_pos (n + 1).toNat
        simp; omega
    · obtain ⟨⟨m, l2⟩, h3, h4⟩ := Option.map_eq_some_iff.1 h2
      simp only [Prod.mk.injEq] at h4
      obtain ⟨rfl, rfl⟩ := h4
      have h5 := decSpan_len h3
      have h6 := encByt_len h1 h5.1
      exact ⟨h6.1, by simp only [encW]; omega⟩

theorem encW_pos {fx : Bool} {w : Wt} {u : V} (h : GoodW fx w u) : 1 ≤ (encW fx w u).length := by
  cases w <;> cases u <;> first | exact h.elim | skip
  all_goals simp only [encW, encStr, encByt]
  all_goals try (cases fx <;> simp [be_length]; done)
  all_goals try (simp [be_length]; done)
  all_goals try (have h : _ = 16 := h; omega)
  all_goals (cases fx <;> simp [be_length] <;> first | (have := uvar_pos (word (List.length ‹_› + 1)); omega) | (have := uvar_pos 0; omega))
end Go.Kx
