/- Library texts Ops3 SpecA SpecB, joined. -/
import Derived.Test.YtmhliehkbkanmaaDoorKxFld
import Derived.Test.YtmhliehkbkanmaaDoorKxTree
/- More rules per operation: structs at an address, slices cut at their end. -/
namespace Go.Kx
open Go.RowKit
set_option linter.unusedSimpArgs false
set_option linter.unusedVariables false
section
variable {P : Program} {ρ : Operand → Value} {w : World} {K : Value → World → Prop} {d : Option Tmp} {ty : TypeId} {pos : String} {af : Array Edge} {g : Option (Nat × Bool)}

/-- Cells from an address on. -/
def AtA (w : World) (a : Addr) (cs : List Value) : Prop := ∀ j v, cs[j]? = some v → w.cell? (a.add j) = some v
theorem AtA.of_at {g o : Nat} {cs : List Value} (h : At w g o cs) : AtA w ⟨g, o, none⟩ cs := fun j v hj => by rw [Addr.add_mid]; exact h j v hj
theorem AtA.of_add {a : Addr} {k : Nat} {cs : List Value} (h : ∀ j v, cs[j]? = some v → w.cell? (a.add (k + j)) = some v) : AtA w (a.add k) cs := fun j v hj => by rw [Addr.add_add]; exact h j v hj

theorem OpK.loadA {x : Operand} {t : TypeId} {a : Addr} {n : Nat} {us : List Value} (ht : aggSize P t = some n) (hx : ρ x = .pointer (some a)) (hr : AtA w a us) (hl : us.length = n) (h : K (.agg us.toArray) w) : OpK P ρ ⟨d, .load t x, ty, pos, af, g⟩ w K := by
  unfold aggSize at ht
  have hrun := run_loadCells_list (P := P) w a us hr
  rw [hl] at hrun
  split at ht
  · rename_i fs hd
    obtain ⟨i, hi, hs⟩ := Option.map_eq_some_iff.1 ht
    simp only [OpK, execOp, hx, Instr.loadAt, Instr.sureAddr, Sem.run_bind, Sem.run_pure, Result.andThen_ok, loadVar, isAgg, run_underlying hd, if_true, sizeOf, typeInfo, run_program, hi, hs, hrun, After]
    exact h
  · rename_i a e hd
    obtain ⟨i, hi, hs⟩ := Option.map_eq_some_iff.1 ht
    simp only [OpK, execOp, hx, Instr.loadAt, Instr.sureAddr, Sem.run_bind, Sem.run_pure, Result.andThen_ok, loadVar, isAgg, run_underlying hd, if_true, sizeOf, typeInfo, run_program, hi, hs, hrun, After]
    exact h
  · cases ht

theorem OpK.sliceTo {x hi : Operand} {t e : TypeId} {s : Nat} {a : Option Addr} {n c j : Nat} {k : IntKind} (ht : P.underlying t = some (.slice e)) (hs : (P.info? e).map (·.size) = some s) (hx : ρ x = .slice a n c) (hj : ρ hi = .int k (j : Int)) (hn : j ≤ c)
    (h : K (.slice a j c) w) : OpK P ρ ⟨d, .slice t x none (some hi) none, ty, pos, af, g⟩ w K := by
  have he : P.underlying t = some (.slice (P.elem t)) := by rw [ht]; simp [Program.elem, ht]
  have hel : P.elem t = e := by simp [Program.elem, ht]
  obtain ⟨i, hi, hsz⟩ := Option.map_eq_some_iff.1 hs
  simp only [OpK, execOp, Option.map_some, Option.map_none, hx, hj, Instr.sliceAt, Sem.run_bind, run_underlying ht, Result.andThen_ok]
  rw [run_slice_h w t a n c he k (j : Int) (by omega) (by omega)]
  simp only [hel, sizeOf, typeInfo, run_program, Sem.run_bind, Result.andThen_ok, hi, Sem.run_pure, sliced, Int.toNat_natCast, hsz, Nat.zero_mul, Nat.sub_zero, After]
  have e0 : (if c = 0 then a else a.map fun p => p.add 0) = a := by
    split
    · rfl
    · cases a <;> simp [Addr.add_zero']
  simpa [e0] using h
end
end Go.Kx

/- Rules for walking the reference's functions: frames pinned at loops, boxes, structs stored, drawn reads. -/
namespace Go.Kx
open Go.RowKit
set_option linter.unusedSimpArgs false
set_option linter.unusedVariables false

/-- A frame whose slots of a list are known. -/
def pin : List (Nat × Value) → Fm → Fm
  | [], σ => σ
  | (k, v) :: l, σ => fun t => if t = k then v else pin l σ t
theorem pin_eq {σ : Fm} : ∀ {l : List (Nat × Value)}, (∀ x ∈ l, σ x.1 = x.2) → σ = pin l σ
  | [], _ => rfl
  | (k, v) :: l, h => by
    funext t
    simp only [pin]
    split
    · rename_i e; subst e; exact h (t, v) (by simp)
    · have := pin_eq (l := l) fun x hx => h x (by simp [hx])
      exact congrFun this t
theorem CW.pin {P : Program} {n : Nat} {c : Code} {σ : Fm} {w : World} {Q : Exit → Fm → World → Prop} (l : List (Nat × Value)) (h : ∀ x ∈ l, σ x.1 = x.2) (hc : ∀ σ', CWL P n (flat c) (Go.Kx.pin l σ') w Q) : CW P n c σ w Q := by
  refine CW.of_flat ?_
  rw [pin_eq h]
  exact hc σ
theorem all_pin {p : Nat × Value → Prop} {k : Nat} {v : Value} {l : List (Nat × Value)} (h : p (k, v)) (ht : ∀ x ∈ l, p x) : ∀ x ∈ (k, v) :: l, p x := by
  intro x hx
  rcases List.mem_cons.1 hx with rfl | hx
  · exact h
  · exact ht x hx

/-- A block in a later world. -/
theorem Blk.ch {w w' : World} {g : Nat} {t : TypeId} {cs : List Value} (h : Blk w g t cs) (hc : Ch (fun _ => False) w w') : Blk w' g t cs := h.keep (hc.block g h.lt fun h => h)
theorem Blk.ata {w : World} {g : Nat} {t : TypeId} {cs : List Value} (h : Blk w g t cs) : AtA w ⟨g, 0, none⟩ cs := fun j v hj => by
  rw [Addr.add_mid, Nat.zero_add, h.cell, hj]

section
variable {P : Program} {ρ : Operand → Value} {w : World} {K : Value → World → Prop} {d : Option Tmp} {ty : TypeId} {pos : String} {af : Array Edge} {gd : Option (Nat × Bool)}

theorem OpK.boxG {x : Operand} {t : TypeId} {cs : List Value} (hx : ρ x = .agg cs.toArray) (h : ∀ w1 g, Blk w1 g t cs → Ch (fun _ => False) w w1 → g = w.heap.size → w1.heap.size = w.heap.size + 1 → K (.pointer (some ⟨g, 0, none⟩)) w1) : OpK P ρ ⟨d, .box t x, ty, pos, af, gd⟩ w K := by
  refine OpK.box ?_
  rw [hx]
  exact h _ _ (Blk.new w t cs) (Ch.alloc _ w _) rfl (by simp)
theorem OpK.allocG {t : TypeId} {i : TypeInfo} {zs : List Value} (hi : P.info? t = some i) (hz : i.zero.map (·.cells) = some zs.toArray) (h : ∀ w1 g, Blk w1 g t zs → Ch (fun _ => False) w w1 → g = w.heap.size → w1.heap.size = w.heap.size + 1 → K (.pointer (some ⟨g, 0, none⟩)) w1) : OpK P ρ ⟨d, .alloc t, ty, pos, af, gd⟩ w K := by
  obtain ⟨z, hz1, hz2⟩ := Option.map_eq_some_iff.1 hz
  refine OpK.allocArr hi hz1 ?_
  rw [hz2]
  exact h _ _ (Blk.new w t zs) (Ch.alloc _ w _) rfl (by simp)
/-- A struct into a block of its own. -/
theorem OpK.storeG {x y : Operand} {t tb : TypeId} {g : Nat} {cs us : List Value} (hi : (P.info? t).map (·.size) = some us.length) (hx : ρ x = .pointer (some ⟨g, 0, none⟩)) (hy : ρ y = .agg us.toArray) (h1 : ∀ u ∈ us, u.oneCell' = true) (hb : Blk w g tb cs) (hl : cs.length = us.length)
    (h : ∀ w1, Blk w1 g tb us → Ch (fun k => k = g) w w1 → w1.heap.size = w.heap.size → K undef w1) : OpK P ρ ⟨d, .store t x y, ty, pos, af, gd⟩ w K := by
  refine OpK.storeAny (cur := cs) hi hx hy rfl h1 hb (by omega) ?_
  have hlt := hb.lt
  have e : splice cs us 0 = us := by unfold splice; simp [List.drop_of_length_le, hl]
  rw [e]
  have hset : ∀ k, (w.setRow g us.toArray).heap[k]? = if k = g then some (.cells us.toArray tb (0, 0)) else w.heap[k]? := fun k => by
    simp only [World.setRow, Array.getElem?_modify]
    by_cases hk : k = g
    · subst hk
      simp [show w.heap[k]? = _ from hb]
    · simp [hk, Ne.symm hk]
  refine h _ ?_ ⟨rfl, rfl, rfl, by simp [World.setRow], fun k _ hk => by rw [hset, if_neg hk]⟩ (by simp [World.setRow])
  unfold Blk
  rw [hset, if_pos rfl]

theorem OpK.minI {x y : Operand} {ats : Array TypeId} {k k' : IntKind} {a b : Int} (hx : ρ x = .int k a) (hy : ρ y = .int k' b) (h : K (.int k (if b < a then b else a)) w) : OpK P ρ ⟨d, .call ⟨.builtin .min, #[x, y], ats⟩, ty, pos, af, gd⟩ w K := by
  refine OpK.bi (v := .int k (if b < a then b else a)) (w' := w) (fun cs => ?_) h
  have e : (#[x, y] : Array Operand).map ρ = #[.int k a, .int k' b] := by simp [hx, hy]
  rw [e]
  simp only [builtin, Sem.run_bind, run_min_int2, Result.andThen_ok, Sem.run_pure]

theorem Yi.loadA {S : World → Prop} {x : Operand} {t : TypeId} {a : Addr} {n : Nat} {us : List Value} (ht : aggSize P t = some n) (hx : ρ x = .pointer (some a)) (hr : ∀ w, S w → AtA w a us) (hl : us.length = n) : Yi P S ρ ⟨d, .load t x, ty, pos, af, gd⟩ (.agg us.toArray) :=
  yi_of_OpK rfl fun w hw => OpK.loadA ht hx (hr w hw) hl ⟨rfl, rfl⟩
end

theorem u64_and127 (a : Nat) (h : a < 18446744073709551616) : bits .and .u64 (a : Int) 127 = ((a % 128 : Nat) : Int) := by
  have h1 := (bits_nat .u64 64 (Nat.le_refl _) (fun n h0 h1 => wrap_un .u64 rfl n h0 h1) a 127 h (by decide)).1
  have e : a &&& 127 = a % 128 := Nat.and_two_pow_sub_one_eq_mod a 7
  rw [e] at h1
  exact h1
theorem ux_or128 (a : Nat) (h : a < 128) : bits .or .u8 (a : Int) 128 = ((a + 128 : Nat) : Int) := or_parts .u8 rfl a 1 7 h (by show a + 1 * 2 ^ 7 < 2 ^ 8; omega)
theorem i64_and1 (n : Int) : (Value.int .u8 (IntKind.u8.wrap (bits .and .i64 n 1)) : Value) = bv (UInt8.ofNat (n % 2).toNat) := by
  have e : bits .and .i64 n 1 = ((n % 2).toNat : Nat) := by
    have h1 : (BitVec.ofInt 64 n &&& BitVec.ofInt 64 1).toNat = (n % 2).toNat := by
      rw [BitVec.toNat_and, BitVec.toNat_ofInt, BitVec.toNat_ofInt]
      have : ((1 : Int) % ((2 ^ 64 : Nat) : Int)).toNat = 1 := by decide
      rw [this, Nat.and_one_is_mod]
      have h2 : (0 : Int) ≤ n % ((2 ^ 64 : Nat) : Int) := Int.emod_nonneg _ (by decide)
      omega
    have h3 : bits .and .i64 n 1 = IntKind.i64.wrap ((BitVec.ofInt 64 n &&& BitVec.ofInt 64 1).toNat : Int) := rfl
    rw [h3, h1, i64_nat _ (by omega)]
  rw [e]
  exact byte_bv _ _ (by omega) (by omega)

/-- A new slice of one octet. -/
theorem new_one {P : Program} {e : TypeId} (he : U8 P e) (w : World) (b : UInt8) : Grew e w (.slice none 0 0) (w.alloc (.cells #[.int .u8 (b.toNat : Int)] e)) (.slice (some ⟨w.heap.size, 0, none⟩) 1 1) [b] := by
  have hb := Blk.new w e [Value.int .u8 (b.toNat : Int)]
  refine ⟨⟨rfl, .inr ⟨w.heap.size, 1, #[.int .u8 (b.toNat : Int)], rfl, Nat.zero_le _, hb, Nat.le_refl _, by simp [maxLen], rfl, rfl⟩⟩, Ch.alloc _ w _, fun k hk => ?_⟩
  simp only [Value.ownBlock, Option.some.injEq] at hk
  exact .inr (by omega)

theorem run_loadBlk {P : Program} {w : World} {t tb : TypeId} {g n : Nat} {cs : List Value} (ht : aggSize P t = some n) (hb : Blk w g tb cs) (hl : cs.length = n) : (loadVar t ⟨g, 0, none⟩).run P w = .ok (.agg cs.toArray) w := by
  unfold aggSize at ht
  split at ht
  · rename_i fs hd
    exact run_loadVar_mid w g 0 t cs _ (fun j v hv => by rw [Nat.zero_add, hb.cell]; exact hv) hd rfl (by rw [ht, hl])
  · rename_i a e hd
    exact run_loadVar_mid w g 0 t cs _ (fun j v hv => by rw [Nat.zero_add, hb.cell]; exact hv) hd rfl (by rw [ht, hl])
  · cases ht
theorem OpK.allocZ {P : Program} {ρ : Operand → Value} {w : World} {K : Value → World → Prop} {d : Option Tmp} {ty : TypeId} {pos : String} {af : Array Edge} {gd : Option (Nat × Bool)} {t : TypeId} (zs : List Value) (hz : ((P.info? t).bind (·.zero)).map (·.cells) = some zs.toArray) (h : ∀ w1 g, Blk w1 g t zs → Ch (fun _ => False) w w1 → g = w.heap.size → w1.heap.size = w.heap.size + 1 → K (.pointer (some ⟨g, 0, none⟩)) w1) : OpK P ρ ⟨d, .alloc t, ty, pos, af, gd⟩ w K := by
  obtain ⟨z, hz1, hz2⟩ := Option.map_eq_some_iff.1 hz
  obtain ⟨i, hi, hz3⟩ := Option.bind_eq_some_iff.1 hz1
  exact OpK.allocG hi (by rw [hz3]; simp [hz2]) h
theorem OpK.minN {P : Program} {ρ : Operand → Value} {w : World} {K : Value → World → Prop} {d : Option Tmp} {ty : TypeId} {pos : String} {af : Array Edge} {gd : Option (Nat × Bool)} {x y : Operand} {ats : Array TypeId} {k k' : IntKind} {a b : Nat} (hx : ρ x = .int k (a : Int)) (hy : ρ y = .int k' (b : Int)) (h : K (.int k ((min b a : Nat) : Int)) w) : OpK P ρ ⟨d, .call ⟨.builtin .min, #[x, y], ats⟩, ty, pos, af, gd⟩ w K := by
  refine OpK.minI hx hy ?_
  have e : (if (b : Int) < (a : Int) then (b : Int) else (a : Int)) = ((min b a : Nat) : Int) := by
    split
    · rw [Nat.min_eq_left (by omega)]
    · rw [Nat.min_eq_right (by omega)]
  rw [e]
  exact h
theorem SlIs.form {w : World} {B : Nat} {l : List UInt8} {v : Value} (h : SlIs w B l v) : v.oneCell' = true := by obtain ⟨a, c, rfl, _⟩ := h; rfl
theorem TgIs.form {w : World} {B : Nat} {u : List (UInt32 × List UInt8)} {v : Value} (h : TgIs w B u v) : v.oneCell' = true := by obtain ⟨a, c, rfl, _⟩ := h; rfl
theorem LsIs.form {w : World} {B : Nat} {l : List Tr} {cells : Nat → List Value} {v : Value} (h : LsIs w B l cells v) : v.oneCell' = true := by obtain ⟨a, c, rfl, _⟩ := h; rfl
theorem TrIs.one {w : World} {B : Nat} {t : Tr} {cs : List Value} (h : TrIs w B t cs) : (∀ u ∈ cs, u.oneCell' = true) ∧ cs.length = 5 := by
  cases h with
  | mk cells hn hs hl hc hu =>
    refine ⟨fun u hu' => ?_, rfl⟩
    simp only [List.mem_cons, List.not_mem_nil, or_false] at hu'
    rcases hu' with rfl | rfl | rfl | rfl | rfl
    · rfl
    · exact hs.form
    · rfl
    · exact hl.form
    · exact hu.form
theorem SlIs.nil (w : World) (B : Nat) : SlIs w B [] (.slice none 0 0) := ⟨none, 0, rfl, Nat.le_refl _, by simp [maxLen], fun _ => rfl, fun _ h => by cases h⟩
def zeroT : List Value := [.int .i64 0, .slice none 0 0, .bool false, .slice none 0 0, .slice none 0 0]
theorem TrIs.zero (w : World) (B : Nat) : TrIs w B .zero zeroT :=
  .mk (fun _ => []) (by rw [IntKind.wrap_i64]; omega) (SlIs.nil w B) ⟨none, 0, rfl, Nat.le_refl _, by simp [maxLen], fun _ => rfl, fun _ h => by cases h⟩ (fun i u h => by simp at h) ⟨none, 0, rfl, Nat.le_refl _, by simp [maxLen], fun _ => rfl, fun _ h => by cases h⟩
theorem SlIs.take {w : World} {B : Nat} {l : List UInt8} {a : Option Addr} {c : Nat} (h : SlIs w B l (.slice a l.length c)) (n : Nat) : SlIs w B (l.take n) (.slice a (min n l.length) c) := by
  obtain ⟨a', c', h1, h2, h3, h4, h5⟩ := h
  cases h1
  refine ⟨a, c, by rw [List.length_take], by rw [List.length_take]; omega, h3, fun e => by rw [h4 e]; simp, fun a' e => ⟨(h5 a' e).1.take n, fun hne => (h5 a' e).2 fun e2 => hne (by rw [e2]; simp)⟩⟩
theorem LsIs.take {w : World} {B : Nat} {l : List Tr} {cells : Nat → List Value} {a : Option Addr} {c : Nat} (h : LsIs w B l cells (.slice a l.length c)) (n : Nat) : LsIs w B (l.take n) cells (.slice a (min n l.length) c) := by
  obtain ⟨a', c', h1, h2, h3, h4, h5⟩ := h
  cases h1
  refine ⟨a, c, by rw [List.length_take], by rw [List.length_take]; omega, h3, fun e => by rw [h4 e]; simp, fun a' e => ⟨fun hne => (h5 a' e).1 fun e2 => hne (by rw [e2]; simp), fun i u hu => ?_⟩⟩
  rw [List.getElem?_take] at hu
  split at hu
  · exact (h5 a' e).2 i u hu
  · cases hu
theorem TgIs.take {w : World} {B : Nat} {u : List (UInt32 × List UInt8)} {a : Option Addr} {c : Nat} (h : TgIs w B u (.slice a u.length c)) (n : Nat) : TgIs w B (u.take n) (.slice a (min n u.length) c) := by
  obtain ⟨a', c', h1, h2, h3, h4, h5⟩ := h
  cases h1
  refine ⟨a, c, by rw [List.length_take], by rw [List.length_take]; omega, h3, fun e => by rw [h4 e]; simp, fun a' e => ⟨fun hne => (h5 a' e).1 fun e2 => hne (by rw [e2]; simp), fun i x hx => ?_⟩⟩
  rw [List.getElem?_take] at hx
  split at hx
  · exact (h5 a' e).2 i x hx
  · cases hx
theorem LsIs.tree {w : World} {B : Nat} {l : List Tr} {cells : Nat → List Value} {a : Addr} {n c : Nat} (h : LsIs w B l cells (.slice (some a) n c)) {i : Nat} {u : Tr} (hu : l[i]? = some u) : AtA w (a.add (i * 5)) (cells i) ∧ (cells i).length = 5 := by
  obtain ⟨a', c', h1, h2, h3, h4, h5⟩ := h
  cases h1
  exact ⟨AtA.of_add ((h5 a rfl).2 i u hu).2, ((h5 a rfl).2 i u hu).1⟩

theorem FldsIs.form {w : World} {B d : Nat} {flds : List Fld} {v : Value} (h : FldsIs w B d flds v) : ∃ a c, v = .slice a flds.length c ∧ ∀ (i : Nat) (f : Fld), flds[i]? = some f → ∃ g vs d', a = some ⟨g, 0, none⟩ ∧ g < B ∧ d = d' + 1 ∧ At w g (i * 8) (fldCells f vs) ∧ FldsIs w B d' f.sub vs := by
  cases d with
  | zero =>
    obtain ⟨rfl, rfl⟩ := h
    exact ⟨none, 0, rfl, fun i f hf => by simp at hf⟩
  | succ d =>
    rcases h with ⟨rfl, rfl⟩ | ⟨g, c, rfl, h2, h3, h4, h5⟩
    · exact ⟨none, 0, rfl, fun i f hf => by simp at hf⟩
    · exact ⟨_, c, rfl, fun i f hf => by obtain ⟨vs, e1, e2⟩ := h5 i f hf; exact ⟨g, vs, d, rfl, h4, rfl, e1, e2⟩⟩
theorem FldsIs.one {w : World} {B d : Nat} {flds : List Fld} {v : Value} (h : FldsIs w B d flds v) : v.oneCell' = true := by obtain ⟨a, c, rfl, _⟩ := h.form; rfl
theorem fldCells_one {f : Fld} {vs : Value} (h : vs.oneCell' = true) : ∀ u ∈ fldCells f vs, u.oneCell' = true := by
  intro u hu
  simp only [fldCells, List.mem_cons, List.not_mem_nil, or_false] at hu
  rcases hu with rfl | rfl | rfl | rfl | rfl | rfl | rfl | rfl
  all_goals first | rfl | exact h
theorem At.mid {w : World} {g o : Nat} {cs : List Value} (h : At w g o cs) : AtA w ((⟨g, 0, none⟩ : Addr).add o) cs := fun j v hj => by
  rw [Addr.add_add, Addr.add_mid, Nat.zero_add]; exact h j v hj
def zeroF : List Value := [.int .i64 0, .int .i64 0, .int .i64 0, .int .i64 0, .int .i64 0, .int .i64 0, .int .i64 0, .slice none 0 0]
theorem i64_succ (i : Nat) (h : i < 9223372036854775807) : IntKind.i64.wrap ((i : Int) + 1) = ((i + 1 : Nat) : Int) := by rw [IntKind.wrap_i64]; omega
end Go.Kx

/- Rules for the walk of unknown tags: loops with what they end in, and a slice of tags that grows. -/
namespace Go.Kx
open Go.RowKit
set_option linter.unusedSimpArgs false
set_option linter.unusedVariables false

/-- A loop that ends in J, by the way out of its own block alone. -/
theorem CWL.loopJ {P : Program} {n id : Nat} {c : Code} {cs : List Code} {σ : Fm} {w : World} {Q : Exit → Fm → World → Prop} (I : Nat → Fm → World → Prop) (J : Fm → World → Prop) (m : Nat) (h0 : I m σ w)
    (hb : ∀ m σ w, I m σ w → CW P n c σ w (Then (fun σ' w' => ∃ m', m' < m ∧ I m' σ' w') (InBlock id (Then J fun _ _ _ => False)))) (hn : ∀ σ w, J σ w → CWL P n cs σ w Q) : CWL P n (.block id (.loop c) :: cs) σ w Q := by
  refine CWL.cons (CW.mono (CW.block (Q := Then J fun _ _ _ => False) (CW.loop I m h0 hb)) fun e σ' w' h => ?_)
  cases e with
  | normal => exact hn σ' w' h
  | _ => exact h.elim

theorem HW.step {P : Program} {ops : Array Oper} {S : World → Prop} {i : Nat} {l : List (Nat × Bool)} {o : Oper} {σ : Fm} {w : World} {K : Fm → World → Prop} {v : Value} (hS : S w) (ho : ops[i]? = some o) (hw : wantedB o ops σ = true) (h : OpK P (ev σ) o w fun u w' => u = v ∧ w' = w) (hk : HW P ops S l (upd σ o.dst v) w K) : HW P ops S ((i, false) :: l) σ w K := by
  refine HW.next ho hw (After.mono h fun u w' ⟨e1, e2⟩ => ?_)
  subst e1 e2
  exact ⟨hS, hk⟩

def tgCells (us : List (Nat × Value)) : List Value := us.flatMap fun x => [.int .u32 (x.1 : Int), x.2]
theorem tgCells_len (us : List (Nat × Value)) : (tgCells us).length = us.length * 2 := by
  induction us with
  | nil => rfl
  | cons x us ih => simp only [tgCells, List.flatMap_cons, List.length_append, List.length_cons, List.length_nil] at *; omega
theorem tgCells_get : ∀ {us : List (Nat × Value)} {i : Nat} {x : Nat × Value}, us[i]? = some x → ∀ j u, [Value.int .u32 (x.1 : Int), x.2][j]? = some u → (tgCells us)[i * 2 + j]? = some u
  | [], i, x, h, _, _, _ => by simp at h
  | y :: us, 0, x, h, j, u, hj => by
    simp only [List.getElem?_cons_zero, Option.some.injEq] at h
    subst h
    simp only [Nat.zero_mul, Nat.zero_add, tgCells, List.flatMap_cons]
    rw [List.getElem?_append_left (List.getElem?_eq_some_iff.1 hj).1]
    exact hj
  | y :: us, i + 1, x, h, j, u, hj => by
    simp only [List.getElem?_cons_succ] at h
    have := tgCells_get h j u hj
    simp only [tgCells, List.flatMap_cons] at this ⊢
    rw [List.getElem?_append_right (by simp; omega)]
    simp only [List.length_cons, List.length_nil]
    rw [show (i + 1) * 2 + j - (0 + 1 + 1) = i * 2 + j by omega]
    exact this
theorem tgCells_app (a b : List (Nat × Value)) : tgCells (a ++ b) = tgCells a ++ tgCells b := by simp [tgCells]
theorem tgCells_set (us : List (Nat × Value)) (k : Nat) (x : Nat × Value) (hk : k < us.length) : splice (tgCells us) [.int .u32 (x.1 : Int), x.2] (k * 2) = tgCells (us.set k x) := by
  have e1 : us = us.take k ++ us[k] :: us.drop (k + 1) := by simp
  have e2 : us.set k x = us.take k ++ x :: us.drop (k + 1) := by rw [List.set_eq_take_append_cons_drop, if_pos hk]
  have hl : (tgCells (us.take k)).length = k * 2 := by rw [tgCells_len, List.length_take]; omega
  rw [e2, tgCells_app]
  conv => lhs; rw [e1, tgCells_app]
  generalize tgCells (us.take k) = A at hl ⊢
  simp only [tgCells, List.flatMap_cons]
  generalize List.flatMap (fun x : Nat × Value => [Value.int IntKind.u32 (x.1 : Int), x.2]) (us.drop (k + 1)) = C
  unfold splice
  rw [← hl]
  simp [List.drop_append]

/-- A slice of tags, its row its own. -/
def TOwn (e : TypeId) (w : World) (v : Value) (us : List (Nat × Value)) : Prop := w.ownsRow 0 e 2 v us.length (tgCells us)
theorem TOwn.nil (e : TypeId) (w : World) : TOwn e w (.slice none 0 0) [] := World.ownsRow_nil w 0 e 2
theorem TOwn.lt {e : TypeId} {w : World} {v : Value} {us : List (Nat × Value)} (h : TOwn e w v us) {k : Nat} (hk : v.ownBlock = some k) : k < w.heap.size := (World.ownsRow.lt h k hk).2
theorem TOwn.keep {e : TypeId} {w w' : World} {v : Value} {us : List (Nat × Value)} (h : TOwn e w v us) (hk : ∀ k, v.ownBlock = some k → w'.heap[k]? = w.heap[k]?) : TOwn e w' v us := by
  refine ⟨h.1, ?_⟩
  rcases h.2 with hn | ⟨g, cap, cur, rfl, hb, hg, rest⟩
  · exact .inl hn
  · exact .inr ⟨g, cap, cur, rfl, hb, (hk g rfl).trans hg, rest⟩
theorem TOwn.ch {e : TypeId} {w w' : World} {v : Value} {us : List (Nat × Value)} (h : TOwn e w v us) (hc : Ch (fun _ => False) w w') : TOwn e w' v us := h.keep fun k hk => hc.block k (h.lt hk) fun h => h
theorem TOwn.form {e : TypeId} {w : World} {v : Value} {us : List (Nat × Value)} (h : TOwn e w v us) : ∃ a c, v = .slice a us.length c ∧ ∀ (i : Nat) (x : Nat × Value), us[i]? = some x → ∃ g, a = some ⟨g, 0, none⟩ ∧ g < w.heap.size ∧ v.ownBlock = some g ∧ AtA w ((⟨g, 0, none⟩ : Addr).add (i * 2)) [.int .u32 (x.1 : Int), x.2] := by
  rcases h.2 with ⟨rfl, hn⟩ | ⟨g, cap, cur, rfl, hb, hg, hnc, hcm, hcs, htake⟩
  · have : us = [] := List.eq_nil_of_length_eq_zero hn
    subst this
    exact ⟨none, 0, rfl, fun i x hx => by simp at hx⟩
  · refine ⟨_, cap, rfl, fun i x hx => ⟨g, rfl, h.lt rfl, rfl, fun j u hu => ?_⟩⟩
    rw [Addr.add_add]
    exact World.ownsRow.cells h (g := g) rfl _ u (tgCells_get hx j u hu)
theorem TOwn.one {e : TypeId} {w : World} {v : Value} {us : List (Nat × Value)} (h : TOwn e w v us) : v.oneCell' = true := by obtain ⟨a, c, rfl, _⟩ := h.form; rfl

/-- A tag into a place of the row. -/
theorem OpK.storeT {P : Program} {ρ : Operand → Value} {w : World} {K : Value → World → Prop} {d : Option Tmp} {ty : TypeId} {pos : String} {af : Array Edge} {gd : Option (Nat × Bool)} {x y : Operand} {t e : TypeId} {g k c : Nat} {us : List (Nat × Value)} {z : Nat × Value}
    (hi : (P.info? t).map (·.size) = some 2) (hx : ρ x = .pointer (some ((⟨g, 0, none⟩ : Addr).add (k * 2)))) (hy : ρ y = .agg #[.int .u32 (z.1 : Int), z.2]) (h1 : z.2.oneCell' = true) (ho : TOwn e w (.slice (some ⟨g, 0, none⟩) us.length c) us) (hk : k < us.length)
    (h : ∀ w1, TOwn e w1 (.slice (some ⟨g, 0, none⟩) (us.set k z).length c) (us.set k z) → Ch (fun i => i = g) w w1 → w1.heap.size = w.heap.size → K undef w1) : OpK P ρ ⟨d, .store t x y, ty, pos, af, gd⟩ w K := by
  rcases ho.2 with ⟨hn, _⟩ | ⟨g', cap, cur, hv, hb, hg, hnc, hcm, hcs, htake⟩
  · cases hn
  cases hv
  rw [Addr.add_mid, Nat.zero_add] at hx
  have hcl : cur.toList.length = c * 2 := by simpa using hcs
  refine OpK.storeAny (cur := cur.toList) (us := [.int .u32 (z.1 : Int), z.2]) (te := e) hi hx hy rfl (fun u hu => ?_) (by simpa using hg) (by simp only [List.length_cons, List.length_nil]; omega) ?_
  · simp only [List.mem_cons, List.not_mem_nil, or_false] at hu
    rcases hu with rfl | rfl
    · rfl
    · exact h1
  have hset : ∀ i, (w.setRow g (splice cur.toList [.int .u32 (z.1 : Int), z.2] (k * 2)).toArray).heap[i]? = if i = g then some (.cells (splice cur.toList [.int .u32 (z.1 : Int), z.2] (k * 2)).toArray e (0, 0)) else w.heap[i]? := fun i => by
    simp only [World.setRow, Array.getElem?_modify]
    by_cases hi : i = g
    · subst hi; simp [hg]
    · simp [hi, Ne.symm hi]
  refine h _ ?_ ⟨rfl, rfl, rfl, by simp [World.setRow], fun i _ hi => by rw [hset, if_neg hi]⟩ (by simp [World.setRow])
  refine ⟨by rw [tgCells_len], .inr ⟨g, c, _, rfl, hb, (hset g).trans (if_pos rfl), by simpa using hnc, hcm, ?_, ?_⟩⟩
  · rw [List.size_toArray, splice_length (by simp only [List.length_cons, List.length_nil]; omega), hcl]
  · simp only [List.length_set]
    rw [← tgCells_set us k z hk, ← htake]
    have hsl : ∀ (L : List Value) (m o : Nat) (cc : List Value), o + cc.length ≤ m → m ≤ L.length → (splice L cc o).take m = splice (L.take m) cc o := by
      intro L m o cc h1 h2
      unfold splice
      have e : L = L.take m ++ L.drop m := by simp
      have hlm : (L.take m).length = m := by rw [List.length_take]; omega
      conv => lhs; rw [e]
      rw [List.take_append_of_le_length (l₁ := L.take m) (by omega), List.drop_append_of_le_length (l₁ := L.take m) (by omega), ← List.append_assoc, List.take_append_of_le_length, List.take_of_length_le]
      · simp; omega
      · simp; omega
    exact hsl cur.toList (us.length * 2) (k * 2) _ (by simp only [List.length_cons, List.length_nil]; omega) (by omega)

/-- One tag more: zero. -/
theorem append_tag {P : Program} {w : World} {t e ty : TypeId} (ht : P.underlying t = some (.slice e)) (hz : (P.info? e).map (fun i => (i.zero.map (·.cells), i.size, i.bytes)) = some (some #[.int .u32 0, .slice none 0 0], 2, 32)) {v : Value} {us : List (Nat × Value)} (hv : TOwn e w v us) (hl : us.length < 4294967296)
    {a : Addr} (ha : AtA w a [.int .u32 0, .slice none 0 0]) :
    ∃ v' w', (Builtin.append_ #[t, t] ty #[v, .slice (some a) 1 1]).run P w = .ok v' w' ∧ TOwn e w' v' (us ++ [(0, .slice none 0 0)]) ∧ Ch (fun i => v.ownBlock = some i) w w' ∧ ∀ i, v'.ownBlock = some i → v.ownBlock = some i ∨ w.heap.size ≤ i := by
  obtain ⟨i, hi, hh⟩ := Option.map_eq_some_iff.1 hz
  simp only [Prod.mk.injEq] at hh
  obtain ⟨hz1, hs, hb⟩ := hh
  obtain ⟨z, hz2, hz3⟩ := Option.map_eq_some_iff.1 hz1
  obtain ⟨v', w', hr, hown, hg, _, hat⟩ := run_append_own_at (P := P) w 0 t ty e i z 2 32 ht hi hz2 hs hb (by rw [hz3]; rfl) (by omega) v us.length (tgCells us) hv a 1 1 [.int .u32 0, .slice none 0 0] rfl ha
    (fun u hu => by
      simp only [List.mem_cons, List.not_mem_nil, or_false] at hu
      rcases hu with rfl | rfl <;> rfl) (by simp only [maxLen]; omega) (by omega) (Nat.zero_le _)
  refine ⟨v', w', hr, ?_, Ch.of_grown hg fun k hk => hk, fun j hj => ?_⟩
  · unfold TOwn
    rw [List.length_append, tgCells_app]
    exact hown
  · rcases hat with h | h
    · exact .inl (h ▸ hj)
    · rw [h] at hj
      simp only [Option.some.injEq] at hj
      exact .inr (by omega)

def zeroG : List Value := [.int .u32 0, .slice none 0 0]
theorem run_bsTag {P : Program} {t e : TypeId} (h : abuildS P t 1 [(0, .agg [.lit (.int .u32 0), .lit (.slice none 0 0)])] = some (e, [.lit (.int .u32 0), .lit (.slice none 0 0)])) (w : World) :
    (Instr.buildSlice t 1 #[(0, .agg zeroG.toArray)]).run P w = .ok (.slice (some ⟨w.heap.size, 0, none⟩) 1 1) (w.alloc (.cells zeroG.toArray e)) := by
  obtain ⟨vs, h1, h2⟩ := abuildS_sound (E := []) (qs := #[(0, .agg zeroG.toArray)]) h (.cons ⟨rfl, zeroG, .cons rfl (.cons rfl .nil), rfl⟩ .nil) w
  cases h1 with | cons g0 h1 => cases h1 with | cons g1 h1 => cases h1 with | nil =>
  rw [h2, show _ = _ from g0, show _ = _ from g1]
  rfl
theorem two_at {w : World} {a : Addr} {i : Nat} {x y : Value} (h0 : w.cell? (a.add (i * 2)) = some x) (h1 : w.cell? (a.add (i * 2 + 1)) = some y) : AtA w (a.add (i * 2)) [x, y] := by
  intro j v hj
  rw [Addr.add_add]
  match j, hj with
  | 0, hj => simp only [List.getElem?_cons_zero, Option.some.injEq] at hj; subst hj; exact h0
  | 1, hj => simp only [List.getElem?_cons_succ, List.getElem?_cons_zero, Option.some.injEq] at hj; subst hj; exact h1
theorem AtA.ch {w w' : World} {a : Addr} {cs : List Value} (h : AtA w a cs) (hlt : a.block < w.heap.size) (hc : Ch (fun _ => False) w w') : AtA w' a cs := fun j v hj =>
  (cell_keep (w := w) (w' := w') (by rw [add_block]; exact hc.block a.block hlt fun h => h)).trans (h j v hj)
end Go.Kx
