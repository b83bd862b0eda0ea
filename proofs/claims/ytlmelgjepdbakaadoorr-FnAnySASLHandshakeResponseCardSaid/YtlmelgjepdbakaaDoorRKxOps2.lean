/- More operations as rules: boxes, functions as values, maps' counts. -/
import Derived.Test.YtlmelgjepdbakaaDoorRKxUv
import Derived.MapKept
namespace Go.Kx
open Go.RowKit
set_option linter.unusedSimpArgs false
set_option linter.unusedVariables false

section
variable {P : Program} {ρ : Operand → Value} {w : World} {K : Value → World → Prop} {d : Option Tmp} {ty : TypeId} {pos : String} {af : Array Edge} {g : Option (Nat × Bool)}
theorem OpK.box {x : Operand} {t : TypeId} (h : K (.pointer (some ⟨w.heap.size, 0, none⟩)) (w.alloc (.cells (ρ x).cells t))) : OpK P ρ ⟨d, .box t x, ty, pos, af, g⟩ w K := by
  simp [OpK, execOp, Instr.box, newVar, newRow, After]
  exact h
theorem OpK.makeFunc {f : Fn} {a b : Array Operand} (h : K (.func f (a.map ρ) (b.map ρ)) w) : OpK P ρ ⟨d, .makeFunc f a b, ty, pos, af, g⟩ w K := by
  simp [OpK, execOp, Instr.makeFunc, After]
  exact h
theorem OpK.lenMap {x : Operand} {t k e : TypeId} {r : Nat} {es : Array MapEntry} {clk : Nat} (ht : P.underlying t = some (.map k e)) (hx : ρ x = .map (some r)) (hr : w.heap[r]? = some (.map es clk)) (h : K (.int .i64 es.size) w) :
    OpK P ρ ⟨d, .call ⟨.builtin .len, #[x], #[t]⟩, ty, pos, af, g⟩ w K := by
  simp only [OpK, execOp, resolve, invoke, builtin, Sem.run_bind, Sem.run_pure, Result.andThen_ok, List.map_toArray, List.map_cons, List.map_nil, hx, Builtin.len_]
  simp [run_underlying ht, After, goInt, MapKept.run_getObj_map hr]
  exact h
theorem OpK.lenMap0 {x : Operand} {t k e : TypeId} (ht : P.underlying t = some (.map k e)) (hx : ρ x = .map none) (h : K (.int .i64 0) w) :
    OpK P ρ ⟨d, .call ⟨.builtin .len, #[x], #[t]⟩, ty, pos, af, g⟩ w K := by
  simp only [OpK, execOp, resolve, invoke, builtin, Sem.run_bind, Sem.run_pure, Result.andThen_ok, List.map_toArray, List.map_cons, List.map_nil, hx, Builtin.len_]
  simp [run_underlying ht, After, goInt]
  exact h
end

theorem All2.len {α β : Type} {R : α → β → Prop} {l : List α} {m : List β} (h : All2 R l m) : l.length = m.length := by
  induction h with
  | nil => rfl
  | cons _ _ ih => simp [ih]

theorem u8_nat {n : Nat} (h : n < 256) : IntKind.u8.wrap (n : Int) = (n : Int) := by rw [IntKind.wrap_u8]; omega
theorem utab_le (j : Nat) : utab j ≤ 5 := by unfold utab; repeat' split <;> try omega
theorem ulen_val {n : Nat} (h : n < 4294967296) : (Value.int .i64 (IntKind.i64.wrap ((UInt8.ofNat (utab (bl32 n))).toNat : Int))) = .int .i64 (uvLen n : Int) := by
  have := utab_le (bl32 n)
  rw [utab_bl32 h] at this ⊢
  rw [UInt8.toNat_ofNat', i64_nat _ (by omega)]
  congr 2
  omega
theorem len_fin (a t : Nat) (ha : a ≤ 24) : (Value.int .i64 (IntKind.i64.wrap ((a : Int) + IntKind.i64.wrap ((UInt8.ofNat (bl8 t)).toNat : Int)))) = .int .i64 ((a + bl8 t : Nat) : Int) := by
  have := @bl8_le t
  rw [UInt8.toNat_ofNat', i64_nat _ (by omega), show (bl8 t % 2 ^ 8) = bl8 t by omega, show ((a : Int) + (bl8 t : Int)) = ((a + bl8 t : Nat) : Int) by omega, i64_nat _ (by omega)]

theorem Sound.of_all {P : Program} {e : TypeId} {full : Bool} {tab : List (Nat × Ap)} (h8 : U8 P e) (h : ∀ x ∈ tab, Callable P x.1 ∧ ApOk P e full x.1 x.2) : Sound P e full tab := by
  refine ⟨h8, fun f a hf => ?_⟩
  unfold apAt at hf
  obtain ⟨x, hx, rfl⟩ := Option.map_eq_some_iff.1 hf
  have hm := List.mem_of_find?_eq_some hx
  have he := List.find?_some hx
  simp only [beq_iff_eq] at he
  subst he
  exact h x hm
theorem all_cons {α : Type} {p : α → Prop} {a : α} {l : List α} (h : p a) (k : ∀ x ∈ l, p x) : ∀ x ∈ a :: l, p x := by
  intro x hx
  rcases List.mem_cons.1 hx with rfl | hx
  · exact h
  · exact k x hx
theorem all_nil {α : Type} {p : α → Prop} : ∀ x ∈ ([] : List α), p x := by intro x hx; cases hx

end Go.Kx
namespace Go.Kx
theorem cell_old (w : World) (o : Obj) {g i : Nat} (h : g < w.heap.size) : (w.alloc o).cell? ⟨g, i, none⟩ = w.cell? ⟨g, i, none⟩ := by
  simp [World.cell?, alloc_old w o g h]
theorem cell_new (w : World) (v : Value) (t : TypeId) : (w.alloc (.cells #[v] t)).cell? ⟨w.heap.size, 0, none⟩ = some v := by
  exact (Blk.new w t [v]).cell 0
end Go.Kx
