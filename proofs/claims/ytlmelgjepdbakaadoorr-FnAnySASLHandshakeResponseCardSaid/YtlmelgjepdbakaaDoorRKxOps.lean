/- What each kind of operation does, as a rule of its own. -/
import Derived.Test.YtlmelgjepdbakaaDoorRKxCanon
namespace Go.Kx
open Go.RowKit
set_option linter.unusedSimpArgs false

/-- A function with a body of its own. -/
def Callable (P : Program) (f : FuncId) : Prop := ∃ fn, P.funcs[f]? = some fn ∧ (fn.name == "runtime.NumGoroutine") = false ∧ fn.body.isNone = false

theorem run_callFunc {P : Program} {f : FuncId} (h : Callable P f) (args : Array Value) (w : World) : (callFunc f args).run P w = .ok (.enter f args) w := by
  obtain ⟨fn, hf, hn, hb⟩ := h
  simp only [callFunc, Sem.run_bind, run_program, Result.andThen_ok, hf, hn, hb]
  simp

/-- A type whose values have one cell. -/
def oneB (P : Program) (t : TypeId) : Bool :=
  match P.underlying t with
  | some (.struct _) | some (.array ..) | none => false
  | _ => true

theorem run_isAgg_one {P : Program} {t : TypeId} (h : oneB P t = true) (w : World) : (isAgg t).run P w = .ok false w := by
  unfold oneB at h
  cases hd : P.underlying t with
  | none => simp [hd] at h
  | some d => cases d <;> simp [hd] at h <;> simp [isAgg, run_underlying hd]

def fieldOff (P : Program) (T : TypeId) (k : Nat) : Option Nat :=
  match P.underlying T with
  | some (.struct fs) => match fs[k]? with
    | some f => match P.info? f.type with
      | some i => if i.size = 0 then none else some f.offset
      | none => none
    | none => none
  | _ => none

def elemSize (P : Program) (t : TypeId) : Option Nat :=
  match P.underlying t with
  | some (.slice e) => (P.info? e).map (·.size)
  | _ => none

section
variable {P : Program} {ρ : Operand → Value} {w : World} {K : Value → World → Prop} {d : Option Tmp} {ty : TypeId} {pos : String} {af : Array Edge} {g : Option (Nat × Bool)}

theorem OpK.move {x : Operand} (h : K (ρ x) w) : OpK P ρ ⟨d, .move x, ty, pos, af, g⟩ w K := by
  simp only [OpK, execOp, Sem.run_pure, After]; exact h
theorem OpK.assign {x : Operand} (h : K (ρ x) w) : OpK P ρ ⟨d, .assign x, ty, pos, af, g⟩ w K := by
  simp only [OpK, execOp, Sem.run_pure, After]; exact h
theorem OpK.pick {c x y : Operand} {b : Bool} (hc : ρ c = .bool b) (h : K (if b then ρ x else ρ y) w) : OpK P ρ ⟨d, .pick c x y, ty, pos, af, g⟩ w K := by
  simp only [OpK, execOp, hc, asBool, Sem.run_bind, Sem.run_pure, Result.andThen_ok, After]; exact h
theorem OpK.nilCheck {x : Operand} {a : Addr} (hx : ρ x = .pointer (some a)) (h : K (.pointer (some a)) w) : OpK P ρ ⟨d, .nilCheck x, ty, pos, af, g⟩ w K := by
  simp only [OpK, execOp, hx, Sem.run_pure, After]; exact h
theorem OpK.fieldAddr {x : Operand} {T : TypeId} {k off : Nat} {a : Addr} (ho : fieldOff P T k = some off) (hx : ρ x = .pointer (some a)) (h : K (.pointer (some (a.add off))) w) :
    OpK P ρ ⟨d, .fieldAddr T x k, ty, pos, af, g⟩ w K := by
  unfold fieldOff at ho
  split at ho
  · rename_i fs hs
    split at ho
    · rename_i f hf
      split at ho
      · rename_i i hi
        split at ho
        · cases ho
        · rename_i hz
          cases ho
          simp only [OpK, execOp, hx, Instr.fieldAt, Sem.run_bind, run_underlying hs, Result.andThen_ok, hf, Instr.sureAddr, Sem.run_pure, fieldPlace, sizeOf, typeInfo, run_program, hi, if_neg hz, After]
          exact h
      · cases ho
    · cases ho
  · cases ho
theorem OpK.load {x : Operand} {t : TypeId} {a : Addr} {v : Value} (ht : oneB P t = true) (hx : ρ x = .pointer (some a)) (hc : w.cell? a = some v) (h : K v w) :
    OpK P ρ ⟨d, .load t x, ty, pos, af, g⟩ w K := by
  simp only [OpK, execOp, hx, Instr.loadAt, Instr.sureAddr, Sem.run_bind, Sem.run_pure, Result.andThen_ok, loadVar, run_isAgg_one ht]
  simp [hc, After]
  exact h
theorem OpK.store {x y : Operand} {t : TypeId} {a : Addr} {v : Value} (hs : (P.info? t).map (·.size) = some 1) (hx : ρ x = .pointer (some a)) (hy : ρ y = v) (hv : v.oneCell' = true)
    (hc : (w.cell? a).isSome = true) (hf : w.frozen? a = false) (h : K undef (w.setCell a v)) : OpK P ρ ⟨d, .store t x y, ty, pos, af, g⟩ w K := by
  obtain ⟨u, hu⟩ := Option.isSome_iff_exists.1 hc
  obtain ⟨i, hi, hi1⟩ := Option.map_eq_some_iff.1 hs
  have hvc : v.cells = #[v] := by cases v <;> first | rfl | (simp [Value.oneCell'] at hv)
  have ha : a.add 0 = a := by simp [Addr.add]
  simp only [OpK, execOp, hx, hy, Instr.storeAt, Instr.sureAddr, Sem.run_bind, Sem.run_pure, Result.andThen_ok, storeVar, hvc, sizeOf, typeInfo, run_program, hi, hi1]
  simp [storeCells, ha, run_store P w a v .plain hv, hu, hf, After]
  exact h
theorem OpK.len {x : Operand} {t e : TypeId} {a : Option Addr} {n c : Nat} (ht : P.underlying t = some (.slice e)) (hx : ρ x = .slice a n c) (h : K (.int .i64 n) w) :
    OpK P ρ ⟨d, .call ⟨.builtin .len, #[x], #[t]⟩, ty, pos, af, g⟩ w K := by
  simp only [OpK, execOp, resolve, invoke, builtin, Sem.run_bind, Sem.run_pure, Result.andThen_ok, List.map_toArray, List.map_cons, List.map_nil, hx, Builtin.len_]
  simp [run_underlying ht, After, goInt]
  exact h
theorem OpK.lenStr {x : Operand} {t : TypeId} {s : ByteArray} (ht : P.underlying t = some .string) (hx : ρ x = .string s) (h : K (.int .i64 s.size) w) :
    OpK P ρ ⟨d, .call ⟨.builtin .len, #[x], #[t]⟩, ty, pos, af, g⟩ w K := by
  simp only [OpK, execOp, resolve, invoke, builtin, Sem.run_bind, Sem.run_pure, Result.andThen_ok, List.map_toArray, List.map_cons, List.map_nil, hx, Builtin.len_]
  simp [run_underlying ht, After, goInt]
  exact h
theorem OpK.call {f : FuncId} {args : Array Operand} {ats : Array TypeId} (hf : Callable P f) (h : Calls P f (args.map ρ) w fun e w' => ∃ v, e = .returned v ∧ K v w') (hρ : ρ (.func f) = .func (.func f) #[] #[]) :
    OpK P ρ ⟨d, .call ⟨.value (.func f), args, ats⟩, ty, pos, af, g⟩ w K := by
  simp only [OpK, execOp, resolve, hρ, Deferred.ofValue, invoke, Sem.run_bind, Sem.run_pure, Result.andThen_ok]
  simp [invoke, run_callFunc hf, After]
  exact h
theorem OpK.convInt {x : Operand} {s t : TypeId} {k k' : IntKind} {n : Int} (hs : (P.underlying s).isSome = true) (ht : P.underlying t = some (.int k')) (hx : ρ x = .int k n) (h : K (.int k' (k'.wrap n)) w) :
    OpK P ρ ⟨d, .convert s t x, ty, pos, af, g⟩ w K := by
  obtain ⟨ds, hds⟩ := Option.isSome_iff_exists.1 hs
  simp [OpK, execOp, hx, convert, run_underlying hds, run_underlying ht, Conv.intToInt, After]
  exact h
theorem OpK.not {x : Operand} {t : TypeId} {b : Bool} (hx : ρ x = .bool b) (h : K (.bool !b) w) : OpK P ρ ⟨d, .unOp .not t x, ty, pos, af, g⟩ w K := by
  simp [OpK, execOp, hx, Op.unary, After]
  exact h

def cmpB : BinOp → Int → Int → Option Bool
  | .eql, x, y => some (x == y)
  | .neq, x, y => some (x != y)
  | .lss, x, y => some (decide (x < y))
  | .leq, x, y => some (decide (x ≤ y))
  | .gtr, x, y => some (decide (x > y))
  | .geq, x, y => some (decide (x ≥ y))
  | _, _, _ => none

theorem OpK.cmp {x y : Operand} {op : BinOp} {t u : TypeId} {k : IntKind} {a b : Int} {r : Bool} (hr : cmpB op a b = some r) (hx : ρ x = .int k a) (hy : ρ y = .int k b) (h : K (.bool r) w) :
    OpK P ρ ⟨d, .binOp op t x y u, ty, pos, af, g⟩ w K := by
  cases op <;> simp [cmpB] at hr <;> subst hr <;> simp [OpK, execOp, hx, hy, eqGuard, binOp, Op.intCmp, After] <;> exact h

def arithI : BinOp → IntKind → Int → Int → Option Int
  | .add, k, x, y => some (k.wrap (x + y))
  | .sub, k, x, y => some (k.wrap (x - y))
  | .mul, k, x, y => some (k.wrap (x * y))
  | _, _, _, _ => none

theorem OpK.arith {x y : Operand} {op : BinOp} {t u : TypeId} {k : IntKind} {a b r : Int} (hr : arithI op k a b = some r) (hx : ρ x = .int k a) (hy : ρ y = .int k b) (h : K (.int k r) w) :
    OpK P ρ ⟨d, .binOp op t x y u, ty, pos, af, g⟩ w K := by
  cases op <;> simp [arithI] at hr <;> subst hr <;> simp [OpK, execOp, hx, hy, eqGuard, binOp, Op.intArith, After] <;> exact h

theorem OpK.indexAddr {x i : Operand} {t : TypeId} {a : Addr} {n c s : Nat} {k : IntKind} {j : Nat} (hs : elemSize P t = some s) (hx : ρ x = .slice (some a) n c) (hi : ρ i = .int k (j : Int)) (hj : j < n)
    (h : K (.pointer (some (a.add (j * s)))) w) : OpK P ρ ⟨d, .indexAddr t x i, ty, pos, af, g⟩ w K := by
  unfold elemSize at hs
  split at hs
  · rename_i e he
    obtain ⟨inf, hinf, hsz⟩ := Option.map_eq_some_iff.1 hs
    subst hsz
    have h0 : (0 : Int) ≤ j ∧ (j : Int) < n := by omega
    simp only [OpK, execOp, hx, hi, Instr.indexAt, asIntOf, Sem.run_bind, Sem.run_pure, Result.andThen_ok, run_underlying he, if_pos h0, sizeOf, typeInfo, run_program, hinf, Int.toNat_natCast, After]
    exact h
  · cases hs

theorem OpK.buildS {t : TypeId} {n : Nat} {parts : Array (Nat × Operand)} {v : Value} {w' : World} (hr : (Instr.buildSlice t n (parts.map fun (i, x) => (i, ρ x))).run P w = .ok v w') (h : K v w') :
    OpK P ρ ⟨d, .buildSlice t n parts, ty, pos, af, g⟩ w K := by
  simp only [OpK, execOp, Sem.run_bind, hr, Result.andThen_ok, Sem.run_pure, After]
  exact h

theorem OpK.run {x y : Operand} {b : Builtin} {t u : TypeId} {v : Value} {w' : World} (hb : b = .append)
    (hr : (Builtin.append_ #[t, u] ty #[ρ x, ρ y]).run P w = .ok v w') (h : K v w') : OpK P ρ ⟨d, .call ⟨.builtin b, #[x, y], #[t, u]⟩, ty, pos, af, g⟩ w K := by
  subst hb
  simp only [OpK, execOp, resolve, invoke, builtin, Sem.run_bind, Sem.run_pure, Result.andThen_ok, List.map_toArray, List.map_cons, List.map_nil, hr, After]
  exact h
end

section
variable {P : Program} {ρ : Operand → Value} {w : World} {K : Value → World → Prop} {d : Option Tmp} {ty : TypeId} {pos : String} {af : Array Edge} {g : Option (Nat × Bool)}
theorem OpK.shr {x y : Operand} {t u : TypeId} {k q : IntKind} {a b : Int} (hx : ρ x = .int k a) (hy : ρ y = .int q b) (hb : 0 ≤ b) (h : K (.int k (a / 2 ^ min b.toNat k.bits)) w) :
    OpK P ρ ⟨d, .binOp .shr t x y u, ty, pos, af, g⟩ w K := by
  simp [OpK, execOp, hx, hy, eqGuard, binOp, shift_shr_any k q a b hb, After]
  exact h
theorem OpK.and {x y : Operand} {t u : TypeId} {k : IntKind} {a b : Int} (hx : ρ x = .int k a) (hy : ρ y = .int k b) (h : K (.int k (bits .and k a b)) w) : OpK P ρ ⟨d, .binOp .and t x y u, ty, pos, af, g⟩ w K := by
  simp [OpK, execOp, hx, hy, eqGuard, binOp, Op.intBits, After]
  exact h
theorem OpK.or {x y : Operand} {t u : TypeId} {k : IntKind} {a b : Int} (hx : ρ x = .int k a) (hy : ρ y = .int k b) (h : K (.int k (bits .or k a b)) w) : OpK P ρ ⟨d, .binOp .or t x y u, ty, pos, af, g⟩ w K := by
  simp [OpK, execOp, hx, hy, eqGuard, binOp, Op.intBits, After]
  exact h
theorem OpK.indexStr {x i : Operand} {t : TypeId} {s : ByteArray} {k : IntKind} {j : Nat} {b : UInt8} (ht : P.underlying t = some .string) (hx : ρ x = .string s) (hi : ρ i = .int k (j : Int)) (hb : s[j]? = some b) (h : K (.int .u8 b.toNat) w) :
    OpK P ρ ⟨d, .index t x i, ty, pos, af, g⟩ w K := by
  have h0 : (0 : Int) ≤ j := by omega
  simp only [OpK, execOp, hx, hi, Instr.index, asIntOf, Sem.run_bind, Sem.run_pure, Result.andThen_ok, run_underlying ht, if_pos h0, Int.toNat_natCast, hb, After]
  exact h
theorem RW.c {ops : Array Oper} {o : Oper} {l : List Oper} {σ : Fm} {K' : Fm → World → Prop} (hg : o.guard = none) (h : OpK P (ev σ) o w fun v w' => RW P ops l (upd σ o.dst v) w' K') : RW P ops (o :: l) σ w K' := by
  unfold RW
  rw [if_pos (by unfold wantedB; rw [hg])]
  exact h
theorem RW.z {ops : Array Oper} {σ : Fm} {K' : Fm → World → Prop} (h : K' σ w) : RW P ops [] σ w K' := h
end

end Go.Kx
