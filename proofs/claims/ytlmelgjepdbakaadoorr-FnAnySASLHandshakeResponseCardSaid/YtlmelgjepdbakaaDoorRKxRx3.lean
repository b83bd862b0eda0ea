/- New things are zero; the error is returned; a list grows; what a row of things holds while it is read. -/
import Derived.Test.YtlmelgjepdbakaaDoorRKxRx2
namespace Go.Kx
open Go.RowKit
set_option linter.unusedSimpArgs false
set_option linter.unusedVariables false

/-! ### What is new is zero -/
def consV (x : V) : V → V
  | .st l => .st (x :: l)
  | _ => .st [x]
def zeroV : Ty → V
  | .bool => .b false
  | .int _ => .i 0
  | .f64 => .f 0
  | .str => .s []
  | .nstr => .nsN
  | .bytes => .byN
  | .uuid => .u (List.replicate 16 0)
  | .arr _ => .arrN
  | .nil => .st []
  | .cons h t => consV (zeroV h) (zeroV t)
  | .nst _ => .nstN
  | .tags => .tags []
def zeroC : Ty → List Value
  | .bool => [.bool false]
  | .int k => [.int k 0]
  | .f64 => [.float .f64 0]
  | .str => [.string ⟨#[]⟩]
  | .nstr => [.pointer none]
  | .bytes => [.slice none 0 0]
  | .uuid => List.replicate 16 (.int .u8 0)
  | .arr _ => [.slice none 0 0]
  | .nil => []
  | .cons h t => zeroC h ++ zeroC t
  | .nst _ => [.pointer none]
  | .tags => [.map none]
/-- The fields of a struct are a chain. -/
def wfT : Ty → Bool
  | .cons h t => wfT h && (match t with | .nil => true | .cons _ _ => wfT t | _ => false)
  | _ => true
theorem zeroC_len (T : Ty) : (zeroC T).length = T.size := by
  induction T with
  | cons h t ih1 ih2 => simp [zeroC, Ty.size, ih1, ih2]
  | _ => rfl
theorem rep_zero (w : World) (S : Nat → Prop) : ∀ (T : Ty), wfT T = true → Rep w S T (zeroV T) (zeroC T)
  | .bool, _ => rfl
  | .int k, _ => ⟨rfl, by cases k <;> rfl⟩
  | .f64, _ => ⟨rfl, by decide⟩
  | .str, _ => rfl
  | .nstr, _ => rfl
  | .bytes, _ => rfl
  | .uuid, _ => ⟨rfl, rfl⟩
  | .arr _, _ => rfl
  | .nil, _ => ⟨rfl, rfl⟩
  | .nst _, _ => rfl
  | .tags, _ => .inl ⟨rfl, rfl⟩
  | .cons h t, hw => by
    simp only [wfT, Bool.and_eq_true] at hw
    have h1 := rep_zero w S h hw.1
    cases t with
    | nil => exact ⟨_, [], _, [], rfl, rfl, zeroC_len h, h1, rfl, rfl⟩
    | cons h2 t2 =>
      have h2' := rep_zero w S (.cons h2 t2) hw.2
      have : ∃ l, zeroV (.cons h2 t2) = .st l := by
        simp only [zeroV]
        generalize zeroV t2 = y
        cases y <;> exact ⟨_, rfl⟩
      obtain ⟨l, hl⟩ := this
      rw [hl] at h2'
      have e : zeroV (.cons h (.cons h2 t2)) = .st (zeroV h :: l) := by
        show consV (zeroV h) (zeroV (.cons h2 t2)) = _
        rw [hl]
        rfl
      rw [e]
      exact ⟨zeroV h, l, zeroC h, zeroC (.cons h2 t2), rfl, rfl, zeroC_len h, h1, h2'⟩
    | _ => simp at hw

def vEq : Value → Value → Bool
  | .bool a, .bool b => a == b
  | .int k a, .int k' b => decide (k = k') && a == b
  | .float k a, .float k' b => decide (k = k') && a == b
  | .string a, .string b => a.size == 0 && b.size == 0
  | .pointer none, .pointer none => true
  | .slice none a b, .slice none c d => a == c && b == d
  | .map none, .map none => true
  | _, _ => false
theorem bytes_empty {a : ByteArray} (h : a.size = 0) : a = ⟨#[]⟩ := by
  obtain ⟨a⟩ := a
  have : a = #[] := Array.eq_empty_of_size_eq_zero h
  rw [this]
theorem vEq_eq {a b : Value} (h : vEq a b = true) : a = b := by
  unfold vEq at h
  split at h
  · rw [beq_iff_eq.1 h]
  · simp only [Bool.and_eq_true, decide_eq_true_eq, beq_iff_eq] at h; rw [h.1, h.2]
  · simp only [Bool.and_eq_true, decide_eq_true_eq, beq_iff_eq] at h; rw [h.1, h.2]
  · simp only [Bool.and_eq_true, beq_iff_eq] at h; rw [bytes_empty h.1, bytes_empty h.2]
  · rfl
  · simp only [Bool.and_eq_true, beq_iff_eq] at h; rw [h.1, h.2]
  · rfl
  · cases h
def cellsEq : List Value → List Value → Bool
  | [], [] => true
  | a :: l, b :: m => vEq a b && cellsEq l m
  | _, _ => false
theorem cellsEq_eq : ∀ {l m : List Value}, cellsEq l m = true → l = m
  | [], [], _ => rfl
  | a :: l, b :: m, h => by
    simp only [cellsEq, Bool.and_eq_true] at h
    rw [vEq_eq h.1, cellsEq_eq h.2]
  | [], _ :: _, h => by cases h
  | _ :: _, [], h => by cases h

mutual
def veq : V → V → Bool
  | .b x, .b y => x == y
  | .i x, .i y => x == y
  | .f x, .f y => x == y
  | .s x, .s y => x == y
  | .nsN, .nsN => true
  | .byN, .byN => true
  | .u x, .u y => x == y
  | .arrN, .arrN => true
  | .nstN, .nstN => true
  | .tags x, .tags y => x.isEmpty && y.isEmpty
  | .st l, .st m => veqs l m
  | _, _ => false
def veqs : List V → List V → Bool
  | [], [] => true
  | a :: l, b :: m => veq a b && veqs l m
  | _, _ => false
end
mutual
theorem veq_eq (a b : V) (h : veq a b = true) : a = b := by
  cases a with
  | st l =>
    cases b with
    | st m => exact congrArg V.st (veqs_eq l m (by simpa only [veq] using h))
    | _ => simp only [veq] at h; cases h
  | tags l =>
    cases b with
    | tags m =>
      simp only [veq, Bool.and_eq_true, List.isEmpty_iff] at h
      rw [h.1, h.2]
    | _ => simp only [veq] at h; cases h
  | _ => cases b <;> simp only [veq] at h <;> first | (cases h; done) | rfl | (rw [beq_iff_eq] at h; rw [h]; done)
termination_by SizeOf.sizeOf a
theorem veqs_eq (a b : List V) (h : veqs a b = true) : a = b := by
  cases a with
  | nil => cases b with
    | nil => rfl
    | cons _ _ => simp only [veqs] at h; cases h
  | cons x l => cases b with
    | nil => simp only [veqs] at h; cases h
    | cons y m =>
      simp only [veqs, Bool.and_eq_true] at h
      rw [veq_eq x y h.1, veqs_eq l m h.2]
termination_by SizeOf.sizeOf a
end

/-- The type of the things of a list; they are as T says, and zero when new. -/
def elemZ (P : Program) (t it : TypeId) (T : Ty) : Option TypeId :=
  match P.underlying t, P.underlying it with
  | some (.slice e), some (.int .i32) => match P.info? e with
    | some i => match i.zero with
      | some z => if i.size == T.size && Nat.blt 0 T.size && Nat.ble i.bytes 65536 && cellsEq z.cells.toList (zeroC T) then some e else none
      | none => none
    | none => none
  | _, _ => none
theorem elemZ_spec {P : Program} {t it e : TypeId} {T : Ty} (h : elemZ P t it T = some e) :
    P.underlying t = some (.slice e) ∧ P.underlying it = some (.int .i32) ∧ ∃ i z, P.info? e = some i ∧ i.zero = some z ∧ i.size = T.size ∧ 0 < T.size ∧ i.bytes ≤ 65536 ∧ z.cells.toList = zeroC T := by
  unfold elemZ at h
  split at h
  · rename_i e' h1 h2
    split at h
    · rename_i i hi
      split at h
      · rename_i z hz
        split at h
        · rename_i hh
          simp only [Option.some.injEq] at h
          subst h
          simp only [Bool.and_eq_true, beq_iff_eq, Nat.blt_eq, Nat.ble_eq] at hh
          exact ⟨h1, h2, i, z, hi, hz, hh.1.1.1, hh.1.1.2, hh.1.2, cellsEq_eq hh.2⟩
        · cases h
      · cases h
    · cases h
  · cases h

/-- A list that is not there grows by n new things. -/
theorem run_zeros {P : Program} (w : World) (t tn ty e : TypeId) (i : TypeInfo) (z : Value) (k kn : IntKind) (ht : P.underlying t = some (.slice e)) (htn : P.underlying tn = some (.int kn)) (hi : P.info? e = some i) (hz : i.zero = some z)
    (n : Nat) (h0 : 0 < n) (hs : 0 < i.size) (h63 : (n : Int) ≤ 9223372036854775807) (h48 : n * i.bytes ≤ 281474976710656) :
    (Builtin.append_ #[t, tn] ty #[.slice none 0 0, .int k n]).run P w =
      .ok (.slice (some ⟨w.heap.size, 0, none⟩) n (grownCap w n 0 e)) (w.drew.alloc (.cells (Builtin.zeroCells z.cells n ++ Builtin.zeroCells z.cells (grownCap w n 0 e - n)) e)) := by
  have hn : n ≠ 0 := by omega
  have hw : IntKind.i64.wrap (n : Int) = n := by rw [IntKind.wrap_i64]; omega
  have h63' : ¬ (9223372036854775807 < (n : Int)) := by omega
  have h48' : ¬ (281474976710656 < Builtin.nextslicecap n 0 * i.bytes) := by rw [nextslicecap_zero h0]; omega
  have h48i : ¬ (281474976710656 < (n : Int) * (i.bytes : Int)) := by
    rw [← Int.natCast_mul]
    omega
  have hneg : ¬ ((n : Int) < 0) := by omega
  have hns : ¬ (n * i.size = 0) := Nat.mul_ne_zero hn (by omega)
  simp [Builtin.append_, run_underlying ht, run_underlying htn, sizeOf, typeInfo, zeroValue, hi, hz, asInt, asIntOf, hw, hn, hneg, hns, h63', h48', h48i, Question.forced, run_firstCells_none, newRow, grownCap]

theorem zeros_get (zc : Array Value) (n i : Nat) (h : i < n * zc.size) : (Builtin.zeroCells zc n).toList[i]? = zc.toList[i % zc.size]? := by
  have hz : 0 < zc.size := by
    rcases Nat.eq_zero_or_pos zc.size with h0 | h0
    · rw [h0] at h; omega
    · exact h0
  have hm := Nat.mod_lt i hz
  unfold Builtin.zeroCells
  simp only [Array.toList_map, Array.toList_range, List.getElem?_map]
  rw [List.getElem?_range h]
  simp only [Option.map_some]
  rw [getElem!_pos zc (i % zc.size) hm, Array.getElem?_toList, Array.getElem?_eq_getElem hm]
theorem zeros_len (zc : Array Value) (n : Nat) : (Builtin.zeroCells zc n).toList.length = n * zc.size := by simp [Builtin.zeroCells]
/-- The j-th of the new things. -/
theorem zeros_at (zc : Array Value) (n j : Nat) (rest : List Value) (h : j < n) : ((((Builtin.zeroCells zc n).toList ++ rest).drop (j * zc.size)).take zc.size) = zc.toList := by
  have hle : (j + 1) * zc.size ≤ n * zc.size := Nat.mul_le_mul_right _ h
  rw [Nat.add_mul, Nat.one_mul] at hle
  apply List.ext_getElem?
  intro i
  rw [List.getElem?_take, List.getElem?_drop]
  by_cases hi : i < zc.size
  · rw [if_pos hi, List.getElem?_append_left (by rw [zeros_len]; omega), zeros_get _ _ _ (by omega)]
    congr 1
    rw [Nat.mul_comm j, Nat.mul_add_mod, Nat.mod_eq_of_lt hi]
  · rw [if_neg hi, List.getElem?_eq_none (by simpa using hi)]

/-! ### The error is returned -/
def isComp (X : Cx) (f : FuncId) : Bool := match rfAt X.tab f with | some .comp => true | _ => false
def isOk (X : Cx) (f : FuncId) : Bool := match rfAt X.tab f with | some .ok => true | _ => false
theorem isComp_spec {X : Cx} {f : FuncId} (h : isComp X f = true) : rfAt X.tab f = some .comp := by
  unfold isComp at h
  split at h
  · assumption
  · cases h
theorem isOk_spec {X : Cx} {f : FuncId} (h : isOk X f = true) : rfAt X.tab f = some .ok := by
  unfold isOk at h
  split at h
  · assumption
  · cases h
/-- 'return b.Complete()' -/
def compRet (X : Cx) (q : Nat) (cs : List Code) : Bool :=
  match cs with
  | [c, .ret] => match canR c with
    | some ⟨[(op, _)], (d, 1) :: _⟩ => match asCall op with
      | some (f, [.tmp q2]) => q2 == 2 * q && d == X.res && isComp X f
      | _ => false
    | _ => false
  | _ => false
/-- 'if !b.Ok() { return b.Complete() }' -/
def okRet (X : Cx) (L : List Nat) (q : Nat) (cs : List Code) : Option (List Code) :=
  match cs with
  | c1 :: .cond (.tmp tc') A B :: rest => match canR c1 with
    | some ⟨[(op, _), (.unOp .not _ (.tmp 1), _)], (tc, 3) :: b⟩ => match asCall op with
      | some (f, [.tmp q2]) => if q2 == 2 * q && tc == tc' && isOk X f && free (q :: L) ((tc, 3) :: b) && (flat B).isEmpty && compRet X q (flat A) then some rest else none
      | _ => none
    | _ => none
  | _ => none

section
variable {X : Cx} {S W : Nat → Prop} {r : Nat} {tR : TypeId} {L : List Nat} {σ : Fm} {w : World} {Q : Exit → Fm → World → Prop} {s : Rs} {q : Nat} {cs rest : List Code}

theorem compRet_sound (hX : X.Sound) (h : compRet X q cs = true) (hq : σ q = .pointer (some ⟨r, 0, none⟩)) (hR : RdIs w S r tR s) (he : w.cell? ⟨X.gE, 0, none⟩ = some X.eV)
    (hr : ∀ σ', σ' X.res = (if s.bad then X.eV else .nilIface) → Q .ret σ' w) : CWL X.P X.n cs σ w Q := by
  unfold compRet at h
  split at h
  · rename_i c
    split at h
    · rename_i op ty d b hcan
      split at h
      · rename_i f q2 hop
        simp only [Bool.and_eq_true, beq_iff_eq] at h
        obtain ⟨⟨rfl, rfl⟩, hf⟩ := h
        obtain ⟨hcall, hok⟩ := hX.ok f _ (isComp_spec hf)
        refine CWL.reg hcan (OpK.asCall hop hcall rfl ?_)
        simp only [List.map_cons, List.map_nil, ev_tmp, enF_two, hq]
        refine (hok w S r tR s hR he).mono fun en w' ⟨h1, h2⟩ => ⟨_, h1, ?_⟩
        subst h2
        refine CWL.ret (hr _ ?_)
        rw [outF_head]
        simp
      · cases h
    · cases h
  · cases h

theorem okRet_sound (hX : X.Sound) (h : okRet X L q cs = some rest) (hq : σ q = .pointer (some ⟨r, 0, none⟩)) (hR : RdIs w S r tR s) (he : w.cell? ⟨X.gE, 0, none⟩ = some X.eV)
    (hr : s.bad = true → ∀ σ', σ' X.res = X.eV → Q .ret σ' w) (hk : s.bad = false → ∀ σ', (∀ t ∈ L, σ' t = σ t) → CWL X.P X.n rest σ' w Q) : CWL X.P X.n cs σ w Q := by
  unfold okRet at h
  split at h
  · rename_i c1 tc' A B rest'
    split at h
    · rename_i op ty1 ty2 ty3 tc b hcan
      split at h
      · rename_i f q2 hop
        split at h
        · rename_i hh
          simp only [Option.some.injEq] at h
          subst h
          simp only [Bool.and_eq_true, beq_iff_eq, List.isEmpty_iff] at hh
          obtain ⟨⟨⟨⟨⟨rfl, rfl⟩, hf⟩, hfree⟩, hB⟩, hA⟩ := hh
          obtain ⟨hcall, hok⟩ := hX.ok f _ (isOk_spec hf)
          refine CWL.reg hcan (OpK.asCall hop hcall rfl ?_)
          simp only [List.map_cons, List.map_nil, ev_tmp, enF_two, hq]
          refine (hok w S r tR s hR).mono fun en w' ⟨h1, h2⟩ => ⟨_, h1, ?_⟩
          subst h2
          refine OpK.not (b := !s.bad) (by simp) ?_
          simp only [RC]
          have hkeep : ∀ t ∈ q :: L, outF ((tc, 3) :: b) (upd (upd (enF σ) (some (2 * 0 + 1)) (Value.bool !s.bad)) (some (2 * (0 + 1) + 1)) (Value.bool (!!s.bad))) t = σ t := fun t ht => by
            rw [outF_free hfree ht, upd_odd _ _ _ _ (by omega), upd_odd _ _ _ _ (by omega), enF_two]
          cases hb : s.bad with
          | true =>
            rw [hb] at hkeep
            refine CWL.condT (by simp only [ev_tmp, outF_head]; simp [upd, hb]) (CWL.append ?_)
            refine compRet_sound hX hA ((hkeep q (by simp)).trans hq) hR he fun σ' hσ => ?_
            rw [hb, if_pos rfl] at hσ
            exact hr hb σ' hσ
          | false =>
            rw [hb] at hkeep
            refine CWL.condF (by simp only [ev_tmp, outF_head]; simp [upd, hb]) ?_
            rw [hB, List.nil_append]
            exact hk hb _ fun t ht => hkeep t (List.mem_cons_of_mem _ ht)
        · cases h
      · cases h
    · cases h
  · cases h
end

/-! ### A list is cut to nothing, and grows -/
section
variable {P : Program} {ρ : Operand → Value} {w : World} {K : Value → World → Prop} {d : Option Tmp} {ty : TypeId} {pos : String} {af : Array Edge} {g : Option (Nat × Bool)}
theorem addr_add_zero (a : Addr) : a.add 0 = a := by simp [Addr.add]
theorem OpK.slice0 {x : Operand} {t e : TypeId} {a : Option Addr} {n c : Nat} (ht : P.underlying t = some (.slice e)) (hs : (P.info? e).isSome = true) (hx : ρ x = .slice a n c) (hz : ρ (.const (.int .i64 0)) = .int .i64 0)
    (h : K (.slice a 0 c) w) : OpK P ρ ⟨d, .slice t x none (some (.const (.int .i64 0))) none, ty, pos, af, g⟩ w K := by
  have he : P.underlying t = some (.slice (P.elem t)) := by rw [ht]; simp [Program.elem, ht]
  have hel : P.elem t = e := by simp [Program.elem, ht]
  obtain ⟨i, hi⟩ := Option.isSome_iff_exists.1 hs
  simp only [OpK, execOp, Option.map_some, Option.map_none, hx, hz, Instr.sliceAt, Sem.run_bind, run_underlying ht, Result.andThen_ok]
  rw [run_slice_h w t a n c he .i64 0 (by omega) (by omega)]
  simp only [hel, sizeOf, typeInfo, run_program, Sem.run_bind, Result.andThen_ok, hi, Sem.run_pure, sliced, Int.toNat_zero, Nat.zero_mul, Nat.sub_zero, After]
  have : (if c = 0 then a else a.map (·.add 0)) = a := by
    split
    · rfl
    · cases a <;> simp [addr_add_zero]
  rw [this]
  exact h
end
end Go.Kx
