/- The operations that only yield a value, over plain data; that what they yield is what the machine yields. -/
import Derived.Test.YtlmelgjepdbakaaDoorRKxRun
namespace Go.Kx
open Go.RowKit
set_option linter.unusedSimpArgs false
set_option linter.unusedVariables false

abbrev AF := List AV
def AV.un : AV := .c (.lit undef)
def AF.get (σ : AF) (t : Nat) : AV := σ.getD t AV.un
def AF.set : AF → Nat → AV → AF
  | [], 0, v => [v]
  | [], t + 1, v => AV.un :: AF.set [] t v
  | _ :: l, 0, v => v :: l
  | x :: l, t + 1, v => x :: AF.set l t v
theorem AF.get_set : ∀ (σ : AF) (t : Nat) (v : AV) (i : Nat), (σ.set t v).get i = if i = t then v else σ.get i
  | [], 0, v, i => by cases i <;> simp [AF.set, AF.get, AV.un]
  | [], t + 1, v, i => by
    cases i with
    | zero => simp [AF.set, AF.get]
    | succ i =>
      have := AF.get_set [] t v i
      simp [AF.set, AF.get] at this ⊢; exact this
  | _ :: l, 0, v, i => by cases i <;> simp [AF.set, AF.get]
  | x :: l, t + 1, v, i => by
    cases i with
    | zero => simp [AF.set, AF.get]
    | succ i =>
      have := AF.get_set l t v i
      simp [AF.set, AF.get] at this ⊢; exact this

def FrIs (E : En) (σ : AF) (τ : Fm) : Prop := ∀ t, (σ.get t).is E (τ t)
theorem AV.un_is (E : En) : AV.un.is E undef := rfl
theorem FrIs.le {E E' : En} (h : Le E E') {σ : AF} {τ : Fm} (k : FrIs E σ τ) : FrIs E' σ τ := fun t => (k t).le h
theorem FrIs.upd {E : En} {σ : AF} {τ : Fm} (k : FrIs E σ τ) {v : AV} {u : Value} (hv : v.is E u) (d : Option Nat) : FrIs E (match d with | some d => σ.set d v | none => σ) (upd τ d u) := by
  cases d with
  | none => exact k
  | some d =>
    intro t
    rw [AF.get_set, upd_app]
    by_cases h : t = d
    · rw [if_pos h, if_pos h]; exact hv
    · rw [if_neg h, if_neg h]; exact k t

def aev (σ : AF) : Operand → AV
  | .tmp t => σ.get t
  | .const v => .c (.lit v)
  | .global g => .c (.lit (.pointer (some ⟨g, 0, none⟩)))
  | .func f => .c (.lit (.func (.func f) #[] #[]))
theorem aev_is {E : En} {σ : AF} {τ : Fm} (k : FrIs E σ τ) (x : Operand) : (aev σ x).is E (ev τ x) := by
  cases x with
  | tmp t => exact k t
  | _ => rfl

def aggSize (P : Program) (t : TypeId) : Option Nat :=
  match P.underlying t with
  | some (.struct _) | some (.array ..) => (P.info? t).map (·.size)
  | _ => none

def intB (op : BinOp) (k : IntKind) (a b : Int) : Option Value :=
  match op with
  | .add | .sub | .mul => (arithI op k a b).map (.int k)
  | .and => some (.int k (bits .and k a b))
  | .or => some (.int k (bits .or k a b))
  | .rem => if 0 ≤ a && 0 < b then some (.int k (a % b)) else none
  | .eql | .neq | .lss | .leq | .gtr | .geq => (cmpB op a b).map .bool
  | _ => none

def abin (P : Program) (op : BinOp) (t : TypeId) (y : Operand) (a b : AV) : Option AV :=
  match op, y, a, b with
  | .eql, .const (.slice none 0 0), .c (.sl _ _ _), _ => if (elemSize P t).isSome then some (.c (.lit (.bool false))) else none
  | .eql, .const (.slice none 0 0), .c (.lit (.slice none 0 0)), _ => if (elemSize P t).isSome then some (.c (.lit (.bool true))) else none
  | .eql, .const (.pointer none), .c (.ptr _ _), _ => match P.underlying t with | some (.pointer _) => some (.c (.lit (.bool false))) | _ => none
  | .eql, .const (.pointer none), .c (.lit (.pointer none)), _ => match P.underlying t with | some (.pointer _) => some (.c (.lit (.bool true))) | _ => none
  | .shr, _, .c (.lit (.int k n)), .c (.lit (.int _ (.ofNat m))) => some (.c (.lit (.int k (n / 2 ^ min m k.bits))))
  | op, _, .c (.lit (.int k n)), .c (.lit (.int k' m)) => if k = k' then (intB op k n m).map fun v => .c (.lit v) else none
  | _, _, _, _ => none

def apure (P : Program) (look : Nat → Option AB) (ρ : Operand → AV) : Op → Option AV
  | .move x => some (ρ x)
  | .assign x => some (ρ x)
  | .pick c a b => match ρ c with
    | .c (.lit (.bool t)) => some (if t then ρ a else ρ b)
    | _ => none
  | .fieldAddr T x k => match ρ x, fieldOff P T k with
    | .c (.ptr b o), some off => some (.c (.ptr b (o + off)))
    | _, _ => none
  | .load t x => match ρ x with
    | .c (.ptr b o) => match look b with
      | some B => if oneB P t then (B.cs[o]?).map .c else
        match aggSize P t with
        | some n => if Nat.ble (o + n) B.cs.length then some (.agg ((B.cs.drop o).take n)) else none
        | none => none
      | none => none
    | _ => none
  | .binOp op t x y _ => abin P op t y (ρ x) (ρ y)
  | .unOp .not _ x => match ρ x with
    | .c (.lit (.bool t)) => some (.c (.lit (.bool !t)))
    | _ => none
  | .convert s t x => match ρ x, P.underlying s, P.underlying t with
    | .c (.lit (.int _ n)), some _, some (.int k) => some (.c (.lit (.int k (k.wrap n))))
    | _, _, _ => none
  | .indexAddr t x i => match ρ x, ρ i, elemSize P t with
    | .c (.sl b n _), .c (.lit (.int _ (.ofNat j))), some s => if Nat.blt j n then some (.c (.ptr b (j * s))) else none
    | _, _, _ => none
  | .index t x i => match ρ x, ρ i, P.underlying t with
    | .c (.lit (.string s)), .c (.lit (.int _ (.ofNat j))), some .string => (s[j]?).map fun b => .c (.lit (.int .u8 b.toNat))
    | _, _, _ => none
  | .field t x k => match ρ x, P.underlying t with
    | .agg l, some (.struct fs) => match fs[k]? with
      | some f => if oneB P f.type then (l[f.offset]?).map .c else none
      | none => none
    | _, _ => none
  | _ => none

theorem int_ofNat (n : Nat) : (Int.ofNat n) = (n : Int) := rfl

theorem ptr_fun {E : En} {x : Nat × Nat} {v u : Value} (h : PtrIs E x v) (k : PtrIs E x u) : v = u := by
  obtain ⟨p, hp, rfl⟩ := h
  obtain ⟨q, hq, rfl⟩ := k
  rw [hp] at hq; cases hq; rfl
theorem all2_fun {α β : Type} {R : α → β → Prop} (hR : ∀ a b c, R a b → R a c → b = c) {l : List α} {m : List β} (h : All2 R l m) : ∀ {m' : List β}, All2 R l m' → m = m' := by
  induction h with
  | nil => intro m' k; cases k; rfl
  | cons h1 _ ih => intro m' k; cases k with
    | cons k1 k2 => rw [hR _ _ _ h1 k1, ih k2]
theorem AC.is_fun {E : En} {x : AC} {v u : Value} (h : x.is E v) (k : x.is E u) : v = u := by
  cases x with
  | lit a => exact Eq.trans (h : v = a) (Eq.symm (k : u = a))
  | ptr b o => exact ptr_fun h k
  | sl b n c =>
    obtain ⟨p, hp, rfl⟩ := h
    obtain ⟨q, hq, rfl⟩ := k
    rw [hp] at hq; cases hq; rfl
  | fn f l =>
    obtain ⟨vs, h1, rfl⟩ := h
    obtain ⟨us, k1, rfl⟩ := k
    obtain rfl := all2_fun (R := PtrIs E) (fun _ _ _ h k => ptr_fun h k) h1 k1
    rfl
  | hole m r =>
    obtain ⟨p, h1, _, _, rfl⟩ := h
    obtain ⟨q, k1, _, _, rfl⟩ := k
    rw [h1] at k1; cases k1; rfl
theorem AV.is_fun {E : En} {x : AV} {v u : Value} (h : x.is E v) (k : x.is E u) : v = u := by
  cases x with
  | c x => exact AC.is_fun h k
  | agg l =>
    obtain ⟨vs, h1, rfl⟩ := h
    obtain ⟨us, k1, rfl⟩ := k
    obtain rfl := all2_fun (R := AC.is E) (fun _ _ _ h k => AC.is_fun h k) h1 k1
    rfl

theorem is_lit {E : En} {v u : Value} (h : (AV.c (.lit v)).is E u) : u = v := h
theorem is_ptr {E : En} {b o : Nat} {u : Value} (h : (AV.c (.ptr b o)).is E u) : ∃ p, E[b]? = some p ∧ u = .pointer (some ⟨p.1, o, none⟩) := h
theorem is_sl {E : En} {b n : Nat} {c : Option Nat} {u : Value} (h : (AV.c (.sl b n c)).is E u) : ∃ p, E[b]? = some p ∧ u = .slice (some ⟨p.1, 0, none⟩) n (c.getD p.2) := h

theorem BlkIs.cell {E : En} {w : World} {p : Nat × Nat} {B : AB} (h : BlkIs E w p B) {i : Nat} {x : AC} (hx : B.cs[i]? = some x) : ∃ u, x.is E u ∧ w.cell? ⟨p.1, i, none⟩ = some u := by
  obtain ⟨vs, tl, h1, h2, _⟩ := h
  obtain ⟨u, hu, hr⟩ := h1.get hx
  refine ⟨u, hr, ?_⟩
  have hi : i < vs.length := (List.getElem?_eq_some_iff.1 hu).1
  simp [World.cell?, h2, List.getElem?_append_left hi, hu]

theorem BlkIs.range {E : En} {w : World} {p : Nat × Nat} {B : AB} (h : BlkIs E w p B) (o n : Nat) (hn : o + n ≤ B.cs.length) : ∃ us, All2 (AC.is E) ((B.cs.drop o).take n) us ∧ us.length = n ∧ w.rangeAt p.1 o us := by
  obtain ⟨vs, tl, h1, h2, _⟩ := h
  refine ⟨(vs.drop o).take n, (h1.drop o).take n, by have := h1.len; simp; omega, fun j v hj => ?_⟩
  have hl := h1.len
  rw [List.getElem?_take] at hj
  split at hj
  · rw [List.getElem?_drop] at hj
    have hi : o + j < vs.length := (List.getElem?_eq_some_iff.1 hj).1
    simp [World.cell?, h2, List.getElem?_append_left hi, hj]
  · cases hj

theorem OpK.loadAgg {P : Program} {ρ : Operand → Value} {w : World} {K : Value → World → Prop} {d : Option Tmp} {ty : TypeId} {pos : String} {af : Array Edge} {g : Option (Nat × Bool)} {x : Operand} {t : TypeId} {b o n : Nat}
    {us : List Value} (ht : aggSize P t = some n) (hx : ρ x = .pointer (some ⟨b, o, none⟩)) (hr : w.rangeAt b o us) (hl : us.length = n) (h : K (.agg us.toArray) w) : OpK P ρ ⟨d, .load t x, ty, pos, af, g⟩ w K := by
  unfold aggSize at ht
  have hrun := run_loadCells (P := P) (w := w) (g := b) (o := o) (cs := us) hr
  rw [hl] at hrun
  split at ht
  · rename_i fs hd
    obtain ⟨i, hi, hs⟩ := Option.map_eq_some_iff.1 ht
    simp only [OpK, execOp, hx, Instr.loadAt, Instr.sureAddr, Sem.run_bind, Sem.run_pure, Result.andThen_ok, loadVar, isAgg, run_underlying hd, if_true, sizeOf, typeInfo, run_program, hi, hs, hrun, After]
    exact h
  · rename_i a e hd
    obtain ⟨i, hi, hs⟩ := Option.map_eq_some_iff.1 ht
    simp only [OpK, execOp, hx, Instr.loadAt, Instr.sureAddr, Sem.run_bind, Sem.run_pure, Result.andThen_ok, loadVar, isAgg, run_underlying hd, if_true, sizeOf, typeInfo, run_program, hi, hs, hrun, After]
    exact h
  · cases ht

theorem OpK.rem {P : Program} {ρ : Operand → Value} {w : World} {K : Value → World → Prop} {d : Option Tmp} {ty : TypeId} {pos : String} {af : Array Edge} {g : Option (Nat × Bool)} {x y : Operand} {t u : TypeId} {k : IntKind} {a b : Int}
    (ha : 0 ≤ a) (hb : 0 < b) (hx : ρ x = .int k a) (hy : ρ y = .int k b) (h : K (.int k (a % b)) w) : OpK P ρ ⟨d, .binOp .rem t x y u, ty, pos, af, g⟩ w K := by
  have hne : ¬ b = 0 := by omega
  simp [OpK, execOp, hx, hy, eqGuard, binOp, Op.intDiv, hne, After, Int.tmod_eq_emod_of_nonneg ha]
  exact h

theorem OpK.field {P : Program} {ρ : Operand → Value} {w : World} {K : Value → World → Prop} {d : Option Tmp} {ty : TypeId} {pos : String} {af : Array Edge} {g : Option (Nat × Bool)} {x : Operand} {t : TypeId} {k : Nat} {fs : Array Field} {f : Field}
    {cs : Array Value} {v : Value} (ht : P.underlying t = some (.struct fs)) (hf : fs[k]? = some f) (h1 : oneB P f.type = true) (hx : ρ x = .agg cs) (hv : cs[f.offset]? = some v) (h : K v w) : OpK P ρ ⟨d, .field t x k, ty, pos, af, g⟩ w K := by
  simp only [OpK, execOp, hx, Instr.field, part, asAgg, Sem.run_bind, Sem.run_pure, Result.andThen_ok, run_underlying ht, hf, run_isAgg_one h1]
  simp [hv, After]
  exact h

section
variable {P : Program} {E : En} {ρ : Operand → Value} {w : World} {d : Option Tmp} {ty : TypeId} {pos : String} {af : Array Edge} {g : Option (Nat × Bool)} {x y : Operand} {t u : TypeId}
theorem intB_sound {op : BinOp} {k : IntKind} {a b : Int} {r : Value} (h : intB op k a b = some r) (hx : ρ x = .int k a) (hy : ρ y = .int k b) :
    OpK P ρ ⟨d, .binOp op t x y u, ty, pos, af, g⟩ w fun z w' => (AV.c (.lit r)).is E z ∧ w' = w := by
  unfold intB at h
  split at h
  all_goals first
    | (obtain ⟨q, hq, rfl⟩ := Option.map_eq_some_iff.1 h; first | exact OpK.arith hq hx hy ⟨rfl, rfl⟩ | exact OpK.cmp hq hx hy ⟨rfl, rfl⟩)
    | (cases h; first | exact OpK.and hx hy ⟨rfl, rfl⟩ | exact OpK.or hx hy ⟨rfl, rfl⟩)
    | (split at h
       · rename_i hc; cases h; simp only [Bool.and_eq_true, decide_eq_true_eq] at hc; exact OpK.rem hc.1 hc.2 hx hy ⟨rfl, rfl⟩
       · cases h)
    | cases h

theorem abin_sound {op : BinOp} {a b v : AV} (hx : a.is E (ρ x)) (hy : b.is E (ρ y)) (hc : ∀ v, ρ (.const v) = v) (h : abin P op t y a b = some v) :
    OpK P ρ ⟨d, .binOp op t x y u, ty, pos, af, g⟩ w fun z w' => v.is E z ∧ w' = w := by
  unfold abin at h
  split at h
  · split at h
    · rename_i he
      cases h
      obtain ⟨s, hs⟩ := Option.isSome_iff_exists.1 he
      obtain ⟨p, _, hp⟩ := is_sl hx
      exact OpK.eqNilSlice hs hp (hc _) ⟨rfl, rfl⟩
    · cases h
  · split at h
    · rename_i he
      cases h
      obtain ⟨s, hs⟩ := Option.isSome_iff_exists.1 he
      exact OpK.eqNilSlice hs (is_lit hx) (hc _) ⟨rfl, rfl⟩
    · cases h
  · split at h
    · rename_i e he
      cases h
      obtain ⟨p, _, hp⟩ := is_ptr hx
      exact OpK.eqNilPtr he hp (hc _) ⟨rfl, rfl⟩
    · cases h
  · split at h
    · rename_i e he
      cases h
      exact OpK.eqNilPtr he (is_lit hx) (hc _) ⟨rfl, rfl⟩
    · cases h
  · cases h
    rename_i k n k' m
    exact OpK.shr (b := (m : Int)) (is_lit hx) (is_lit hy) (by omega) ⟨by rw [Int.toNat_natCast]; rfl, rfl⟩
  · split at h
    · rename_i hk
      subst hk
      obtain ⟨r, hr, rfl⟩ := Option.map_eq_some_iff.1 h
      exact intB_sound hr (is_lit hx) (is_lit hy)
    · cases h
  · cases h
end

theorem apure_OpK {P : Program} {E : En} {look : Nat → Option AB} {ρa : Operand → AV} {ρ : Operand → Value} {w : World} (hρ : ∀ x, (ρa x).is E (ρ x)) (hc : ∀ v, ρ (.const v) = v) (hw : Rd E look w)
    {d : Option Tmp} {op : Op} {ty : TypeId} {pos : String} {af : Array Edge} {g : Option (Nat × Bool)} {v : AV} (h : apure P look ρa op = some v) :
    OpK P ρ ⟨d, op, ty, pos, af, g⟩ w fun u w' => v.is E u ∧ w' = w := by
  unfold apure at h
  split at h
  · cases h; exact OpK.move ⟨hρ _, rfl⟩
  · cases h; exact OpK.assign ⟨hρ _, rfl⟩
  · rename_i c a b
    split at h
    · rename_i t ht
      cases h
      refine OpK.pick (b := t) (is_lit (ht ▸ hρ c)) ⟨?_, rfl⟩
      cases t
      · exact hρ b
      · exact hρ a
    · cases h
  · rename_i T x k
    split at h
    · rename_i b o off hx ho
      cases h
      obtain ⟨p, hp, hv⟩ := is_ptr (hx ▸ hρ x)
      exact OpK.fieldAddr ho hv ⟨⟨p, hp, by rw [Addr.add_mid]⟩, rfl⟩
    · cases h
  · rename_i t x
    split at h
    · rename_i b o hx
      obtain ⟨p, hp, hv⟩ := is_ptr (hx ▸ hρ x)
      split at h
      · rename_i B hB
        obtain ⟨q, hq, hb⟩ := hw b B hB
        rw [hp] at hq; cases hq
        split at h
        · rename_i h1
          obtain ⟨y, hy, rfl⟩ := Option.map_eq_some_iff.1 h
          obtain ⟨u, hu, hcell⟩ := hb.cell hy
          exact OpK.load h1 hv hcell ⟨hu, rfl⟩
        · split at h
          · rename_i n hn
            split at h
            · rename_i hle
              cases h
              obtain ⟨us, h1, h2, h3⟩ := hb.range o n (Nat.le_of_ble_eq_true hle)
              exact OpK.loadAgg hn hv h3 h2 ⟨⟨us, h1, rfl⟩, rfl⟩
            · cases h
          · cases h
      · cases h
    · cases h
  · exact abin_sound (hρ _) (hρ _) hc h
  · rename_i t x
    split at h
    · rename_i b hx
      cases h
      exact OpK.not (is_lit (hx ▸ hρ x)) ⟨rfl, rfl⟩
    · cases h
  · rename_i s t x
    split at h
    · rename_i k0 n ds k hx hs ht
      cases h
      exact OpK.convInt (by rw [hs]; rfl) ht (is_lit (hx ▸ hρ x)) ⟨rfl, rfl⟩
    · cases h
  · rename_i t x i
    split at h
    · rename_i b n c k j s hx hi hs
      split at h
      · rename_i hj
        cases h
        obtain ⟨p, hp, hv⟩ := is_sl (hx ▸ hρ x)
        refine OpK.indexAddr hs hv (is_lit (hi ▸ hρ i)) (by simpa [Nat.blt_eq] using hj) ⟨⟨p, hp, ?_⟩, rfl⟩
        rw [Addr.add_mid, Nat.zero_add]
      · cases h
    · cases h
  · rename_i t x i
    split at h
    · rename_i s k j hx hi ht
      obtain ⟨b, hb, rfl⟩ := Option.map_eq_some_iff.1 h
      exact OpK.indexStr ht (is_lit (hx ▸ hρ x)) (is_lit (hi ▸ hρ i)) hb ⟨rfl, rfl⟩
    · cases h
  · rename_i t x k
    split at h
    · rename_i l fs hx ht
      split at h
      · rename_i f hf
        split at h
        · rename_i h1
          obtain ⟨y, hy, rfl⟩ := Option.map_eq_some_iff.1 h
          obtain ⟨us, hu, hv⟩ : ∃ us, All2 (AC.is E) l us ∧ ρ x = .agg us.toArray := by have := hρ x; rw [hx] at this; exact this
          obtain ⟨z, hz, hr⟩ := hu.get hy
          exact OpK.field ht hf h1 hv (by simpa using hz) ⟨hr, rfl⟩
        · cases h
      · cases h
    · cases h
  · cases h

theorem after_ex {P : Program} {s : Sem Value} {w : World} {R : Value → Prop} (h : After P ((do pure (Next.value (← s))).run P w) fun u w' => R u ∧ w' = w) : ∃ u, R u ∧ (do pure (Next.value (← s)) : Sem Next).run P w = .ok (.value u) w := by
  simp only [Sem.run_bind] at h ⊢
  generalize s.run P w = r at h ⊢
  cases r with
  | ok u w' =>
    simp only [Result.andThen_ok, Sem.run_pure, After] at h ⊢
    exact ⟨u, h.1, by rw [h.2]⟩
  | halt x w' => exact h.elim

theorem apure_run {P : Program} {E : En} {look : Nat → Option AB} {ρa : Operand → AV} {ρ : Operand → Value} {w : World} (hρ : ∀ x, (ρa x).is E (ρ x)) (hc : ∀ v, ρ (.const v) = v) (hw : Rd E look w)
    {o : Oper} {v : AV} (h : apure P look ρa o.op = some v) : ∃ u, v.is E u ∧ (execOp ρ o).run P w = .ok (.value u) w := by
  obtain ⟨d, op, ty, pos, af, g⟩ := o
  have hk := apure_OpK (d := d) (ty := ty) (pos := pos) (af := af) (g := g) hρ hc hw h
  unfold OpK at hk
  cases op <;> first | (simp only [apure] at h; cases h; done) | (simp only [execOp] at hk ⊢; exact after_ex hk) | skip
  case move x => simp only [execOp, Sem.run_pure, After] at hk ⊢; exact ⟨_, hk.1, rfl⟩
  case assign x => simp only [execOp, Sem.run_pure, After] at hk ⊢; exact ⟨_, hk.1, rfl⟩
  case pick c a b =>
    simp only [apure] at h
    split at h
    · rename_i t ht
      have := is_lit (ht ▸ hρ c)
      simp only [execOp, this, asBool, Sem.run_bind, Sem.run_pure, Result.andThen_ok, After] at hk ⊢
      exact ⟨_, hk.1, rfl⟩
    · cases h

theorem apure_yi {P : Program} {E : En} {look : Nat → Option AB} {ρa : Operand → AV} {ρ : Operand → Value} {w : World} (hρ : ∀ x, (ρa x).is E (ρ x)) (hc : ∀ v, ρ (.const v) = v) (hw : Rd E look w)
    {o : Oper} {v : AV} (h : apure P look ρa o.op = some v) : ∃ u, v.is E u ∧ Yi P (Rd E look) ρ o u := by
  obtain ⟨u, hu, _⟩ := apure_run hρ hc hw h
  refine ⟨u, hu, fun w' hw' => ?_⟩
  obtain ⟨u', hu', hr⟩ := apure_run hρ hc hw' h
  rw [AV.is_fun hu hu']
  exact hr

end Go.Kx
