/- Regions that draw their order: walked in one order, where what may come up early only reads what nobody writes. -/
import Derived.Test.YtlmelgjepdbakaaDoorRKxOps2
import Derived.OrdersHeld
import Derived.Deep.RegionHeld3
namespace Go.Kx
open Go.RowKit
set_option linter.unusedSimpArgs false
set_option linter.unusedVariables false

/-- In every world that meets S the operation yields v, and leaves the world as it is. -/
def Yi (P : Program) (S : World → Prop) (ρ : Operand → Value) (o : Oper) (v : Value) : Prop := ∀ w, S w → (execOp ρ o).run P w = .ok (.value v) w

/-- One operation behind the other, by a list of places; a place with true is taken early. -/
def HW (P : Program) (ops : Array Oper) (S : World → Prop) : List (Nat × Bool) → Fm → World → (Fm → World → Prop) → Prop
  | [], σ, w, K => K σ w
  | (i, true) :: l, σ, w, K =>
    match ops[i]? with
    | some o => ∃ v, ((wantedB o ops σ = true ∧ Yi P S (ev σ) o v) ∨ (wantedB o ops σ = false ∧ v = undef)) ∧ HW P ops S l (upd σ o.dst v) w K
    | none => False
  | (i, false) :: l, σ, w, K =>
    match ops[i]? with
    | some o => wantedB o ops σ = true ∧ OpK P (ev σ) o w fun v w' => S w' ∧ HW P ops S l (upd σ o.dst v) w' K
    | none => False

/-- The list is one way through the region. -/
def schedB (ops : Array Oper) : Array Bool → List (Nat × Bool) → Bool
  | listed, [] => (Region.ready .any ops listed).isEmpty
  | listed, (i, true) :: l => Region.free .any ops listed i && (Region.ready .any ops listed).contains i && schedB ops (listed.setIfInBounds i true) l
  | listed, (i, false) :: l => Region.ready .any ops listed == [i] && schedB ops (listed.setIfInBounds i true) l

theorem wanted_eq {o : Oper} {ops : Array Oper} {n : Nat} {a : Act} {σ : Fm} (ha : Fr n a σ) : Region.wanted o (yielded ops a.tmps) = wantedB o ops σ := by
  unfold Region.wanted wantedB
  split
  · rename_i hg; rw [hg]
  · rename_i j b hg; rw [hg]; simp only [yielded_eq ha]

theorem HW.wp {P : Program} {ops : Array Oper} {S : World → Prop} {n : Nat} {Q : Exit → Act → World → Prop} (hsel : Region.noSelect ops = true) (hQ : ∀ c a w, ¬ Q (.panic c) a w)
    (hs : ops.toList.all (fun o => okDst n o.dst) = true) : ∀ (l : List (Nat × Bool)) (fuel : Nat) (listed : Array Bool) (a : Act) (σ : Fm) (w : World) (K : Fm → World → Prop), l.length ≤ fuel → S w → Fr n a σ →
    schedB ops listed l = true → HW P ops S l σ w K → (∀ a' σ' w', Fr n a' σ' → K σ' w' → Q .normal a' w') → wpAnyH P .any ops Q S fuel listed a w := by
  have okd : ∀ (i : Nat) (o : Oper), ops[i]? = some o → okDst n o.dst = true := by
    intro i o ho
    have := List.all_eq_true.1 hs o (by rw [← Array.mem_def]; exact Array.mem_of_getElem? ho)
    exact this
  intro l
  induction l with
  | nil =>
    intro fuel listed a σ w K _ hS ha hb h hk
    simp only [schedB, List.isEmpty_iff] at hb
    exact wpAnyH_done hb (hk a σ w ha h) fuel
  | cons x l ih =>
    intro fuel listed a σ w K hl hS ha hb h hk
    obtain ⟨i, b⟩ := x
    cases fuel with
    | zero => simp at hl
    | succ fuel =>
      simp only [List.length_cons] at hl
      cases b with
      | true =>
        simp only [schedB, Bool.and_eq_true] at hb
        obtain ⟨⟨h1, h2⟩, h3⟩ := hb
        unfold HW at h
        split at h
        · rename_i o ho
          obtain ⟨v, hy, h'⟩ := h
          refine wpAnyH_take (v := v) ho hsel h1 h2 (fun c a w hq => (hQ _ _ _ hq).elim) (hy.imp (fun ⟨hw, hy⟩ => ⟨by rw [wanted_eq ha]; exact hw, by rw [ha.eval]; exact hy⟩) (fun ⟨hw, hv⟩ => ⟨by rw [wanted_eq ha]; exact hw, hv⟩)) hS ?_
          exact ih fuel _ _ _ w K (by omega) hS (ha.put (okd i o ho) v) h3 h' hk
        · exact h.elim
      | false =>
        simp only [schedB, Bool.and_eq_true, beq_iff_eq] at hb
        obtain ⟨h1, h3⟩ := hb
        unfold HW at h
        split at h
        · rename_i o ho
          obtain ⟨hw, h'⟩ := h
          refine wpAnyH_all (rs := [i]) h1 (by simp) fun j hj => ?_
          obtain rfl : j = i := by simpa using hj
          unfold wpOp
          simp only [ho]
          rw [wanted_eq ha, if_pos hw]
          exact .inl (wp_of_OpK ha h' fun v w' ⟨hS', h''⟩ => ⟨hS', ih fuel _ _ _ w' K (by omega) hS' (ha.put (okd _ o ho) v) h3 h'' hk⟩)
        · exact h.elim

theorem CW.regionD {P : Program} {n id : Nat} {ops : Array Oper} {σ : Fm} {w : World} {Q : Exit → Fm → World → Prop} (hm : P.follows .mixedOrders = true) (S : World → Prop) (l : List (Nat × Bool))
    (hb : (Region.noSelect ops && schedB ops (Array.replicate ops.size false) l && Nat.ble l.length ops.size) = true) (hS : S w.drew) (h : HW P ops S l σ w.drew fun σ' w' => Q .normal σ' w') : CW P n (.region id ops true) σ w Q := by
  intro hs a ha
  simp only [Bool.and_eq_true] at hb
  refine wp_region_noPanic (wp_region_held (S := S) hm ?_)
  exact HW.wp (S := S) hb.1.1 (fun _ _ _ h => h) hs l _ _ a σ _ _ (Nat.le_of_ble_eq_true hb.2) hS ha hb.1.2 h fun a' σ' w' hf hK => ⟨σ', hf, hK⟩

theorem CWL.regD {P : Program} {n id : Nat} {ops : Array Oper} {cs : List Code} {σ : Fm} {w : World} {Q : Exit → Fm → World → Prop} (hm : P.follows .mixedOrders = true) (S : World → Prop) (l : List (Nat × Bool))
    (hb : (Region.noSelect ops && schedB ops (Array.replicate ops.size false) l && Nat.ble l.length ops.size) = true) (hS : S w.drew) (h : HW P ops S l σ w.drew fun σ' w' => CWL P n cs σ' w' Q) : CWL P n (.region id ops true :: cs) σ w Q :=
  CWL.cons (CW.regionD hm S l hb hS h)

/-- What an operation yields by its rule, where it does no more than yield a value. -/
def valOp : Op → Bool
  | .move _ | .assign _ | .load .. | .binOp .. | .unOp .. | .convert .. | .slice .. | .fieldAddr .. | .field .. | .indexAddr .. | .index .. | .extract .. => true
  | _ => false

theorem after_v {P : Program} {s : Sem Value} {w : World} {v : Value} (h : After P ((do pure (Next.value (← s))).run P w) fun u w' => u = v ∧ w' = w) : (do pure (Next.value (← s)) : Sem Next).run P w = .ok (.value v) w := by
  simp only [Sem.run_bind] at h ⊢
  generalize s.run P w = r at h ⊢
  cases r with
  | ok u w' =>
    simp only [Result.andThen_ok, Sem.run_pure, After] at h ⊢
    rw [h.1, h.2]
  | halt x w' => exact h.elim

theorem yi_of_OpK {P : Program} {S : World → Prop} {ρ : Operand → Value} {o : Oper} {v : Value} (ho : valOp o.op = true) (h : ∀ w, S w → OpK P ρ o w fun u w' => u = v ∧ w' = w) : Yi P S ρ o v := by
  intro w hw
  have h := h w hw
  obtain ⟨d, op, ty, pos, af, g⟩ := o
  unfold OpK at h
  cases op <;> first | (simp only [valOp] at ho; cases ho; done) | (simp only [execOp] at h ⊢; exact after_v h) | skip
  case move x => simp only [execOp, Sem.run_pure, After] at h ⊢; rw [h.1]
  case assign x => simp only [execOp, Sem.run_pure, After] at h ⊢; rw [h.1]

section
variable {P : Program} {S : World → Prop} {ρ : Operand → Value} {d : Option Tmp} {ty : TypeId} {pos : String} {af : Array Edge} {g : Option (Nat × Bool)}
theorem Yi.move {x : Operand} : Yi P S ρ ⟨d, .move x, ty, pos, af, g⟩ (ρ x) := yi_of_OpK rfl fun w _ => OpK.move ⟨rfl, rfl⟩
theorem Yi.assign {x : Operand} : Yi P S ρ ⟨d, .assign x, ty, pos, af, g⟩ (ρ x) := yi_of_OpK rfl fun w _ => OpK.assign ⟨rfl, rfl⟩
theorem Yi.pick {c x y : Operand} {b : Bool} (hc : ρ c = .bool b) : Yi P S ρ ⟨d, .pick c x y, ty, pos, af, g⟩ (if b then ρ x else ρ y) := by
  intro w _
  simp only [execOp, hc, asBool, Sem.run_bind, Sem.run_pure, Result.andThen_ok]
theorem Yi.fieldAddr {x : Operand} {T : TypeId} {k off : Nat} {a : Addr} (ho : fieldOff P T k = some off) (hx : ρ x = .pointer (some a)) : Yi P S ρ ⟨d, .fieldAddr T x k, ty, pos, af, g⟩ (.pointer (some (a.add off))) :=
  yi_of_OpK rfl fun w _ => OpK.fieldAddr ho hx ⟨rfl, rfl⟩
theorem Yi.load {x : Operand} {t : TypeId} {a : Addr} {v : Value} (ht : oneB P t = true) (hx : ρ x = .pointer (some a)) (hc : ∀ w, S w → w.cell? a = some v) : Yi P S ρ ⟨d, .load t x, ty, pos, af, g⟩ v :=
  yi_of_OpK rfl fun w hw => OpK.load ht hx (hc w hw) ⟨rfl, rfl⟩
theorem Yi.indexAddr {x i : Operand} {t : TypeId} {a : Addr} {n c s : Nat} {k : IntKind} {j : Nat} (hs : elemSize P t = some s) (hx : ρ x = .slice (some a) n c) (hi : ρ i = .int k (j : Int)) (hj : j < n) :
    Yi P S ρ ⟨d, .indexAddr t x i, ty, pos, af, g⟩ (.pointer (some (a.add (j * s)))) := yi_of_OpK rfl fun w _ => OpK.indexAddr hs hx hi hj ⟨rfl, rfl⟩
theorem Yi.cmp {x y : Operand} {op : BinOp} {t u : TypeId} {k : IntKind} {a b : Int} {r : Bool} (hr : cmpB op a b = some r) (hx : ρ x = .int k a) (hy : ρ y = .int k b) : Yi P S ρ ⟨d, .binOp op t x y u, ty, pos, af, g⟩ (.bool r) :=
  yi_of_OpK rfl fun w _ => OpK.cmp hr hx hy ⟨rfl, rfl⟩
theorem Yi.not {x : Operand} {t : TypeId} {b : Bool} (hx : ρ x = .bool b) : Yi P S ρ ⟨d, .unOp .not t x, ty, pos, af, g⟩ (.bool !b) := yi_of_OpK rfl fun w _ => OpK.not hx ⟨rfl, rfl⟩
end

section
variable {P : Program} {ops : Array Oper} {S : World → Prop} {i : Nat} {l : List (Nat × Bool)} {o : Oper} {σ : Fm} {w : World} {K : Fm → World → Prop}
theorem HW.early {v : Value} (ho : ops[i]? = some o) (hw : wantedB o ops σ = true) (hy : Yi P S (ev σ) o v) (h : HW P ops S l (upd σ o.dst v) w K) : HW P ops S ((i, true) :: l) σ w K := by
  unfold HW; rw [ho]; exact ⟨v, .inl ⟨hw, hy⟩, h⟩
theorem HW.none_ (ho : ops[i]? = some o) (hw : wantedB o ops σ = false) (h : HW P ops S l (upd σ o.dst undef) w K) : HW P ops S ((i, true) :: l) σ w K := by
  unfold HW; rw [ho]; exact ⟨undef, .inr ⟨hw, rfl⟩, h⟩
theorem HW.next (ho : ops[i]? = some o) (hw : wantedB o ops σ = true) (h : OpK P (ev σ) o w fun v w' => S w' ∧ HW P ops S l (upd σ o.dst v) w' K) : HW P ops S ((i, false) :: l) σ w K := by
  unfold HW; rw [ho]; exact ⟨hw, h⟩
theorem HW.done (h : K σ w) : HW P ops S [] σ w K := h
end
theorem HW.mono {P : Program} {ops : Array Oper} {S : World → Prop} : ∀ {l : List (Nat × Bool)} {σ : Fm} {w : World} {K K' : Fm → World → Prop}, HW P ops S l σ w K → (∀ σ w, K σ w → K' σ w) → HW P ops S l σ w K'
  | [], _, _, _, _, h, hk => hk _ _ h
  | (i, true) :: l, σ, w, K, K', h, hk => by
    unfold HW at h ⊢
    split at h
    · obtain ⟨v, h2, h3⟩ := h
      exact ⟨v, h2, HW.mono h3 hk⟩
    · exact h.elim
  | (i, false) :: l, σ, w, K, K', h, hk => by
    unfold HW at h ⊢
    split at h
    · obtain ⟨h1, h2⟩ := h
      exact ⟨h1, After.mono h2 fun v w' ⟨h3, h4⟩ => ⟨h3, HW.mono h4 hk⟩⟩
    · exact h.elim
end Go.Kx
