/- A list is read: the row of its things, the loop over them. -/
import Derived.Test.YtlmelgjepdbakaaDoorRKxRx3
namespace Go.Kx
open Go.RowKit
set_option linter.unusedSimpArgs false
set_option linter.unusedVariables false

/-! ### A loop of n rounds -/
def rdLoop (L : List Nat) (ln : Nat) (cs : List Code) : Option (Nat × Code × List Code) :=
  match cs with
  | c0 :: .block id1 (.loop body) :: rest =>
    match canR c0, flat body with
    | some ⟨[(.assign (.const (.int .i32 0)), _)], (ix, 1) :: b⟩, [c1, .cond (.tmp tc') A B, .block id2 inner, c2] =>
      match canR c1, canR c2 with
      | some ⟨[(.binOp .lss _ (.tmp ix2) (.tmp ln2) _, _)], (tc, 1) :: b1⟩, some ⟨[(.binOp .add _ (.tmp ix3) (.const (.int .i32 1)) _, _)], (ix', 1) :: b2⟩ =>
        if ix2 == 2 * ix && ln2 == 2 * ln && ix3 == 2 * ix && ix' == ix && tc == tc' && (flat A).isEmpty && isExit B id1 && id1 != id2 &&
          free (ln :: L) ((ix, 1) :: b) && free (ix :: ln :: L) ((tc, 1) :: b1) && free (ln :: L) ((ix', 1) :: b2) then some (ix, inner, rest) else none
      | _, _ => none
    | _, _ => none
  | _ => none

theorem rdLoop_sound {P : Program} {n : Nat} {L : List Nat} {ln ix : Nat} {cs rest : List Code} {inner : Code} (h : rdLoop L ln cs = some (ix, inner, rest)) {σ : Fm} {w : World} {Q : Exit → Fm → World → Prop}
    {z : Int} {m : Nat} (hm : m = z.toNat) (hz : z < 2147483648) (I : Nat → World → Prop) (hln : σ ln = .int .i32 z) (h0 : I 0 w)
    (body : ∀ (i : Nat) (σ' : Fm) (w' : World) (Q' : Exit → Fm → World → Prop), i < m → I i w' → σ' ix = .int .i32 (i : Int) → (∀ t ∈ ln :: L, σ' t = σ t) → (∀ σ w, Q .ret σ w → Q' .ret σ w) →
      (∀ σ'' w'', I (i + 1) w'' → (∀ t ∈ ix :: ln :: L, σ'' t = σ' t) → Q' .normal σ'' w'') → CWL P n (flat inner) σ' w' Q')
    (hk : ∀ σ' w', I m w' → (∀ t ∈ ln :: L, σ' t = σ t) → CWL P n rest σ' w' Q) : CWL P n cs σ w Q := by
  unfold rdLoop at h
  split at h
  · rename_i c0 id1 bd rest
    split at h
    · rename_i ty0 ix b c1 tc' A B id2 inner c2 hcan hbody
      split at h
      · rename_i u1 ix2 ln2 u2 ty3 tc b1 u3 ix3 u4 ty4 ix' b2 hcan1 hcan2
        split at h
        · rename_i hh
          simp only [Option.some.injEq, Prod.mk.injEq] at h
          obtain ⟨rfl, rfl, rfl⟩ := h
          simp only [Bool.and_eq_true, beq_iff_eq, bne_iff_ne, ne_eq, List.isEmpty_iff] at hh
          obtain ⟨⟨⟨⟨⟨⟨⟨⟨⟨⟨rfl, rfl⟩, rfl⟩, rfl⟩, rfl⟩, hA⟩, hB⟩, hid⟩, hfree⟩, hfree1⟩, hfree2⟩ := hh
          obtain rfl := isExit_spec hB
          refine CWL.reg hcan (OpK.assign ?_)
          simp only [RC, ev_const]
          generalize hσ1 : outF ((ix', 1) :: b) (upd (enF σ) (some (2 * 0 + 1)) (Value.int .i32 0)) = σ1
          have hix : σ1 ix' = .int .i32 ((0 : Nat) : Int) := by rw [← hσ1, outF_head]; simp [upd]
          have hkeep : ∀ t ∈ ln :: L, σ1 t = σ t := fun t ht => by
            rw [← hσ1, outF_free hfree ht]
            show upd _ (some 1) _ (2 * t) = _
            rw [upd_odd _ _ _ _ (by omega), enF_two]
          refine CWL.cons (CW.block (CW.loop (fun k σ' w' => ∃ i : Nat, k = m - i ∧ i ≤ m ∧ σ' ix' = .int .i32 (i : Int) ∧ (∀ t ∈ ln :: L, σ' t = σ t) ∧ I i w') m ⟨0, by omega, by omega, hix, hkeep, h0⟩ ?_))
          rintro k σ2 w2 ⟨i, rfl, hi, hix2, hkeep2, hI⟩
          refine CW.of_flat ?_
          rw [hbody]
          have hln2 : σ2 ln = .int .i32 z := (hkeep2 ln (by simp)).trans hln
          refine CWL.reg hcan1 (OpK.cmp (op := .lss) (k := .i32) (a := (i : Int)) (b := z) rfl (by simp only [ev_tmp, enF_two]; exact hix2) (by simp only [ev_tmp, enF_two]; exact hln2) ?_)
          simp only [RC]
          generalize hσ3 : outF ((tc, 1) :: b1) (upd (enF σ2) (some (2 * 0 + 1)) (Value.bool (decide ((i : Int) < z)))) = σ3
          have htc : σ3 tc = .bool (decide ((i : Int) < z)) := by rw [← hσ3, outF_head]; simp [upd]
          have hkeep3 : ∀ t ∈ ix' :: ln :: L, σ3 t = σ2 t := fun t ht => by
            rw [← hσ3, outF_free hfree1 ht]
            show upd _ (some 1) _ (2 * t) = _
            rw [upd_odd _ _ _ _ (by omega), enF_two]
          by_cases hlt : i < m
          · refine CWL.cons (CW.cond (t := true) (by simp only [ev_tmp, htc]; congr 1; simp; omega) (CW.of_flat ?_))
            simp only [if_true, hA]
            refine CWL.cons (CW.block (CW.of_flat ?_))
            refine body i σ3 w2 _ hlt hI ((hkeep3 ix' (by simp)).trans hix2) (fun t ht => (hkeep3 t (List.mem_cons_of_mem _ ht)).trans (hkeep2 t ht)) (fun σ w hq => hq) fun σ4 w4 hI4 he4 => ?_
            have hk4 : ∀ t ∈ ix' :: ln :: L, σ4 t = σ2 t := fun t ht => (he4 t ht).trans (hkeep3 t ht)
            refine CWL.reg hcan2 (OpK.arith (op := .add) (k := .i32) (a := (i : Int)) (b := 1) rfl (by simp only [ev_tmp, enF_two]; rw [hk4 ix' (by simp)]; exact hix2) rfl ?_)
            simp only [RC]
            refine ⟨m - (i + 1), by omega, i + 1, rfl, by omega, ?_, ?_, hI4⟩
            · rw [outF_head]
              simp only [upd, if_true, Nat.mul_zero, Nat.zero_add]
              congr 1
              rw [IntKind.wrap_i32]
              omega
            · intro t ht
              rw [outF_free hfree2 ht]
              show upd _ (some 1) _ (2 * t) = _
              rw [upd_odd _ _ _ _ (by omega), enF_two, hk4 t (List.mem_cons_of_mem _ ht)]
              exact hkeep2 t ht
          · have him : i = m := by omega
            refine CWL.cons (CW.cond (t := false) (by simp only [ev_tmp, htc]; congr 1; simp; omega) (CW.of_flat ?_))
            simp only [Bool.false_eq_true, if_false, flat]
            refine CWL.cons (CW.exit ?_)
            simp only [Then, InBlock, if_true]
            exact hk σ3 w2 (him ▸ hI) fun t ht => (hkeep3 t (List.mem_cons_of_mem _ ht)).trans (hkeep2 t ht)
        · cases h
      · cases h
    · cases h
  · cases h

/-! ### The row of a list's things while they are read -/
def Wa (W : Nat → Prop) (ga : Nat) : Nat → Prop := fun k => W k ∨ k = ga
structure ArrSt (X : Cx) (S W : Nat → Prop) (r : Nat) (tR : TypeId) (T : Ty) (ga : Nat) (te : TypeId) (m : Nat) (w : World) (vs : List V) (s : Rs) (ca : List Value) : Prop where
  rd : RdIs w S r tR s
  blk : Blk w ga te ca
  len : m * T.size ≤ ca.length
  done : ∀ j x, vs[j]? = some x → Rep w (Ob (Wa W ga) w) T x ((ca.drop (j * T.size)).take T.size)
  todo : ∀ j, vs.length ≤ j → j < m → (ca.drop (j * T.size)).take T.size = zeroC T
  err : w.cell? ⟨X.gE, 0, none⟩ = some X.eV
  bound : ∀ k, Wa W ga k → k < w.heap.size
  src : ∀ k, S k → k < w.heap.size ∧ ¬ Wa W ga k
  wr : W r
  ne : r ≠ ga
  eW : X.gE < w.heap.size ∧ X.gE ≠ r ∧ X.gE ≠ ga

section
variable {X : Cx} {S W : Nat → Prop} {r : Nat} {tR : TypeId} {T : Ty} {ga : Nat} {te : TypeId} {m : Nat} {w w' : World} {vs : List V} {s s' : Rs} {ca ca' : List Value}

theorem mul_lt_le {i m n : Nat} (h : i < m) : i * n + n ≤ m * n := by
  have := Nat.mul_le_mul_right n h
  rw [Nat.succ_mul] at this
  exact this
/-- The next thing is new. -/
theorem ArrSt.mem (h : ArrSt X S W r tR T ga te m w vs s ca) (hw : wfT T = true) (hi : vs.length < m) : Mem X S (Wa W ga) r tR T ga (vs.length * T.size) te w (zeroV T) s ca :=
  ⟨h.rd, h.blk, by rw [h.todo _ (Nat.le_refl _) hi]; exact rep_zero _ _ _ hw, Nat.le_trans (mul_lt_le hi) h.len, h.err, h.bound, h.src, .inl h.wr, .inr rfl, h.ne, h.eW⟩
theorem sub_out {ca ca' : List Value} {o n p : Nat} (h : Outside ca ca' o n) (hp : p + n ≤ o ∨ o + n ≤ p) : (ca'.drop p).take n = (ca.drop p).take n := by
  apply List.ext_getElem?
  intro i
  rw [List.getElem?_take, List.getElem?_take, List.getElem?_drop, List.getElem?_drop]
  by_cases hi : i < n
  · rw [if_pos hi, if_pos hi, h.2 (p + i) (by omega)]
  · rw [if_neg hi, if_neg hi]
theorem apart_mul {i j n : Nat} (h : i ≠ j) : i * n + n ≤ j * n ∨ j * n + n ≤ i * n := by
  rcases Nat.lt_or_gt_of_ne h with h | h
  · exact .inl (mul_lt_le h)
  · exact .inr (mul_lt_le h)
/-- One thing more is read. -/
theorem ArrSt.next (h : ArrSt X S W r tR T ga te m w vs s ca) {x : V} (hM : Mem X S (Wa W ga) r tR T ga (vs.length * T.size) te w' x s' ca') (ho : Outside ca ca' (vs.length * T.size) T.size) (hc : Ch (rg r ga) w w') :
    ArrSt X S W r tR T ga te m w' (vs ++ [x]) s' ca' := by
  refine ⟨hM.rd, hM.blk, by rw [ho.1]; exact h.len, fun j y hy => ?_, fun j hj hjm => ?_, hM.err, hM.bound, hM.src, h.wr, h.ne, hM.eW⟩
  · by_cases hj : j < vs.length
    · rw [List.getElem?_append_left hj] at hy
      rw [sub_out ho (apart_mul (by omega))]
      refine (h.done j y hy).keepMono (fun k hk => hc.block k hk.1 fun e => ?_) (Ob.up hc.size)
      rcases e with rfl | rfl
      · exact hk.2 (.inl h.wr)
      · exact hk.2 (.inr rfl)
    · rw [List.getElem?_append_right (by omega)] at hy
      have : j = vs.length := by
        rcases Nat.eq_zero_or_pos (j - vs.length) with h0 | h0
        · omega
        · rw [List.getElem?_eq_none (by simp; omega)] at hy; cases hy
      subst this
      rw [Nat.sub_self] at hy
      cases hy
      exact hM.rep
  · simp only [List.length_append, List.length_cons, List.length_nil] at hj
    rw [sub_out ho (apart_mul (by omega))]
    exact h.todo j (by omega) hjm
/-- The list stands. -/
theorem ArrSt.list (h : ArrSt X S W r tR T ga te m w vs s ca) (hl : vs.length = m) {c : Nat} (hm : m ≤ c) (hc : c ≤ 9223372036854775807) (hg : ¬ W ga) : Rep w (Ob W w) (.arr T) (.arr vs) [.slice (some ⟨ga, 0, none⟩) m c] := by
  refine ⟨ga, c, by rw [hl], ⟨by omega, hc⟩, ⟨h.bound ga (.inr rfl), hg⟩, fun i v hv => ?_⟩
  have hr := h.done i v hv
  refine ⟨_, hr.mono fun k hk => ⟨hk.1, fun hw => hk.2 (.inl hw)⟩, hr.size, fun j u hu => ?_⟩
  rw [List.getElem?_take] at hu
  split at hu
  · rw [List.getElem?_drop] at hu
    rw [h.blk.cell]
    exact hu
  · cases hu
end

/-- What has been read of a list so far. -/
def GotN (oi : Option (List V × List UInt8)) (vs : List V) (s : Rs) : Prop :=
  match oi with
  | some y => vs = y.1 ∧ s = ⟨y.2, false⟩
  | none => s.bad = true
theorem decN_snoc {f : Dc V} : ∀ (n : Nat) (l : List UInt8), decN f (n + 1) l = (decN f n l).bind fun y => (f y.2).map fun z => (y.1 ++ [z.1], z.2)
  | 0, l => by
    simp only [decN, Option.bind_some]
    cases f l with
    | none => rfl
    | some x => rfl
  | n + 1, l => by
    rw [decN]
    conv => rhs; rw [decN]
    cases hx : f l with
    | none => rfl
    | some x =>
      simp only [Option.bind_some]
      rw [decN_snoc n x.2]
      cases hy : decN f n x.2 with
      | none => rfl
      | some y =>
        simp only [Option.bind_some, Option.map_some]
        cases f y.2 with
        | none => rfl
        | some z => rfl

/-- One thing of a list is read. -/
def EStep (X : Cx) (S W : Nat → Prop) (r : Nat) (tR : TypeId) (T : Ty) (ga : Nat) (te : TypeId) (m : Nat) (L : List Nat) (ix : Nat) (Pre : Fm → Prop) (f : Dc V) (body : List Code) : Prop :=
  ∀ (σ : Fm) (w : World) (oi : Option (List V × List UInt8)) (vs : List V) (s : Rs) (ca : List Value) (Q : Exit → Fm → World → Prop), Pre σ → vs.length < m → σ ix = .int .i32 (vs.length : Int) → GotN oi vs s → ArrSt X S W r tR T ga te m w vs s ca →
    ((oi.bind fun y => (f y.2).map fun z => (y.1 ++ [z.1], z.2)) = none → ∀ σ' w', Ch (rg r ga) w w' → σ' X.res = X.eV → Q .ret σ' w') →
    (∀ σ' w' x s' ca', GotN (oi.bind fun y => (f y.2).map fun z => (y.1 ++ [z.1], z.2)) (vs ++ [x]) s' → ArrSt X S W r tR T ga te m w' (vs ++ [x]) s' ca' → Ch (rg r ga) w w' → (∀ t ∈ ix :: L, σ' t = σ t) → Q .normal σ' w') →
    CWL X.P X.n body σ w Q

/-- The whole list is read: m things. -/
theorem rdAll_sound {X : Cx} {S W : Nat → Prop} {r : Nat} {tR : TypeId} {T : Ty} {ga : Nat} {te : TypeId} {m : Nat} {L : List Nat} {ln ix : Nat} {Pre : Fm → Prop} {f : Dc V} {cs rest : List Code} {inner : Code} (h : rdLoop L ln cs = some (ix, inner, rest))
    (hP : ∀ σ σ', Pre σ → (∀ t ∈ ln :: L, σ' t = σ t) → Pre σ') (hb : EStep X S W r tR T ga te m (ln :: L) ix Pre f (flat inner)) {σ : Fm} {w : World} {Q : Exit → Fm → World → Prop} {l : List UInt8} {s : Rs} {ca : List Value}
    (hp : Pre σ) {z : Int} (hm : m = z.toNat) (hz : z < 2147483648) (hln : σ ln = .int .i32 z) (hs : s = ⟨l, false⟩) (hA : ArrSt X S W r tR T ga te m w [] s ca)
    (hr : decN f m l = none → ∀ σ' w', Ch (rg r ga) w w' → σ' X.res = X.eV → Q .ret σ' w')
    (hk : ∀ σ' w' vs s' ca', GotN (decN f m l) vs s' → vs.length = m → ArrSt X S W r tR T ga te m w' vs s' ca' → Ch (rg r ga) w w' → (∀ t ∈ ln :: L, σ' t = σ t) → CWL X.P X.n rest σ' w' Q) : CWL X.P X.n cs σ w Q := by
  have none_up : ∀ i j, i ≤ j → decN f i l = none → decN f j l = none := by
    intro i j hij hi
    induction j with
    | zero => rw [show i = 0 by omega] at hi; exact hi
    | succ j ih =>
      by_cases he : i = j + 1
      · rw [← he]; exact hi
      · rw [decN_snoc, ih (by omega)]; rfl
  refine rdLoop_sound h hm hz (fun i w' => ∃ vs s' ca', GotN (decN f i l) vs s' ∧ vs.length = i ∧ ArrSt X S W r tR T ga te m w' vs s' ca' ∧ Ch (rg r ga) w w') hln ⟨[], s, ca, ⟨rfl, hs⟩, rfl, hA, Ch.refl _ _⟩ ?_ ?_
  · rintro i σ1 w1 Q' him ⟨vs, s1, c1, hg, rfl, hA1, hc1⟩ hix hkeep hret hnext
    refine hb σ1 w1 (decN f vs.length l) vs s1 c1 Q' (hP _ _ hp hkeep) him hix hg hA1 (fun hn σ' w' hc hres => ?_) fun σ' w' x s' ca' hg' hA' hc' hk' => ?_
    · rw [← decN_snoc] at hn
      exact hret _ _ (hr (none_up _ _ him hn) σ' w' (hc1.trans' hc) hres)
    · rw [← decN_snoc] at hg'
      exact hnext σ' w' ⟨vs ++ [x], s', ca', hg', by simp, hA', hc1.trans' hc'⟩ hk'
  · rintro σ' w' ⟨vs, s', ca', hg, hl, hA', hc⟩ hkeep
    exact hk σ' w' vs s' ca' hg hl hA' hc hkeep
end Go.Kx
