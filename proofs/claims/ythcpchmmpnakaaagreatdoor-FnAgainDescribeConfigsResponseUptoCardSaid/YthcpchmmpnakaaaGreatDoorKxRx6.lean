/- Library texts Rx4 Rx5 Rx6, joined. -/
import Derived.Test.YthcpchmmpnakaaaGreatDoorKxRx3
/- A list is read: the row of its things, the loop over them. -/
namespace Go.Kx
open Go.RowKit
set_option linter.unusedSimpArgs false
set_option linter.unusedVariables false

/-! ### A loop of n rounds -/
def rdLoop (L : List Nat) (ln : Nat) (cs : List Code) : Option (Nat × Code × List Code) :=
  match cs with
  | c0 :: .block id1 (.loop body) :: rest =>
    match canR c0, flat body with
    | some ⟨[(.assign (.const (.int .i32 0)), _)], (ix, 1) :: b⟩, [c1, .cond (.tmp tc') A B, .block id2 inner, c2] =>
      match canR c1, canR c2 with
      | some ⟨[(.binOp .lss _ (.tmp ix2) (.tmp ln2) _, _)], (tc, 1) :: b1⟩, some ⟨[(.binOp .add _ (.tmp ix3) (.const (.int .i32 1)) _, _)], (ix', 1) :: b2⟩ =>
        if ix2 == 2 * ix && ln2 == 2 * ln && ix3 == 2 * ix && ix' == ix && tc == tc' && (flat A).isEmpty && isExit B id1 && id1 != id2 &&
          free (ln :: L) ((ix, 1) :: b) && free (ix :: ln :: L) ((tc, 1) :: b1) && free (ln :: L) ((ix', 1) :: b2) then some (ix, inner, rest) else none
      | _, _ => none
    | _, _ => none
  | _ => none

theorem rdLoop_sound {P : Program} {n : Nat} {L : List Nat} {ln ix : Nat} {cs rest : List Code} {inner : Code} (h : rdLoop L ln cs = some (ix, inner, rest)) {σ : Fm} {w : World} {Q : Exit → Fm → World → Prop}
    {z : Int} {m : Nat} (hm : m = z.toNat) (hz : z < 2147483648) (I : Nat → World → Prop) (hln : σ ln = .int .i32 z) (h0 : I 0 w)
    (body : ∀ (i : Nat) (σ' : Fm) (w' : World) (Q' : Exit → Fm → World → Prop), i < m → I i w' → σ' ix = .int .i32 (i : Int) → (∀ t ∈ ln :: L, σ' t = σ t) → (∀ σ w, Q .ret σ w → Q' .ret σ w) →
      (∀ σ'' w'', I (i + 1) w'' → (∀ t ∈ ix :: ln :: L, σ'' t = σ' t) → Q' .normal σ'' w'') → CWL P n (flat inner) σ' w' Q')
    (hk : ∀ σ' w', I m w' → (∀ t ∈ ln :: L, σ' t = σ t) → CWL P n rest σ' w' Q) : CWL P n cs σ w Q := by
  unfold rdLoop at h
  split at h
  · rename_i c0 id1 bd rest
    split at h
    · rename_i ty0 ix b c1 tc' A B id2 inner c2 hcan hbody
      split at h
      · rename_i u1 ix2 ln2 u2 ty3 tc b1 u3 ix3 u4 ty4 ix' b2 hcan1 hcan2
        split at h
        · rename_i hh
          simp only [Option.some.injEq, Prod.mk.injEq] at h
          obtain ⟨rfl, rfl, rfl⟩ := h
          simp only [Bool.and_eq_true, beq_iff_eq, bne_iff_ne, ne_eq, List.isEmpty_iff] at hh
          obtain ⟨⟨⟨⟨⟨⟨⟨⟨⟨⟨rfl, rfl⟩, rfl⟩, rfl⟩, rfl⟩, hA⟩, hB⟩, hid⟩, hfree⟩, hfree1⟩, hfree2⟩ := hh
          obtain rfl := isExit_spec hB
          refine CWL.reg hcan (OpK.assign ?_)
          simp only [RC, ev_const]
          generalize hσ1 : outF ((ix', 1) :: b) (upd (enF σ) (some (2 * 0 + 1)) (Value.int .i32 0)) = σ1
          have hix : σ1 ix' = .int .i32 ((0 : Nat) : Int) := by rw [← hσ1, outF_head]; simp [upd]
          have hkeep : ∀ t ∈ ln :: L, σ1 t = σ t := fun t ht => by
            rw [← hσ1, outF_free hfree ht]
            show upd _ (some 1) _ (2 * t) = _
            rw [upd_odd _ _ _ _ (by omega), enF_two]
          refine CWL.cons (CW.block (CW.loop (fun k σ' w' => ∃ i : Nat, k = m - i ∧ i ≤ m ∧ σ' ix' = .int .i32 (i : Int) ∧ (∀ t ∈ ln :: L, σ' t = σ t) ∧ I i w') m ⟨0, by omega, by omega, hix, hkeep, h0⟩ ?_))
          rintro k σ2 w2 ⟨i, rfl, hi, hix2, hkeep2, hI⟩
          refine CW.of_flat ?_
          rw [hbody]
          have hln2 : σ2 ln = .int .i32 z := (hkeep2 ln (by simp)).trans hln
          refine CWL.reg hcan1 (OpK.cmp (op := .lss) (k := .i32) (a := (i : Int)) (b := z) rfl (by simp only [ev_tmp, enF_two]; exact hix2) (by simp only [ev_tmp, enF_two]; exact hln2) ?_)
          simp only [RC]
          generalize hσ3 : outF ((tc, 1) :: b1) (upd (enF σ2) (some (2 * 0 + 1)) (Value.bool (decide ((i : Int) < z)))) = σ3
          have htc : σ3 tc = .bool (decide ((i : Int) < z)) := by rw [← hσ3, outF_head]; simp [upd]
          have hkeep3 : ∀ t ∈ ix' :: ln :: L, σ3 t = σ2 t := fun t ht => by
            rw [← hσ3, outF_free hfree1 ht]
            show upd _ (some 1) _ (2 * t) = _
            rw [upd_odd _ _ _ _ (by omega), enF_two]
          by_cases hlt : i < m
          · refine CWL.cons (CW.cond (t := true) (by simp only [ev_tmp, htc]; congr 1; simp; omega) (CW.of_flat ?_))
            simp only [if_true, hA]
            refine CWL.cons (CW.block (CW.of_flat ?_))
            refine body i σ3 w2 _ hlt hI ((hkeep3 ix' (by simp)).trans hix2) (fun t ht => (hkeep3 t (List.mem_cons_of_mem _ ht)).trans (hkeep2 t ht)) (fun σ w hq => hq) fun σ4 w4 hI4 he4 => ?_
            have hk4 : ∀ t ∈ ix' :: ln :: L, σ4 t = σ2 t := fun t ht => (he4 t ht).trans (hkeep3 t ht)
            refine CWL.reg hcan2 (OpK.arith (op := .add) (k := .i32) (a := (i : Int)) (b := 1) rfl (by simp only [ev_tmp, enF_two]; rw [hk4 ix' (by simp)]; exact hix2) rfl ?_)
            simp only [RC]
            refine ⟨m - (i + 1), by omega, i + 1, rfl, by omega, ?_, ?_, hI4⟩
            · rw [outF_head]
              simp only [upd, if_true, Nat.mul_zero, Nat.zero_add]
              congr 1
              rw [IntKind.wrap_i32]
              omega
            · intro t ht
              rw [outF_free hfree2 ht]
              show upd _ (some 1) _ (2 * t) = _
              rw [upd_odd _ _ _ _ (by omega), enF_two, hk4 t (List.mem_cons_of_mem _ ht)]
              exact hkeep2 t ht
          · have him : i = m := by omega
            refine CWL.cons (CW.cond (t := false) (by simp only [ev_tmp, htc]; congr 1; simp; omega) (CW.of_flat ?_))
            simp only [Bool.false_eq_true, if_false, flat]
            refine CWL.cons (CW.exit ?_)
            simp only [Then, InBlock, if_true]
            exact hk σ3 w2 (him ▸ hI) fun t ht => (hkeep3 t (List.mem_cons_of_mem _ ht)).trans (hkeep2 t ht)
        · cases h
      · cases h
    · cases h
  · cases h

/-! ### The row of a list's things while they are read -/
def Wa (W : Nat → Prop) (ga : Nat) : Nat → Prop := fun k => W k ∨ k = ga
structure ArrSt (X : Cx) (S W : Nat → Prop) (r : Nat) (tR : TypeId) (T : Ty) (ga : Nat) (te : TypeId) (m : Nat) (w : World) (vs : List V) (s : Rs) (ca : List Value) : Prop where
  rd : RdIs w S r tR s
  blk : Blk w ga te ca
  len : m * T.size ≤ ca.length
  done : ∀ j x, vs[j]? = some x → Rep w (Ob (Wa W ga) w) T x ((ca.drop (j * T.size)).take T.size)
  todo : ∀ j, vs.length ≤ j → j < m → (ca.drop (j * T.size)).take T.size = zeroC T
  err : w.cell? ⟨X.gE, 0, none⟩ = some X.eV
  bound : ∀ k, Wa W ga k → k < w.heap.size
  src : ∀ k, S k → k < w.heap.size ∧ ¬ Wa W ga k
  wr : W r
  ne : r ≠ ga
  eW : X.gE < w.heap.size ∧ X.gE ≠ r ∧ X.gE ≠ ga

section
variable {X : Cx} {S W : Nat → Prop} {r : Nat} {tR : TypeId} {T : Ty} {ga : Nat} {te : TypeId} {m : Nat} {w w' : World} {vs : List V} {s s' : Rs} {ca ca' : List Value}

theorem mul_lt_le {i m n : Nat} (h : i < m) : i * n + n ≤ m * n := by
  have := Nat.mul_le_mul_right n h
  rw [Nat.succ_mul] at this
  exact this
/-- The next thing is new. -/
theorem ArrSt.mem (h : ArrSt X S W r tR T ga te m w vs s ca) (hw : wfT T = true) (hi : vs.length < m) : Mem X S (Wa W ga) r tR T ga (vs.length * T.size) te w (zeroV T) s ca :=
  ⟨h.rd, h.blk, by rw [h.todo _ (Nat.le_refl _) hi]; exact rep_zero _ _ _ hw, Nat.le_trans (mul_lt_le hi) h.len, h.err, h.bound, h.src, .inl h.wr, .inr rfl, h.ne, h.eW⟩
theorem sub_out {ca ca' : List Value} {o n p : Nat} (h : Outside ca ca' o n) (hp : p + n ≤ o ∨ o + n ≤ p) : (ca'.drop p).take n = (ca.drop p).take n := by
  apply List.ext_getElem?
  intro i
  rw [List.getElem?_take, List.getElem?_take, List.getElem?_drop, List.getElem?_drop]
  by_cases hi : i < n
  · rw [if_pos hi, if_pos hi, h.2 (p + i) (by omega)]
  · rw [if_neg hi, if_neg hi]
theorem apart_mul {i j n : Nat} (h : i ≠ j) : i * n + n ≤ j * n ∨ j * n + n ≤ i * n := by
  rcases Nat.lt_or_gt_of_ne h with h | h
  · exact .inl (mul_lt_le h)
  · exact .inr (mul_lt_le h)
/-- One thing more is read. -/
theorem ArrSt.next (h : ArrSt X S W r tR T ga te m w vs s ca) {x : V} (hM : Mem X S (Wa W ga) r tR T ga (vs.length * T.size) te w' x s' ca') (ho : Outside ca ca' (vs.length * T.size) T.size) (hc : Ch (rg r ga) w w') :
    ArrSt X S W r tR T ga te m w' (vs ++ [x]) s' ca' := by
  refine ⟨hM.rd, hM.blk, by rw [ho.1]; exact h.len, fun j y hy => ?_, fun j hj hjm => ?_, hM.err, hM.bound, hM.src, h.wr, h.ne, hM.eW⟩
  · by_cases hj : j < vs.length
    · rw [List.getElem?_append_left hj] at hy
      rw [sub_out ho (apart_mul (by omega))]
      refine (h.done j y hy).keepMono (fun k hk => hc.block k hk.1 fun e => ?_) (Ob.up hc.size)
      rcases e with rfl | rfl
      · exact hk.2 (.inl h.wr)
      · exact hk.2 (.inr rfl)
    · rw [List.getElem?_append_right (by omega)] at hy
      have : j = vs.length := by
        rcases Nat.eq_zero_or_pos (j - vs.length) with h0 | h0
        · omega
        · rw [List.getElem?_eq_none (by simp; omega)] at hy; cases hy
      subst this
      rw [Nat.sub_self] at hy
      cases hy
      exact hM.rep
  · simp only [List.length_append, List.length_cons, List.length_nil] at hj
    rw [sub_out ho (apart_mul (by omega))]
    exact h.todo j (by omega) hjm
/-- The list stands. -/
theorem ArrSt.list (h : ArrSt X S W r tR T ga te m w vs s ca) (hl : vs.length = m) {c : Nat} (hm : m ≤ c) (hc : c ≤ 9223372036854775807) (hg : ¬ W ga) : Rep w (Ob W w) (.arr T) (.arr vs) [.slice (some ⟨ga, 0, none⟩) m c] := by
  refine ⟨ga, c, by rw [hl], ⟨by omega, hc⟩, ⟨h.bound ga (.inr rfl), hg⟩, fun i v hv => ?_⟩
  have hr := h.done i v hv
  refine ⟨_, hr.mono fun k hk => ⟨hk.1, fun hw => hk.2 (.inl hw)⟩, hr.size, fun j u hu => ?_⟩
  rw [List.getElem?_take] at hu
  split at hu
  · rw [List.getElem?_drop] at hu
    rw [h.blk.cell]
    exact hu
  · cases hu
end

/-- What has been read of a list so far. -/
def GotN (oi : Option (List V × List UInt8)) (vs : List V) (s : Rs) : Prop :=
  match oi with
  | some y => vs = y.1 ∧ s = ⟨y.2, false⟩
  | none => s.bad = true
theorem decN_snoc {f : Dc V} : ∀ (n : Nat) (l : List UInt8), decN f (n + 1) l = (decN f n l).bind fun y => (f y.2).map fun z => (y.1 ++ [z.1], z.2)
  | 0, l => by
    simp only [decN, Option.bind_some]
    cases f l with
    | none => rfl
    | some x => rfl
  | n + 1, l => by
    rw [decN]
    conv => rhs; rw [decN]
    cases hx : f l with
    | none => rfl
    | some x =>
      simp only [Option.bind_some]
      rw [decN_snoc n x.2]
      cases hy : decN f n x.2 with
      | none => rfl
      | some y =>
        simp only [Option.bind_some, Option.map_some]
        cases f y.2 with
        | none => rfl
        | some z => rfl

/-- One thing of a list is read. -/
def EStep (X : Cx) (S W : Nat → Prop) (r : Nat) (tR : TypeId) (T : Ty) (ga : Nat) (te : TypeId) (m : Nat) (L : List Nat) (ix : Nat) (Pre : Fm → Prop) (f : Dc V) (body : List Code) : Prop :=
  ∀ (σ : Fm) (w : World) (oi : Option (List V × List UInt8)) (vs : List V) (s : Rs) (ca : List Value) (Q : Exit → Fm → World → Prop), Pre σ → vs.length < m → σ ix = .int .i32 (vs.length : Int) → GotN oi vs s → ArrSt X S W r tR T ga te m w vs s ca →
    ((oi.bind fun y => (f y.2).map fun z => (y.1 ++ [z.1], z.2)) = none → ∀ σ' w', Ch (rg r ga) w w' → σ' X.res = X.eV → Q .ret σ' w') →
    (∀ σ' w' x s' ca', GotN (oi.bind fun y => (f y.2).map fun z => (y.1 ++ [z.1], z.2)) (vs ++ [x]) s' → ArrSt X S W r tR T ga te m w' (vs ++ [x]) s' ca' → Ch (rg r ga) w w' → (∀ t ∈ ix :: L, σ' t = σ t) → Q .normal σ' w') →
    CWL X.P X.n body σ w Q

/-- The whole list is read: m things. -/
theorem rdAll_sound {X : Cx} {S W : Nat → Prop} {r : Nat} {tR : TypeId} {T : Ty} {ga : Nat} {te : TypeId} {m : Nat} {L : List Nat} {ln ix : Nat} {Pre : Fm → Prop} {f : Dc V} {cs rest : List Code} {inner : Code} (h : rdLoop L ln cs = some (ix, inner, rest))
    (hP : ∀ σ σ', Pre σ → (∀ t ∈ ln :: L, σ' t = σ t) → Pre σ') (hb : EStep X S W r tR T ga te m (ln :: L) ix Pre f (flat inner)) {σ : Fm} {w : World} {Q : Exit → Fm → World → Prop} {l : List UInt8} {s : Rs} {ca : List Value}
    (hp : Pre σ) {z : Int} (hm : m = z.toNat) (hz : z < 2147483648) (hln : σ ln = .int .i32 z) (hs : s = ⟨l, false⟩) (hA : ArrSt X S W r tR T ga te m w [] s ca)
    (hr : decN f m l = none → ∀ σ' w', Ch (rg r ga) w w' → σ' X.res = X.eV → Q .ret σ' w')
    (hk : ∀ σ' w' vs s' ca', GotN (decN f m l) vs s' → vs.length = m → ArrSt X S W r tR T ga te m w' vs s' ca' → Ch (rg r ga) w w' → (∀ t ∈ ln :: L, σ' t = σ t) → CWL X.P X.n rest σ' w' Q) : CWL X.P X.n cs σ w Q := by
  have none_up : ∀ i j, i ≤ j → decN f i l = none → decN f j l = none := by
    intro i j hij hi
    induction j with
    | zero => rw [show i = 0 by omega] at hi; exact hi
    | succ j ih =>
      by_cases he : i = j + 1
      · rw [← he]; exact hi
      · rw [decN_snoc, ih (by omega)]; rfl
  refine rdLoop_sound h hm hz (fun i w' => ∃ vs s' ca', GotN (decN f i l) vs s' ∧ vs.length = i ∧ ArrSt X S W r tR T ga te m w' vs s' ca' ∧ Ch (rg r ga) w w') hln ⟨[], s, ca, ⟨rfl, hs⟩, rfl, hA, Ch.refl _ _⟩ ?_ ?_
  · rintro i σ1 w1 Q' him ⟨vs, s1, c1, hg, rfl, hA1, hc1⟩ hix hkeep hret hnext
    refine hb σ1 w1 (decN f vs.length l) vs s1 c1 Q' (hP _ _ hp hkeep) him hix hg hA1 (fun hn σ' w' hc hres => ?_) fun σ' w' x s' ca' hg' hA' hc' hk' => ?_
    · rw [← decN_snoc] at hn
      exact hret _ _ (hr (none_up _ _ him hn) σ' w' (hc1.trans' hc) hres)
    · rw [← decN_snoc] at hg'
      exact hnext σ' w' ⟨vs ++ [x], s', ca', hg', by simp, hA', hc1.trans' hc'⟩ hk'
  · rintro σ' w' ⟨vs, s', ca', hg, hl, hA', hc⟩ hkeep
    exact hk σ' w' vs s' ca' hg hl hA' hc hkeep
end Go.Kx

/- A list that is cut to nothing and grows by the things that are to be read. -/
namespace Go.Kx
open Go.RowKit
set_option linter.unusedSimpArgs false
set_option linter.unusedVariables false

/-- 'a = a[:0]; if l > 0 { a = append(a, make([]T, l)...) }' -/
def growOf (P : Program) (L : List Nat) (a ln : Nat) (T : Ty) (cs : List Code) : Option (TypeId × List Code) :=
  match cs with
  | c1 :: c2 :: .cond (.tmp tc') A B :: rest =>
    match canR c1, canR c2, flat A with
    | some ⟨[(.slice t (.tmp a2) none (some (.const (.int .i64 0))) none, _)], (a', 1) :: b⟩, some ⟨[(.binOp .gtr _ (.tmp ln2) (.const (.int .i32 0)) _, _)], (tc, 1) :: b1⟩, [c3] =>
      match canR c3 with
      | some ⟨[(op, _)], (a'', 1) :: b2⟩ => match asApp op with
        | some (.tmp a3, .tmp ln3, t1, it) => match elemZ P t1 it T with
          | some te => if a2 == 2 * a && a' == a && a'' == a && a3 == 2 * a && ln2 == 2 * ln && ln3 == 2 * ln && tc == tc' && t == t1 && (flat B).isEmpty &&
              free (ln :: L) ((a', 1) :: b) && free (a :: ln :: L) ((tc, 1) :: b1) && free (ln :: L) ((a'', 1) :: b2) then some (te, rest) else none
          | none => none
        | _ => none
      | _ => none
    | _, _, _ => none
  | _ => none

section
variable {P : Program} {n : Nat} {L : List Nat} {a ln : Nat} {T : Ty} {te : TypeId} {cs rest : List Code} {σ : Fm} {w : World} {Q : Exit → Fm → World → Prop}

theorem growOf_sound (h : growOf P L a ln T cs = some (te, rest)) {a0 : Option Addr} {n0 c0 : Nat} {z : Int} (ha : σ a = .slice a0 n0 c0) (hln : σ ln = .int .i32 z) (hz : z < 2147483648) (hnil : 0 < z → a0 = none ∧ c0 = 0)
    (h0 : z ≤ 0 → ∀ σ', σ' a = .slice a0 0 c0 → (∀ t ∈ ln :: L, σ' t = σ t) → CWL P n rest σ' w Q)
    (h1 : 0 < z → ∀ σ' w' c ca, σ' a = .slice (some ⟨w.heap.size, 0, none⟩) z.toNat c → z.toNat ≤ c → c ≤ 9223372036854775807 → Blk w' w.heap.size te ca → w'.heap.size = w.heap.size + 1 → z.toNat * T.size ≤ ca.length →
      (∀ j, j < z.toNat → (ca.drop (j * T.size)).take T.size = zeroC T) → Ch (fun _ => False) w w' → (∀ t ∈ ln :: L, σ' t = σ t) → CWL P n rest σ' w' Q) : CWL P n cs σ w Q := by
  unfold growOf at h
  split at h
  · rename_i c1 c2 tc' A B rest'
    split at h
    · rename_i t a2 ty1 a' b u1 ln2 u2 ty2 tc b1 c3 hcan1 hcan2 hA
      split at h
      · rename_i op ty3 a'' b2 hcan3
        split at h
        · rename_i a3 ln3 t1 it happ
          split at h
          · rename_i te' hz'
            split at h
            · rename_i hh
              simp only [Option.some.injEq, Prod.mk.injEq] at h
              obtain ⟨rfl, rfl⟩ := h
              simp only [Bool.and_eq_true, beq_iff_eq, List.isEmpty_iff] at hh
              obtain ⟨⟨⟨⟨⟨⟨⟨⟨⟨⟨⟨rfl, rfl⟩, rfl⟩, rfl⟩, rfl⟩, rfl⟩, rfl⟩, rfl⟩, hB⟩, hfree⟩, hfree1⟩, hfree2⟩ := hh
              obtain ⟨hsl, hit, i, zv, hi, hzv, hsz, hpos, hby, hcells⟩ := elemZ_spec hz'
              obtain rfl := asApp_spec happ
              refine CWL.reg hcan1 (OpK.slice0 hsl (by rw [hi]; rfl) (by simp only [ev_tmp, enF_two]; exact ha) rfl ?_)
              simp only [RC]
              generalize hσ1 : outF ((a'', 1) :: b) (upd (enF σ) (some (2 * 0 + 1)) (Value.slice a0 0 c0)) = σ1
              have ha1 : σ1 a'' = .slice a0 0 c0 := by rw [← hσ1, outF_head]; simp [upd]
              have hk1 : ∀ t ∈ ln :: L, σ1 t = σ t := fun t ht => by
                rw [← hσ1, outF_free hfree ht]
                show upd _ (some 1) _ (2 * t) = _
                rw [upd_odd _ _ _ _ (by omega), enF_two]
              have hln1 : σ1 ln = .int .i32 z := (hk1 ln (by simp)).trans hln
              refine CWL.reg hcan2 (OpK.cmp (op := .gtr) (k := .i32) (a := z) (b := 0) rfl (by simp only [ev_tmp, enF_two]; exact hln1) rfl ?_)
              simp only [RC]
              generalize hσ2 : outF ((tc, 1) :: b1) (upd (enF σ1) (some (2 * 0 + 1)) (Value.bool (decide (z > 0)))) = σ2
              have htc : σ2 tc = .bool (decide (z > 0)) := by rw [← hσ2, outF_head]; simp [upd]
              have hk2 : ∀ t ∈ a'' :: ln :: L, σ2 t = σ1 t := fun t ht => by
                rw [← hσ2, outF_free hfree1 ht]
                show upd _ (some 1) _ (2 * t) = _
                rw [upd_odd _ _ _ _ (by omega), enF_two]
              by_cases hgt : 0 < z
              · refine CWL.condT (by simp only [ev_tmp, htc]; congr 1; simp; exact hgt) ?_
                rw [hA, List.singleton_append]
                obtain ⟨hn1, hn2⟩ := hnil hgt
                subst hn1
                subst hn2
                have hzi : z = ((z.toNat : Nat) : Int) := by omega
                have hmul : z.toNat * i.bytes ≤ 281474976710656 := by
                  have h2 := Nat.mul_le_mul (show z.toNat ≤ 2147483648 by omega) hby
                  omega
                have hrun := run_zeros (P := P) w t it ty3 te' i zv .i32 .i32 hsl hit hi hzv z.toNat (by omega) (by omega) (by omega) hmul
                rw [← hzi] at hrun
                refine CWL.reg hcan3 (OpK.run rfl (by simp only [ev_tmp, enF_two]; rw [hk2 a'' (by simp), ha1, hk2 ln (by simp), hln1]; exact hrun) ?_)
                simp only [RC]
                refine h1 hgt _ _ (grownCap w z.toNat 0 te') ((Builtin.zeroCells zv.cells z.toNat).toList ++ (Builtin.zeroCells zv.cells (grownCap w z.toNat 0 te' - z.toNat)).toList) (by rw [outF_head]; simp [upd]) (grownCap_ge _ _ _ _) ?_ ?_ ?_ ?_ ?_ ?_ fun t ht => ?_
                · have := grownCap_le_maxLen w z.toNat 0 te' (by simp only [maxLen]; omega)
                  simp only [maxLen] at this
                  omega
                · have := Blk.new w.drew te' ((Builtin.zeroCells zv.cells z.toNat).toList ++ (Builtin.zeroCells zv.cells (grownCap w z.toNat 0 te' - z.toNat)).toList)
                  rw [show ((Builtin.zeroCells zv.cells z.toNat).toList ++ (Builtin.zeroCells zv.cells (grownCap w z.toNat 0 te' - z.toNat)).toList).toArray = Builtin.zeroCells zv.cells z.toNat ++ Builtin.zeroCells zv.cells (grownCap w z.toNat 0 te' - z.toNat) by
                    apply Array.ext'; simp] at this
                  exact this
                · simp
                · have hzc : zv.cells.size = T.size := by rw [← Array.length_toList, hcells, zeroC_len]
                  rw [List.length_append, zeros_len, hzc]
                  omega
                · intro j hj
                  have hzc : zv.cells.size = T.size := by rw [← Array.length_toList, hcells, zeroC_len]
                  have := zeros_at zv.cells z.toNat j (Builtin.zeroCells zv.cells (grownCap w z.toNat 0 te' - z.toNat)).toList hj
                  rw [hzc, hcells] at this
                  exact this
                · exact (Ch.drew _ w).trans' (Ch.alloc _ _ _)
                · rw [outF_free hfree2 ht]
                  show upd _ (some 1) _ (2 * t) = _
                  rw [upd_odd _ _ _ _ (by omega), enF_two, hk2 t (List.mem_cons_of_mem _ ht), hk1 t ht]
              · refine CWL.condF (by simp only [ev_tmp, htc]; congr 1; simp; omega) ?_
                rw [hB, List.nil_append]
                exact h0 (by omega) σ2 ((hk2 a'' (by simp)).trans ha1) fun t ht => (hk2 t (List.mem_cons_of_mem _ ht)).trans (hk1 t ht)
            · cases h
          · cases h
        · cases h
      · cases h
    · cases h
  · cases h
end
end Go.Kx

/- Lists, octets of fixed number and tags, as they are read. -/
namespace Go.Kx
open Go.RowKit
set_option linter.unusedSimpArgs false
set_option linter.unusedVariables false

def isLen (X : Cx) (f : FuncId) (fx : Bool) : Bool := match rfAt X.tab f with | some (.len fx') => fx' == fx | _ => false
theorem isLen_spec {X : Cx} {f : FuncId} {fx : Bool} (h : isLen X f fx = true) : rfAt X.tab f = some (.len fx) := by
  unfold isLen at h
  split at h
  · rename_i fx' he; rw [he, beq_iff_eq.1 h]
  · cases h
def isTags (X : Cx) (f : FuncId) : Bool := match rfAt X.tab f with | some .tags => true | _ => false
theorem isTags_spec {X : Cx} {f : FuncId} (h : isTags X f = true) : rfAt X.tab f = some .tags := by
  unfold isTags at h
  split at h
  · assumption
  · cases h
def isUuid (X : Cx) (f : FuncId) : Bool := match rfAt X.tab f with | some (.val _ .uuid) => true | _ => false
theorem isUuid_spec {X : Cx} {f : FuncId} (h : isUuid X f = true) : ∃ fx, rfAt X.tab f = some (.val fx .uuid) := by
  unfold isUuid at h
  split at h
  · exact ⟨_, by assumption⟩
  · cases h

section
variable {X : Cx} {S W : Nat → Prop} {r : Nat} {tR : TypeId} {T : Ty} {g o : Nat} {tG : TypeId} {w w' : World} {v v' : V} {s s' : Rs} {cells cells' : List Value}
theorem Mem.is (h : Mem X S W r tR T g o tG w v s cells) : Is w (Ob W w) g o T v := by
  refine ⟨_, h.rep, fun i u hu => ?_⟩
  rw [List.getElem?_take] at hu
  split at hu
  · rw [List.getElem?_drop] at hu
    rw [h.blk.cell]
    exact hu
  · cases hu
/-- Another function has written the part. -/
theorem Mem.turn (h : Mem X S W r tR T g o tG w v s cells) {c : List Value} (hb : Blk w' g tG (spl cells o c)) (hr : Rep w' (Ob W w) T v' c) (hc : Ch (fun k => k = g) w w') : Mem X S W r tR T g o tG w' v' s (spl cells o c) ∧ Outside cells (spl cells o c) o T.size := by
  have hl := h.len
  have hsz := hr.size
  have hk : ∀ k, k < w.heap.size → k ≠ g → w'.heap[k]? = w.heap[k]? := fun k h1 h2 => hc.block k h1 h2
  refine ⟨⟨h.rd.keepG (hk r h.rd.lt h.ne) fun k hS => hk k (h.src k hS).1 fun e => (h.src k hS).2 (e ▸ h.wg), hb, ?_, by rw [spl_len (by omega)]; exact hl, ?_, fun k hw => Nat.lt_of_lt_of_le (h.bound k hw) hc.size,
    fun k hS => ⟨Nat.lt_of_lt_of_le (h.src k hS).1 hc.size, (h.src k hS).2⟩, h.wr, h.wg, h.ne, Nat.lt_of_lt_of_le h.eW.1 hc.size, h.eW.2⟩, ?_⟩
  · have := spl_at (cs := cells) (c := c) (o := o) (by omega)
    rw [← hsz, this]
    exact hr.mono (Ob.up hc.size)
  · exact (World.cell?_of_block (hk X.gE h.eW.1 h.eW.2.2)).trans h.err
  · have := Outside.spl (cs := cells) (c := c) (o := o) (p := 0) (n := T.size) (by omega) hl
    simpa using this
end

/-! ### Sixteen octets -/
def rdUuid (X : Cx) (L : List Nat) (q p : Nat) (T : Ty) (k : Nat) (cs : List Code) : Option (List Code) :=
  match cs with
  | c1 :: c2 :: rest =>
    match canR c1, canR c2 with
    | some ⟨[(op, _), (.alloc at', _), (.store st1 (.tmp 3) (.tmp 1), _)], (d, 3) :: b1⟩, some ⟨[(.load lt (.tmp d2), _), (.nilCheck (.tmp p2), _), (.fieldAddr tid (.tmp 3) k', _), (.store st (.tmp 5) (.tmp 1), _)], b2⟩ =>
      match asCall op, T.fld k with
      | some (f, [.tmp q2]), some (ty', off) => if q2 == 2 * q && isUuid X f && uuOk X.P at' && st1 == at' && lt == at' && st == at' && d2 == 2 * d && p2 == 2 * p && fieldOff X.P tid k' == some off && decide (ty' = .uuid) && free L ((d, 3) :: b1) && free L b2 then some rest else none
      | _, _ => none
    | _, _ => none
  | _ => none

theorem Mem.alloc {X : Cx} {S W : Nat → Prop} {r : Nat} {tR : TypeId} {T : Ty} {g o : Nat} {tG : TypeId} {w : World} {v : V} {s : Rs} {cells : List Value} (h : Mem X S W r tR T g o tG w v s cells) (ob : Obj) : Mem X S W r tR T g o tG (w.alloc ob) v s cells :=
  h.call (h.rd.keepG (alloc_old w ob _ h.rd.lt) fun k hk => alloc_old w ob k (h.src k hk).1) (Ch.alloc _ w ob)

section
variable {X : Cx} {S W : Nat → Prop} {r : Nat} {tR : TypeId} {T : Ty} {g o : Nat} {tG : TypeId} {L : List Nat} {fx : Bool} {ver : Int} {q p : Nat}

theorem rdUuid_step (hX : X.Sound) (hL : LIn X fx q p L) {k : Nat} {A : V → Prop} {cs rest : List Code} (h : rdUuid X L q p T k cs = some rest) :
    RStep X S W r tR T g o tG L (RP X fx ver q p r g o) A (fun v l => (decW fx .uuid l).map fun x => (v.put k x.1, x.2)) cs rest := by
  intro σ w1 oo v s cells Q hP hA hS hM hr hk
  unfold rdUuid at h
  split at h
  · rename_i c1 c2 rest'
    split at h
    · rename_i op ty1 at' ty2 st1 ty3 d b1 lt d2 ty4 p2 ty5 tid k' ty6 st ty7 b2 hcan1 hcan2
      split at h
      · rename_i f q2 ty' off hop hf
        split at h
        · rename_i hh
          simp only [Option.some.injEq] at h
          subst h
          simp only [Bool.and_eq_true, beq_iff_eq, decide_eq_true_eq] at hh
          obtain ⟨⟨⟨⟨⟨⟨⟨⟨⟨⟨⟨rfl, hu⟩, hok⟩, rfl⟩, rfl⟩, rfl⟩, rfl⟩, rfl⟩, hoff⟩, rfl⟩, hfree1⟩, hfree2⟩ := hh
          obtain ⟨fx', htab⟩ := isUuid_spec hu
          obtain ⟨hcall, hrf⟩ := hX.ok f _ htab
          obtain ⟨e, i, z, hund, hinf, hsz, hz, hzs⟩ := uuOk_spec hok
          have hc := hrf w1 S r tR s (fun k hk => (hM.src k hk).1) hM.rd
          refine CWL.reg hcan1 (OpK.asCall hop hcall rfl ?_)
          simp only [List.map_cons, List.map_nil, ev_tmp, enF_two, hP.rdr]
          refine hc.mono fun en w2 ⟨u, cu, s', he, h1, h2, h3, h4⟩ => ⟨_, he, ?_⟩
          obtain ⟨l, rfl, h16, rfl⟩ := rep_uuid h3
          have hall : (l.map bv).toArray.all (·.oneCell') = true := by
            rw [Array.all_eq_true']
            intro x hx
            simp only [List.mem_toArray, List.mem_map] at hx
            obtain ⟨b, _, rfl⟩ := hx
            rfl
          refine OpK.allocArr hinf hz ?_
          refine OpK.storeArr (c' := (l.map bv).toArray) (by simp [hinf, hsz, h16]) (by simp [hzs, h16]) hall (by simp [upd]) (by simp [upd, ldv, Wt.ty]) ?_
          simp only [RC]
          have hM2 := (hM.call h1 h2).alloc (.cells (l.map bv).toArray st)
          generalize hσ1 : outF ((d, 3) :: b1) (upd (upd (upd (enF σ) (some (2 * 0 + 1)) (ldv Wt.uuid.ty (List.map bv l))) (some (2 * (0 + 1) + 1)) (Value.pointer (some ⟨w2.heap.size, 0, none⟩))) (some (2 * (0 + 1 + 1) + 1)) undef) = σ1
          have hd1 : σ1 d = .pointer (some ⟨w2.heap.size, 0, none⟩) := by rw [← hσ1, outF_head]; simp [upd]
          have hk1 : ∀ t ∈ L, σ1 t = σ t := fun t ht => by
            rw [← hσ1, outF_free hfree1 ht, upd_odd _ _ _ _ (by omega), upd_odd _ _ _ _ (by omega), upd_odd _ _ _ _ (by omega), enF_two]
          have hp1 : σ1 p = .pointer (some ⟨g, o, none⟩) := (hk1 p hL.ptr).trans hP.ptr
          have hnew := Blk.new w2 st (l.map bv)
          have hrep : Rep (w2.alloc (.cells (l.map bv).toArray st)) (Ob W (w2.alloc (.cells (l.map bv).toArray st))) .uuid (.u l) (l.map bv) := ⟨h16, rfl⟩
          obtain ⟨hM3, hO⟩ := hM2.put hf hrep
          obtain ⟨_, _, _, _, hb⟩ := hM2.rep.fld hf
          have hsz2 := hM2.rep.size
          have hlen := hM2.len
          refine CWL.reg hcan2 ?_
          refine OpK.loadKind (loadOk_uuid hok) (S := fun _ => True) (g := w2.heap.size) (o := 0) (v := .u l) (by simp only [ev_tmp, enF_two]; exact hd1) ⟨l.map bv, ⟨h16, rfl⟩, fun i u hu => by rw [Nat.zero_add, hnew.cell]; exact hu⟩ fun cs hr' => ?_
          obtain ⟨l', hl', _, rfl⟩ := rep_uuid hr'
          cases hl'
          refine OpK.nilCheck (a := ⟨g, o, none⟩) (by simp only [ev_tmp]; rw [upd_odd _ _ _ _ (by omega), enF_two]; exact hp1) ?_
          refine OpK.fieldAddr hoff (a := ⟨g, o, none⟩) (by simp [upd]) ?_
          refine OpK.storeV (c := l.map bv) (v := .agg (l.map bv).toArray) (g := g) (o := o + off) (tG := tG) (cells := cells) (by simp [hinf, hsz, h16]) (by simp [upd, add_at]) (by simp [upd, ldv]) (.inl rfl) (bv_one l) hM2.blk (by simp only [Ty.size] at hb; rw [List.length_map]; omega) ?_
          simp only [RC]
          have hst := hS.step h4 fun v u => v.put k u
          rw [show decW fx' .uuid = decW fx .uuid from by funext l; rfl] at hst
          refine hk _ _ _ s' _ hst hM3 ?_ hO fun t ht => ?_
          · exact ((h2.trans' (Ch.alloc _ _ _)).mono fun _ _ h => .inl h).trans' ((setCells_ch _ _ _ _).mono fun _ _ h => .inr h)
          · rw [outF_free hfree2 ht, upd_odd _ _ _ _ (by omega), upd_odd _ _ _ _ (by omega), upd_odd _ _ _ _ (by omega), upd_odd _ _ _ _ (by omega), enF_two]
            exact hk1 t ht
        · cases h
      · cases h
    · cases h
  · cases h

/-! ### Tags -/
def tagStore (X : Cx) (L : List Nat) (q p : Nat) (T : Ty) (k : Nat) (c : Code) : Bool :=
  match canR c, T.fld k with
  | some ⟨[(op, _), (.nilCheck (.tmp p2), _), (.fieldAddr tid (.tmp 3) k', _), (.store st (.tmp 5) (.tmp 1), _)], b⟩, some (.tags, off) =>
    match asCall op with
    | some (f, [.tmp q2]) => q2 == 2 * q && p2 == 2 * p && isTags X f && fieldOff X.P tid k' == some off && (X.P.info? st).map (·.size) == some 1 && free L b
    | _ => false
  | _, _ => false
def rdTags (X : Cx) (fx : Bool) (L : List Nat) (q p : Nat) (T : Ty) (k : Nat) (cs : List Code) : Option (List Code) :=
  if X.x.flx.isSome then
    match condK (X.kn fx) L cs with
    | some (Y, rest) => if fx then (match Y with
        | [c] => if tagStore X L q p T k c then some rest else none
        | _ => none)
      else if Y.isEmpty then some rest else none
    | none => none
  else none

theorem rdTags_step (hX : X.Sound) (hL : LIn X fx q p L) {k : Nat} {A : V → Prop} {cs rest : List Code} (h : rdTags X fx L q p T k cs = some rest) :
    RStep X S W r tR T g o tG L (RP X fx ver q p r g o) A (fun v l => if fx then (decTags l).map fun x => (v.put k (.tags x.1), x.2) else some (v, l)) cs rest := by
  intro σ w1 oo v s cells Q hP hA hS hM hr hk
  unfold rdTags at h
  split at h
  · split at h
    · rename_i Y rest' hck
      have hrest : rest' = rest := by
        split at h
        · split at h
          · split at h
            · simp only [Option.some.injEq] at h; exact h
            · cases h
          · cases h
        · split at h
          · simp only [Option.some.injEq] at h; exact h
          · cases h
      rw [hrest] at hck h
      refine condK_sound hck hP.kn fun σ1 he1 => ?_
      cases fx
      · simp only [Bool.false_eq_true, if_false] at h hk
        split at h
        · rename_i hY
          simp only [List.isEmpty_iff] at hY
          subst hY
          refine hk σ1 w1 v s cells ?_ hM (Ch.refl _ _) (Outside.refl _ _ _) he1
          cases oo <;> exact hS
        · cases h
      · simp only [if_true] at h hk hr
        split at h
        · rename_i c
          split at h
          · rename_i hts
            unfold tagStore at hts
            split at hts
            · rename_i op ty1 p2 ty2 tid k' ty3 st ty4 b off hcan hf
              split at hts
              · rename_i f q2 hop
                simp only [Bool.and_eq_true, beq_iff_eq] at hts
                obtain ⟨⟨⟨⟨⟨rfl, rfl⟩, hf1⟩, hoff⟩, hst⟩, hfree⟩ := hts
                obtain ⟨hcall, hrf⟩ := hX.ok f _ (isTags_spec hf1)
                have hc := hrf w1 S r tR s (fun k hk => (hM.src k hk).1) hM.rd
                refine CWL.reg hcan (OpK.asCall hop hcall rfl ?_)
                simp only [List.map_cons, List.map_nil, ev_tmp, enF_two]
                rw [show σ1 q = .pointer (some ⟨r, 0, none⟩) from (he1 q hL.rdr).trans hP.rdr]
                refine hc.mono fun en w2 ⟨u, cu, s', he, h1, h2, h3, h4⟩ => ⟨_, he, ?_⟩
                have hM2 := hM.call h1 h2
                have hu := h3.mono (hM.newB h2.size)
                obtain ⟨hM3, hO⟩ := hM2.put hf hu
                obtain ⟨_, _, _, _, hb⟩ := hM2.rep.fld hf
                have hsz2 := hM2.rep.size
                have hlen := hM2.len
                refine OpK.nilCheck (a := ⟨g, o, none⟩) (by simp only [ev_tmp]; rw [upd_odd _ _ _ _ (by omega), enF_two, he1 p hL.ptr]; exact hP.ptr) ?_
                refine OpK.fieldAddr hoff (a := ⟨g, o, none⟩) (by simp [upd]) ?_
                refine OpK.storeV (c := [cu]) (v := .agg #[cu]) (g := g) (o := o + off) (tG := tG) (cells := cells) (by rw [hst]; rfl) (by simp [upd, add_at]) (by simp [upd]) (.inl rfl) (rep_one hu) hM2.blk (by simp only [Ty.size] at hb; simp only [List.length_cons, List.length_nil]; omega) ?_
                simp only [RC]
                refine hk _ _ _ s' _ (hS.step h4 fun v u => v.put k (.tags u)) hM3 ?_ hO fun t ht => ?_
                · exact (h2.mono fun _ _ h => .inl h).trans' ((setCells_ch _ _ _ _).mono fun _ _ h => .inr h)
                · rw [outF_free hfree ht, upd_odd _ _ _ _ (by omega), upd_odd _ _ _ _ (by omega), upd_odd _ _ _ _ (by omega), upd_odd _ _ _ _ (by omega), enF_two]
                  exact he1 t ht
              · cases hts
            · cases hts
          · cases h
        · cases h
    · cases h
  · cases h
end
end Go.Kx
