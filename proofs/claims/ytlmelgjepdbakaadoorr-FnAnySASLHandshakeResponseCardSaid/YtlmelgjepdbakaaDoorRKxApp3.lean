/- Lists, tags and parts that may be null. -/
import Derived.Test.YtlmelgjepdbakaaDoorRKxApp2
namespace Go.Kx
open Go.RowKit
set_option linter.unusedSimpArgs false
set_option linter.unusedVariables false

/-! ### A field that some versions have -/
def withVc (x : Sl) (L : List Nat) (c : Vc) (body : List Code → Option (List Code)) (cs : List Code) : Option (List Code) :=
  match c with
  | .all => body cs
  | .ge m => match verGe x L m cs with
    | some (A, rest) => match body (flat A) with
      | some [] => some rest
      | _ => none
    | none => none
  | .rng lo hi => match verRng x L lo hi cs with
    | some (A, rest) => match body (flat A) with
      | some [] => some rest
      | _ => none
    | none => none

section
variable {P : Program} {n : Nat} {e : TypeId} {w0 : World} {d0 : Value} {S : Nat → Prop} {full : Bool} {tab : List (Nat × Ap)} {L : List Nat} {x : Sl} {cs rest : List Code} {Pre : Fm → Prop} {out : List UInt8} {ver : Int}

theorem withVc_step {c : Vc} {body : List Code → Option (List Code)} (h : withVc x L c body cs = some rest) (hP : ∀ σ σ', Pre σ → (∀ t ∈ L, σ' t = σ t) → Pre σ') (hver : ∀ σ, Pre σ → σ x.ver = .int .i16 ver)
    (hb : ∀ cs rest, body cs = some rest → Step P n e w0 d0 x.dst L Pre cs rest out) : Step P n e w0 d0 x.dst L Pre cs rest (if c.ok ver then out else []) := by
  unfold withVc at h
  cases c with
  | all => exact hb cs rest h
  | ge m =>
    simp only at h
    split at h
    · rename_i A rest' hg
      split at h
      · rename_i hbody
        simp only [Option.some.injEq] at h
        subst h
        intro σ w bs Q hp hgr hl hk
        refine verGe_sound hg (hver σ hp) fun σ1 hd hL => ?_
        by_cases hm : ver ≥ m
        · rw [if_pos hm]
          simp only [Vc.ok, hm, decide_true, if_true] at hl hk
          exact (hb _ _ hbody).inner (hP _ _ hp hL) (by rw [hd]; exact hgr) hl fun σ' w' hg' he => hk σ' w' hg' fun t ht => (he t ht).trans (hL t ht)
        · rw [if_neg hm]
          simp only [Vc.ok, hm, decide_false, Bool.false_eq_true, if_false, List.append_nil] at hk
          exact hk σ1 w (by rw [hd]; exact hgr) hL
      · cases h
    · cases h
  | rng lo hi =>
    simp only at h
    split at h
    · rename_i A rest' hg
      split at h
      · rename_i hbody
        simp only [Option.some.injEq] at h
        subst h
        intro σ w bs Q hp hgr hl hk
        refine verRng_sound hg (hver σ hp) fun σ1 hd hL => ?_
        by_cases hm : ver ≥ lo ∧ ver ≤ hi
        · rw [if_pos hm]
          simp only [Vc.ok, hm, decide_true, Bool.and_self, if_true] at hl hk
          exact (hb _ _ hbody).inner (hP _ _ hp hL) (by rw [hd]; exact hgr) hl fun σ' w' hg' he => hk σ' w' hg' fun t ht => (he t ht).trans (hL t ht)
        · rw [if_neg hm]
          have hok : (Vc.rng lo hi).ok ver = false := by
            simp only [Vc.ok, Bool.and_eq_false_iff, decide_eq_false_iff_not]
            by_cases h1 : ver ≥ lo
            · exact .inr fun h2 => hm ⟨h1, h2⟩
            · exact .inl h1
          simp only [hok, Bool.false_eq_true, if_false, List.append_nil] at hk
          exact hk σ1 w (by rw [hd]; exact hgr) hL
      · cases h
    · cases h
end

/-! ### How many things a list has -/
theorem rep_arr {w : World} {S : Nat → Prop} {t : Ty} {v : V} {cs : List Value} (h : Rep w S (.arr t) v cs) :
    ∃ a c, ldv (.arr t) cs = .slice a v.elems.length c ∧ a.isNone = v.isNil ∧ v.elems.length ≤ 9223372036854775807 ∧
      ∀ i u, v.elems[i]? = some u → ∃ g, a = some ⟨g, 0, none⟩ ∧ S g ∧ Is w S g (i * t.size) t u := by
  cases v with
  | arrN =>
    simp only [Rep] at h
    subst h
    exact ⟨none, 0, rfl, rfl, by simp [V.elems], fun i u hu => by simp [V.elems] at hu⟩
  | arr l =>
    simp only [Rep] at h
    obtain ⟨g, c, rfl, hl, hg, hall⟩ := h
    refine ⟨some ⟨g, 0, none⟩, c, rfl, rfl, Nat.le_trans hl.1 hl.2, fun i u hu => ⟨g, rfl, hg, ?_⟩⟩
    obtain ⟨ci, hr, hn, ha⟩ := hall i u hu
    exact ⟨ci, hr, ha⟩
  | _ => exact h.elim

def lenOne (P : Program) (tab : List (Nat × Ap)) (L : List Nat) (dst v : Nat) (fx : Bool) (cs : List Code) : Bool :=
  match cs with
  | [c] => match canR c with
    | some ⟨[(o1, _), (o2, _)], (d, 3) :: b⟩ => match asLen o1, asCall o2 with
      | some (.tmp v2, t), some (f, [.tmp d2, .tmp 1]) => v2 == 2 * v && d2 == 2 * dst && d == dst && (elemSize P t).isSome && apAt tab f == some (.len fx) && free L ((d, 3) :: b)
      | _, _ => false
    | _ => false
  | _ => false

def lenNul (P : Program) (tab : List (Nat × Ap)) (L : List Nat) (dst v : Nat) (fx : Bool) (cs : List Code) : Bool :=
  match cs with
  | [c] => match canR c with
    | some ⟨[(o1, _), (.binOp .eql t2 (.tmp v3) (.const (.slice none 0 0)) _, _), (o2, _)], (d, 5) :: b⟩ => match asLen o1, asCall o2 with
      | some (.tmp v2, t), some (f, [.tmp d2, .tmp 1, .tmp 3]) =>
        v2 == 2 * v && v3 == 2 * v && d2 == 2 * dst && d == dst && (elemSize P t).isSome && (elemSize P t2).isSome && apAt tab f == some (.nlen fx) && free L ((d, 5) :: b)
      | _, _ => false
    | _ => false
  | _ => false

def lenAny (P : Program) (tab : List (Nat × Ap)) (L : List Nat) (dst v : Nat) (nul fx : Bool) (cs : List Code) : Bool :=
  if nul then lenNul P tab L dst v fx cs else lenOne P tab L dst v fx cs

def chkLen (P : Program) (tab : List (Nat × Ap)) (x : Sl) (L : List Nat) (v : Nat) (nul : Bool) (cs : List Code) : Option (List Code) :=
  if x.flx.isSome then
    match condFlex x (v :: L) cs with
    | some (A, B, rest) => if lenAny P tab (v :: L) x.dst v nul true (flat A) && lenAny P tab (v :: L) x.dst v nul false (flat B) then some rest else none
    | none => none
  else match cs with
    | c :: rest => if lenAny P tab (v :: L) x.dst v nul false [c] then some rest else none
    | _ => none

section
variable {P : Program} {n : Nat} {e : TypeId} {w0 : World} {d0 : Value} {S : Nat → Prop} {full : Bool} {tab : List (Nat × Ap)} {L : List Nat} {x : Sl} {cs rest : List Code} {dst : Nat}

theorem lenAny_step (hs : Sound P e full tab) {s : Nat} {nul fx : Bool} {t : Ty} {v : V} (h : lenAny P tab L dst s nul fx cs = true) :
    Step P n e w0 d0 dst L (Has w0 S (.arr t) v s) cs [] (encLen fx nul v) := by
  intro σ w bs Q ⟨cs0, hr, hv⟩ hg hl hk
  obtain ⟨a, c, hval, hnil, hc, _⟩ := rep_arr hr
  rw [hval] at hv
  unfold lenAny at h
  split at h
  · rename_i hnul
    unfold lenNul at h
    split at h
    · rename_i c1
      split at h
      · rename_i o1 ty1 t2 v3 u ty2 o2 ty3 d b hcan
        split at h
        · rename_i v2 t1 f d2 h1 h2
          simp only [Bool.and_eq_true, beq_iff_eq] at h
          obtain ⟨⟨⟨⟨⟨⟨⟨rfl, rfl⟩, rfl⟩, rfl⟩, ht1⟩, ht2⟩, hf⟩, hfree⟩ := h
          obtain ⟨s1, hs1⟩ := Option.isSome_iff_exists.1 ht1
          obtain ⟨s2, hs2⟩ := Option.isSome_iff_exists.1 ht2
          obtain ⟨hcall, hok⟩ := hs.ok f _ hf
          refine CWL.reg hcan (OpK.asLen h1 hs1 (by simp only [ev_tmp, enF_two]; exact hv) ?_)
          refine OpK.eqNilSlice hs2 (by simp only [ev_tmp, upd_odd _ _ _ _ (show (2 * 0 + 1) % 2 = 1 by omega), enF_two]; exact hv) rfl ?_
          refine OpK.asCall h2 hcall rfl ?_
          simp only [List.map_cons, List.map_nil, ev_tmp, upd_odd _ _ _ _ (show (2 * 0 + 1) % 2 = 1 by omega), upd_odd _ _ _ _ (show (2 * (0 + 1) + 1) % 2 = 1 by omega), enF_two]
          have e1 : encLen fx nul v = if a.isNone then (if fx then uvar 0 else be 4 (-1)) else encN fx v.elems.length := by
            unfold encLen encN
            rw [hnul, Bool.true_and, hnil]
          rw [e1] at hl hk
          have := hok w v.elems.length a.isNone (σ d) bs hg.own hl
          simp only [upd, show ¬ (1 : Nat) = 3 by omega, if_true, if_false, Nat.mul_zero, Nat.zero_add, Nat.mul_one, Nat.reduceAdd]
          refine this.mono fun en w' ⟨d', he, hg'⟩ => ⟨d', he, hk _ w' ?_ fun t ht => ?_⟩
          · rw [outF_head]; simpa [upd] using hg.trans hg'
          · rw [outF_free hfree ht, if_neg (by omega), if_neg (by omega), if_neg (by omega), enF_two]
        · cases h
      · cases h
    · cases h
  · rename_i hnul
    unfold lenOne at h
    split at h
    · rename_i c1
      split at h
      · rename_i o1 ty1 o2 ty3 d b hcan
        split at h
        · rename_i v2 t1 f d2 h1 h2
          simp only [Bool.and_eq_true, beq_iff_eq] at h
          obtain ⟨⟨⟨⟨⟨rfl, rfl⟩, rfl⟩, ht1⟩, hf⟩, hfree⟩ := h
          obtain ⟨s1, hs1⟩ := Option.isSome_iff_exists.1 ht1
          obtain ⟨hcall, hok⟩ := hs.ok f _ hf
          refine CWL.reg hcan (OpK.asLen h1 hs1 (by simp only [ev_tmp, enF_two]; exact hv) ?_)
          refine OpK.asCall h2 hcall rfl ?_
          simp only [List.map_cons, List.map_nil, ev_tmp, upd_odd _ _ _ _ (show (2 * 0 + 1) % 2 = 1 by omega), enF_two]
          have e1 : encLen fx nul v = encN fx v.elems.length := by
            unfold encLen encN
            rw [show nul = false by simpa using hnul, Bool.false_and]
            simp
          rw [e1] at hl hk
          have := hok w v.elems.length (σ d) bs hg.own hl
          simp only [upd, if_true, Nat.mul_zero, Nat.zero_add]
          refine this.mono fun en w' ⟨d', he, hg'⟩ => ⟨d', he, hk _ w' ?_ fun t ht => ?_⟩
          · rw [outF_head]; simpa [upd] using hg.trans hg'
          · rw [outF_free hfree ht, if_neg (by omega), if_neg (by omega), enF_two]
        · cases h
      · cases h
    · cases h

theorem chkLen_step (hs : Sound P e full tab) {s : Nat} {fx : Bool} (hfx : x.flx = none → fx = false) {nul : Bool} {t : Ty} {v : V} (h : chkLen P tab x L s nul cs = some rest) :
    Step P n e w0 d0 x.dst (s :: L) (fun σ => Flx x fx σ ∧ Has w0 S (.arr t) v s σ) cs rest (encLen fx nul v) := by
  unfold chkLen at h
  split at h
  · split at h
    · rename_i A B rest' hc
      split at h
      · rename_i hh
        simp only [Option.some.injEq] at h
        subst h
        simp only [Bool.and_eq_true] at hh
        intro σ w bs Q ⟨hfl, cs0, hr, hv⟩ hg hl hk
        refine condFlex_sound hc hfl fun σ1 hd hL => ?_
        have hHas : Has w0 S (.arr t) v s σ1 := ⟨cs0, hr, (hL s (by simp)).trans hv⟩
        have hstep : Step P n e w0 d0 x.dst (s :: L) (Has w0 S (.arr t) v s) (flat (if fx then A else B)) [] (encLen fx nul v) := by
          cases fx
          · exact lenAny_step hs hh.2
          · exact lenAny_step hs hh.1
        exact hstep.inner hHas (by rw [hd]; exact hg) hl fun σ' w' hg' he => hk σ' w' hg' fun t ht => (he t ht).trans (hL t ht)
      · cases h
    · cases h
  · rename_i hx
    obtain rfl := hfx (by simpa using hx)
    split at h
    · rename_i c rest'
      split at h
      · rename_i h1
        simp only [Option.some.injEq] at h
        subst h
        intro σ w bs Q ⟨hfl, hHas⟩ hg hl hk
        exact CWL.append (a := [c]) (b := rest') ((lenAny_step (t := t) hs h1).inner hHas hg hl hk)
      · cases h
    · cases h
end

/-! ### A loop over a list -/
structure Lp where
  ix : Nat
  ln : Nat
  inner : Code
  rest : List Code

def isExit (c : Code) (id : Nat) : Bool := match c with | .exit j => j == id | _ => false
theorem isExit_spec {c : Code} {id : Nat} (h : isExit c id = true) : c = .exit id := by
  unfold isExit at h
  split at h
  · rw [beq_iff_eq.1 h]
  · cases h

def chkLoop (P : Program) (L : List Nat) (dst v : Nat) (cs : List Code) : Option Lp :=
  match cs with
  | c :: .block id1 (.loop body) :: rest =>
    match canR c, flat body with
    | some ⟨[(o1, _), (.move (.const (.int .i64 0)), _)], (ix, 3) :: (ln, 1) :: b⟩, [c1, .cond (.tmp tc') A B, .block id2 inner, c2] =>
      match asLen o1, canR c1, canR c2 with
      | some (.tmp v2, t), some ⟨[(.binOp .lss _ (.tmp ix2) (.tmp ln2) _, _)], (tc, 1) :: b1⟩, some ⟨[(.binOp .add _ (.tmp ix3) (.const (.int .i64 1)) _, _)], (ix', 1) :: b2⟩ =>
        if v2 == 2 * v && (elemSize P t).isSome && ix2 == 2 * ix && ln2 == 2 * ln && ix3 == 2 * ix && ix' == ix && tc == tc' && ix != ln && (flat A).isEmpty && isExit B id1 && id1 != id2 &&
          free (dst :: v :: L) ((ix, 3) :: (ln, 1) :: b) && free (dst :: ix :: ln :: v :: L) ((tc, 1) :: b1) && free (dst :: ln :: v :: L) ((ix', 1) :: b2) then some ⟨ix, ln, inner, rest⟩ else none
      | _, _, _ => none
    | _, _ => none
  | _ => none

section
variable {P : Program} {n : Nat} {e : TypeId} {w0 : World} {d0 : Value} {L : List Nat} {dst : Nat} {cs : List Code} {Pre : Fm → Prop}

theorem flatMap_take_succ {α β : Type} (f : α → List β) (l : List α) (i : Nat) (x : α) (h : l[i]? = some x) : (l.take (i + 1)).flatMap f = (l.take i).flatMap f ++ f x := by
  have hlt : i < l.length := (List.getElem?_eq_some_iff.1 h).1
  have hx : l[i] = x := (List.getElem?_eq_some_iff.1 h).2
  rw [List.take_succ_eq_append_getElem hlt, List.flatMap_append]
  simp [hx]

theorem len_flatMap_take {α β : Type} (f : α → List β) (l : List α) (i : Nat) : ((l.take i).flatMap f).length ≤ (l.flatMap f).length := by
  conv => rhs; rw [← List.take_append_drop i l, List.flatMap_append, List.length_append]
  omega

theorem chkLoop_step {v : Nat} {lp : Lp} (h : chkLoop P L dst v cs = some lp) (l : List V) (hlen : l.length ≤ 9223372036854775807) (f : V → List UInt8) (hP : ∀ σ σ', Pre σ → (∀ t ∈ v :: L, σ' t = σ t) → Pre σ')
    (hv : ∀ σ, Pre σ → ∃ a c, σ v = .slice a l.length c)
    (hin : ∀ (i : Nat) (u : V), l[i]? = some u → Step P n e w0 d0 dst (lp.ix :: lp.ln :: v :: L) (fun σ => Pre σ ∧ σ lp.ix = .int .i64 (i : Int)) (flat lp.inner) [] (f u)) :
    Step P n e w0 d0 dst L Pre cs lp.rest (l.flatMap f) := by
  unfold chkLoop at h
  split at h
  · rename_i c id1 body rest
    split at h
    · rename_i o1 ty1 ty2 ix ln b c1 tc' A B id2 inner c2 hcan hbody
      split at h
      · rename_i v2 t u1 ix2 ln2 u2 ty3 tc b1 u3 ix3 u4 ty4 ix' b2 h1 hcan1 hcan2
        split at h
        · rename_i hh
          simp only [Option.some.injEq] at h
          subst h
          simp only [Bool.and_eq_true, beq_iff_eq, bne_iff_ne, ne_eq, List.isEmpty_iff] at hh
          obtain ⟨⟨⟨⟨⟨⟨⟨⟨⟨⟨⟨⟨⟨rfl, ht⟩, rfl⟩, rfl⟩, rfl⟩, rfl⟩, rfl⟩, hne⟩, hA⟩, hB⟩, hid⟩, hfree⟩, hfree1⟩, hfree2⟩ := hh
          obtain ⟨es, hes⟩ := Option.isSome_iff_exists.1 ht
          obtain rfl := isExit_spec hB
          intro σ w bs Q hp hg hl hk
          obtain ⟨a, cc, hsl⟩ := hv σ hp
          refine CWL.reg hcan (OpK.asLen h1 hes (by simp only [ev_tmp, enF_two]; exact hsl) ?_)
          refine OpK.move ?_
          simp only [RC, ev_const]
          -- behind the head: the count, the first place
          generalize hσ1 : outF ((ix', 3) :: (ln, 1) :: b) (upd (upd (enF σ) (some (2 * 0 + 1)) (Value.int .i64 ↑l.length)) (some (2 * (0 + 1) + 1)) (Value.int .i64 0)) = σ1
          have hix : σ1 ix' = .int .i64 ((0 : Nat) : Int) := by rw [← hσ1, outF_head]; simp [upd]
          have hln : σ1 ln = .int .i64 (l.length : Int) := by
            rw [← hσ1]
            simp [outF, look, hne, upd]
          have hkeep : ∀ t ∈ dst :: v :: L, σ1 t = σ t := fun t ht => by
            rw [← hσ1, outF_free hfree ht]
            show upd _ (some 3) _ (2 * t) = _
            rw [upd_odd _ _ _ _ (by omega)]
            show upd _ (some 1) _ (2 * t) = _
            rw [upd_odd _ _ _ _ (by omega), enF_two]
          refine CWL.cons (CW.block (CW.loop (fun m σ' w' => ∃ i : Nat, m = l.length - i ∧ i ≤ l.length ∧ σ' ix' = .int .i64 (i : Int) ∧ σ' ln = .int .i64 (l.length : Int) ∧ (∀ t ∈ v :: L, σ' t = σ t) ∧
            Grew e w0 d0 w' (σ' dst) (bs ++ (l.take i).flatMap f)) l.length ⟨0, by omega, by omega, hix, hln, fun t ht => hkeep t (by simp [ht]), by
              rw [hkeep dst (by simp)]; simpa using hg⟩ ?_))
          rintro m σ2 w2 ⟨i, rfl, hi, hix2, hln2, hkeep2, hg2⟩
          refine CW.of_flat ?_
          rw [hbody]
          refine CWL.reg hcan1 (OpK.cmp (op := .lss) (k := .i64) (a := (i : Int)) (b := (l.length : Int)) rfl (by simp only [ev_tmp, enF_two]; exact hix2) (by simp only [ev_tmp, enF_two]; exact hln2) ?_)
          simp only [RC]
          generalize hσ3 : outF ((tc, 1) :: b1) (upd (enF σ2) (some (2 * 0 + 1)) (Value.bool (decide ((i : Int) < (l.length : Int))))) = σ3
          have htc : σ3 tc = .bool (decide ((i : Int) < (l.length : Int))) := by rw [← hσ3, outF_head]; simp [upd]
          have hkeep3 : ∀ t ∈ dst :: ix' :: ln :: v :: L, σ3 t = σ2 t := fun t ht => by
            rw [← hσ3, outF_free hfree1 ht]
            show upd _ (some 1) _ (2 * t) = _
            rw [upd_odd _ _ _ _ (by omega), enF_two]
          by_cases hlt : i < l.length
          · obtain ⟨u, hu⟩ : ∃ u, l[i]? = some u := ⟨l[i], List.getElem?_eq_getElem hlt⟩
            refine CWL.cons (CW.cond (t := true) (by simp only [ev_tmp, htc]; congr 1; simp; omega) (CW.of_flat ?_))
            simp only [if_true, hA]
            -- one round
            have hP3 : Pre σ3 := hP σ σ3 hp fun t ht => (hkeep3 t (List.mem_cons_of_mem _ (List.mem_cons_of_mem _ (List.mem_cons_of_mem _ ht)))).trans (hkeep2 t ht)
            have hl3 : bs.length + ((l.take i).flatMap f).length + (f u).length ≤ Lim := by
              have h1 := len_flatMap_take f l (i + 1)
              rw [flatMap_take_succ f l i u hu, List.length_append] at h1
              omega
            refine CWL.cons (CW.block (CW.of_flat ((hin i u hu) σ3 w2 (bs ++ (l.take i).flatMap f) _ ⟨hP3, by rw [hkeep3 ix' (by simp)]; exact hix2⟩ (by rw [hkeep3 dst (by simp)]; exact hg2)
              (by rw [List.length_append]; exact hl3) fun σ4 w4 hg4 he4 => ?_)))
            have hk4 : ∀ t ∈ ix' :: ln :: v :: L, σ4 t = σ2 t := fun t ht => (he4 t ht).trans (hkeep3 t (List.mem_cons_of_mem _ ht))
            refine CWL.reg hcan2 (OpK.arith (op := .add) (k := .i64) (a := (i : Int)) (b := 1) rfl (by simp only [ev_tmp, enF_two]; rw [hk4 ix' (by simp)]; exact hix2) rfl ?_)
            simp only [RC]
            refine ⟨l.length - (i + 1), by omega, i + 1, rfl, by omega, ?_, ?_, ?_, ?_⟩
            · rw [outF_head]
              simp only [upd, if_true, Nat.mul_zero, Nat.zero_add]
              congr 1
              rw [IntKind.wrap_i64]
              omega
            · rw [outF_free hfree2 (by simp)]
              show upd _ (some 1) _ (2 * ln) = _
              rw [upd_odd _ _ _ _ (by omega), enF_two, hk4 ln (by simp)]
              exact hln2
            · intro t ht
              rw [outF_free hfree2 (List.mem_cons_of_mem _ (List.mem_cons_of_mem _ ht))]
              show upd _ (some 1) _ (2 * t) = _
              rw [upd_odd _ _ _ _ (by omega), enF_two, hk4 t (List.mem_cons_of_mem _ (List.mem_cons_of_mem _ ht))]
              exact hkeep2 t ht
            · rw [outF_free hfree2 (by simp)]
              show Grew e w0 d0 w4 (upd _ (some 1) _ (2 * dst)) _
              rw [upd_odd _ _ _ _ (by omega), enF_two, flatMap_take_succ f l i u hu, ← List.append_assoc]
              exact hg4
          · have hil : i = l.length := by omega
            refine CWL.cons (CW.cond (t := false) (by simp only [ev_tmp, htc]; congr 1; simp; omega) (CW.of_flat ?_))
            simp only [Bool.false_eq_true, if_false, flat]
            refine CWL.cons (CW.exit ?_)
            simp only [Then, InBlock, if_true]
            refine hk σ3 w2 ?_ fun t ht => (hkeep3 t (by simp [ht])).trans (hkeep2 t (by simp [ht]))
            rw [hkeep3 dst (by simp)]
            rw [hil, List.take_length] at hg2
            exact hg2
        · cases h
      · cases h
    · cases h
  · cases h
end

end Go.Kx
