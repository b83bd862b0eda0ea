/- Library texts Nul Rx7 Rx8, joined. -/
import Derived.Test.YthcpchmmpnakaaaGreatDoorKxRx6
/- Lists that may be null: 'if version < m || l == 0 { a = []T{} }' between the count and the row. -/
namespace Go.Kx
open Go.RowKit
set_option linter.unusedSimpArgs false
set_option linter.unusedVariables false

section
variable {P : Program} {ρ : Operand → Value} {w : World} {K : Value → World → Prop} {d : Option Tmp} {ty : TypeId} {pos : String} {af : Array Edge} {g : Option (Nat × Bool)}
theorem OpK.buildZ {t e : TypeId} {i : TypeInfo} (ht : P.underlying t = some (.slice e)) (hi : P.info? e = some i) (h : K (.slice (some ⟨w.heap.size, 0, none⟩) 0 0) (w.alloc (.cells #[] e))) : OpK P ρ ⟨d, .buildSlice t 0 #[], ty, pos, af, g⟩ w K := by
  refine OpK.buildS (v := .slice (some ⟨w.heap.size, 0, none⟩) 0 0) (w' := w.alloc (.cells #[] e)) ?_ h
  simp [Instr.buildSlice, run_underlying ht, sizeOf, typeInfo, hi, Instr.fill, newRow]
  exact congrArg (fun c => w.alloc (.cells c e)) (Array.ext' (by simp))
end

def isBuildZ (P : Program) (L : List Nat) (a : Nat) (c : Code) : Bool :=
  match canR c with
  | some ⟨[(.buildSlice t 0 ps, _)], (a', 1) :: b⟩ => (match P.underlying t with | some (.slice e) => (P.info? e).isSome | _ => false) && ps.isEmpty && a' == a && free L ((a', 1) :: b)
  | _ => false

/-- What stands between the count of a list that may be null and the question whether the reader is well. vr: where the version lies. -/
def nulOf (P : Program) (vr : Nat) (L : List Nat) (nul : Option Int) (a ln : Nat) (cs : List Code) : Option (List Code) :=
  match nul with
  | none => some cs
  | some m =>
    match cs with
    | .region _ ops false :: .cond (.tmp tc) A B :: rest =>
      match ops.toList, flat A with
      | [⟨some s1, .move (.tmp v1), _, _, _, none⟩, ⟨some s2, .binOp .lss _ (.tmp s1') (.const (.int .i16 m')) _, _, _, _, none⟩, ⟨some s3, .move (.tmp s2'), _, _, _, none⟩,
         ⟨some s4, .move (.tmp v2), _, _, _, some (2, false)⟩, ⟨some s5, .binOp .eql _ (.tmp s4') (.const (.int .i32 0)) _, _, _, _, some (2, false)⟩, ⟨some s6, .pick (.tmp s3') (.const (.bool true)) (.tmp s5'), _, _, _, none⟩], [c] =>
        if v1 == vr && v2 == ln && s1' == s1 && s2' == s2 && s3' == s3 && s4' == s4 && s5' == s5 && m' == m && tc == s6 && decide (m ≤ 0) && (flat B).isEmpty && isBuildZ P (ln :: L) a c &&
          [s1, s2, s3, s4, s5, s6].all (fun t => t != vr && t != ln && t != a && L.all fun s => s != t) && s3 != s4 && s3 != s5 && s3 != s1 && s3 != s2 then some rest else none
      | _, _ => none
    | _ => none

/-- No list of a part may be null. -/
def noNul : Sch → Bool
  | .nil => true
  | .val _ _ _ r => noNul r
  | .arrV _ _ nul _ r => nul.isNone && noNul r
  | .arrS _ _ nul _ e r => nul.isNone && noNul e && noNul r
  | .opt _ _ _ e r => noNul e && noNul r
  | .tags _ r => noNul r

section
variable {P : Program} {n : Nat} {L : List Nat} {a ln vr : Nat} {cs rest : List Code} {σ : Fm} {w : World} {Q : Exit → Fm → World → Prop}

theorem nulOf_sound {nul : Option Int} (h : nulOf P vr L nul a ln cs = some rest) {ver z : Int} (hv : σ vr = .int .i16 ver) (hver : nul = none ∨ 0 ≤ ver) (hln : σ ln = .int .i32 z)
    (h0 : (∀ m, nul = some m → z ≠ 0 ∧ ¬ ver < m) → ∀ σ', σ' a = σ a → (∀ t ∈ ln :: L, σ' t = σ t) → CWL P n rest σ' w Q)
    (h1 : (∃ m, nul = some m) → z = 0 → ∀ σ' te, σ' a = .slice (some ⟨w.heap.size, 0, none⟩) 0 0 → (∀ t ∈ ln :: L, σ' t = σ t) → CWL P n rest σ' (w.alloc (.cells #[] te)) Q) : CWL P n cs σ w Q := by
  unfold nulOf at h
  split at h
  · simp only [Option.some.injEq] at h
    subst h
    exact h0 (fun m hm => by cases hm) σ rfl fun _ _ => rfl
  · rename_i m
    have hver : 0 ≤ ver := hver.resolve_left (by simp)
    split at h
    · rename_i id ops tc A B rest'
      split at h
      · rename_i s1 v1 ty1 p1 f1 s2 t2 s1' m' u2 ty2 p2 f2 s3 s2' ty3 p3 f3 s4 v2 ty4 p4 f4 s5 t5 s4' u5 ty5 p5 f5 s6 s3' s5' ty6 p6 f6 c hops hA
        split at h
        · rename_i hh
          simp only [Option.some.injEq] at h
          subst h
          simp only [Bool.and_eq_true, beq_iff_eq, List.isEmpty_iff, bne_iff_ne, ne_eq, decide_eq_true_eq] at hh
          obtain ⟨⟨⟨⟨⟨⟨⟨⟨⟨⟨⟨⟨⟨⟨⟨⟨rfl, rfl⟩, rfl⟩, rfl⟩, rfl⟩, rfl⟩, rfl⟩, rfl⟩, rfl⟩, hm⟩, hB⟩, hbz⟩, hall⟩, h34⟩, h35⟩, h31⟩, h32⟩ := hh
          have hne : ∀ t ∈ [s1', s2', s3', s4', s5', tc], t ≠ v1 ∧ t ≠ v2 ∧ t ≠ a ∧ ∀ s ∈ L, s ≠ t := by
            intro t ht
            have := List.all_eq_true.1 hall t ht
            simp only [Bool.and_eq_true, bne_iff_ne, ne_eq, List.all_eq_true] at this
            exact ⟨this.1.1.1, this.1.1.2, this.1.2, this.2⟩
          have hnlt : ¬ ver < m' := by omega
          have fin : ∀ (σ' : Fm) (r : Bool), σ' tc = .bool r → (r = true ↔ z = 0) → (∀ t, t ≠ s1' → t ≠ s2' → t ≠ s3' → t ≠ s4' → t ≠ s5' → t ≠ tc → σ' t = σ t) → CWL P n (.cond (.tmp tc) A B :: rest') σ' w Q := by
            intro σ' r hr hri hσ
            have hk : ∀ t, t = a ∨ t = v2 ∨ t ∈ L → σ' t = σ t := by
              intro t ht
              have q : ∀ x ∈ [s1', s2', s3', s4', s5', tc], t ≠ x := by
                intro x hx
                obtain ⟨_, q2, q3, q4⟩ := hne x hx
                rcases ht with rfl | rfl | ht
                · exact fun e => q3 e.symm
                · exact fun e => q2 e.symm
                · exact q4 t ht
              exact hσ t (q _ (by simp)) (q _ (by simp)) (q _ (by simp)) (q _ (by simp)) (q _ (by simp)) (q _ (by simp))
            have hkl : ∀ t ∈ v2 :: L, σ' t = σ t := fun t ht => by
              rcases List.mem_cons.1 ht with rfl | ht
              · exact hk _ (.inr (.inl rfl))
              · exact hk _ (.inr (.inr ht))
            cases r with
            | false =>
              refine CWL.condF (by simpa using hr) ?_
              rw [hB, List.nil_append]
              refine h0 (fun m hm => ?_) σ' (hk a (.inl rfl)) hkl
              simp only [Option.some.injEq] at hm
              subst hm
              exact ⟨(fun e => by have := hri.2 e; cases this), hnlt⟩
            | true =>
              refine CWL.condT (by simpa using hr) ?_
              rw [hA, List.singleton_append]
              unfold isBuildZ at hbz
              split at hbz
              · rename_i t ps ty7 a' b hcan
                simp only [Bool.and_eq_true, beq_iff_eq] at hbz
                obtain ⟨⟨⟨hsl, hps⟩, rfl⟩, hfree⟩ := hbz
                split at hsl
                · rename_i e hund
                  obtain ⟨i, hi⟩ := Option.isSome_iff_exists.1 hsl
                  obtain rfl : ps = #[] := by simpa using hps
                  refine CWL.reg hcan (OpK.buildZ hund hi ?_)
                  simp only [RC]
                  refine h1 ⟨_, rfl⟩ (hri.1 rfl) _ e (by rw [outF_head]; simp [upd]) fun t ht => ?_
                  rw [outF_free hfree ht]
                  show upd _ (some 1) _ (2 * t) = _
                  rw [upd_odd _ _ _ _ (by omega), enF_two]
                  exact hkl t ht
                · cases hsl
              · cases hbz
          refine CWL.cons (CW.region ?_)
          rw [hops]
          have hopsA := arr_of_list hops
          simp only [RW, wantedB, if_true]
          refine OpK.move ?_
          refine OpK.cmp (op := .lss) (k := .i16) (a := ver) (b := m') rfl (by simp [hv]) rfl ?_
          refine OpK.move ?_
          have hy : ∀ (τ : Fm) (r : Bool), τ s3' = .bool r → yv ops τ 2 = some r := by
            intro τ r hr
            subst hopsA
            simp [yv, hr]
          have hyc := hy (upd (upd (upd σ (some s1') (ev σ (.tmp v1))) (some s2') (.bool (decide (ver < m')))) (some s3') (ev (upd (upd σ (some s1') (ev σ (.tmp v1))) (some s2') (.bool (decide (ver < m')))) (.tmp s2'))) (decide (ver < m')) (by simp)
          rw [hyc]
          have hf : decide (ver < m') = false := decide_eq_false hnlt
          simp only [hf, show ((some false : Option Bool) == some false) = true from rfl, if_true]
          refine OpK.move ?_
          have hyc2 : ∀ v, yv ops (upd (upd (upd (upd σ (some s1') (ev σ (.tmp v1))) (some s2') (.bool false)) (some s3') (ev (upd (upd σ (some s1') (ev σ (.tmp v1))) (some s2') (.bool false)) (.tmp s2'))) (some s4') v) 2 = some false :=
            fun v => hy _ false (by rw [upd_ne _ _ h34]; simp)
          rw [hyc2]
          simp only [show ((some false : Option Bool) == some false) = true from rfl, if_true]
          refine OpK.cmp (op := .eql) (k := .i32) (a := z) (b := 0) rfl (by
            simp only [ev_tmp, upd_same]
            rw [upd_ne _ _ (Ne.symm (hne s3' (by simp)).2.1), upd_ne _ _ (Ne.symm (hne s2' (by simp)).2.1), upd_ne _ _ (Ne.symm (hne s1' (by simp)).2.1)]
            exact hln) rfl ?_
          refine OpK.pick (b := false) (by simp only [ev_tmp]; rw [upd_ne _ _ h35, upd_ne _ _ h34]; simp [hf]) ?_
          simp only [Bool.false_eq_true, if_false, ev_tmp, upd_same]
          refine fin _ (z == 0) (by simp) (by simp) fun t q1 q2 q3 q4 q5 q6 => ?_
          rw [upd_ne _ _ q6, upd_ne _ _ q5, upd_ne _ _ q4, upd_ne _ _ q3, upd_ne _ _ q2, upd_ne _ _ q1]
        · cases h
      · cases h
    · cases h
end
end Go.Kx

/- A list in a field: its count, its row, its things. -/
namespace Go.Kx
open Go.RowKit
set_option linter.unusedSimpArgs false
set_option linter.unusedVariables false

def rdArr (X : Cx) (fx : Bool) (L : List Nat) (q p : Nat) (T : Ty) (k : Nat) (nul : Option Int) (e : Ty) (body : Nat → Nat → Nat → List Code → Bool) (cs : List Code) : Option (List Code) :=
  match cs with
  | c1 :: c2 :: cs2 => match loadOf X.P L p T k (.arr e) c1 with
    | some v0 => match movOf L v0 c2 with
      | some a => match reach (X.kn fx) (a :: L) q 8 cs2 with
        | some (f, ln, cs3) => if isLen X f fx && wfT e then match nulOf X.P X.x.ver L nul a ln cs3 with
          | some cs4 => match okRet X (ln :: a :: L) q cs4 with
            | some cs5 => match growOf X.P L a ln e cs5 with
              | some (te, cs6) => match rdLoop (a :: L) ln cs6 with
                | some (ix, inner, c7 :: c8 :: cs9) => if body a ix ln (flat inner) then match movOf L a c7 with
                    | some v1 => match storeOf X.P L p T k (.arr e) c8 with
                      | some vs => if vs == v1 then some cs9 else none
                      | none => none
                    | none => none
                  else none
                | _ => none
              | none => none
            | none => none
          | none => none
          else none
        | none => none
      | none => none
    | none => none
  | _ => none

/-- The slots inside the loop over a list. -/
def InArr (X : Cx) (fx : Bool) (ver : Int) (q p r g o a ga m c : Nat) (σ : Fm) : Prop := RP X fx ver q p r g o σ ∧ σ a = .slice (some ⟨ga, 0, none⟩) m c

section
variable {X : Cx} {S W : Nat → Prop} {r : Nat} {tR : TypeId} {T : Ty} {g o : Nat} {tG : TypeId} {L : List Nat} {fx : Bool} {ver : Int} {q p : Nat}

theorem rdArr_step (hX : X.Sound) (hL : LIn X fx q p L) {k : Nat} {nul : Option Int} (hver : nul = none ∨ 0 ≤ ver) {e : Ty} {body : Nat → Nat → Nat → List Code → Bool} {gd : Dc V} {cs rest : List Code} (h : rdArr X fx L q p T k nul e body cs = some rest)
    (hb : ∀ a ix ln cs, body a ix ln cs = true → ∀ (W : Nat → Prop) (ga : Nat) (te : TypeId) (m c : Nat), EStep X S W r tR e ga te m (ln :: a :: L) ix (InArr X fx ver q p r g o a ga m c) gd cs) :
    RStep X S W r tR T g o tG L (RP X fx ver q p r g o) (fun v => v.fld k = .arrN) (fun v l => (decLen fx l).bind fun n => (decN gd n.1.toNat n.2).map fun x => (v.put k (arrOf ver nul n.1 x.1), x.2)) cs rest := by
  intro σ w oo v s cells Q hP hA hS hM hr hk
  unfold rdArr at h
  split at h
  · rename_i c1 c2 cs2
    split at h
    · rename_i v0 hl1
      split at h
      · rename_i a hm1
        split at h
        · rename_i f ln cs3 hre
          split at h
          · rename_i hlen
            simp only [Bool.and_eq_true] at hlen
            obtain ⟨hlen, hwf⟩ := hlen
            split at h
            · rename_i cs4 hnul
              split at h
              · rename_i cs5 hok
                split at h
                · rename_i te cs6 hgr
                  split at h
                  · rename_i ix inner c7 c8 cs9 hlp
                    split at h
                    · rename_i hbody
                      split at h
                      · rename_i v1 hm2
                        split at h
                        · rename_i vs hst
                          split at h
                          · rename_i hvs
                            simp only [Option.some.injEq] at h
                            subst h
                            rw [beq_iff_eq] at hvs
                            subst hvs
                            have hbd := hb a ix ln _ hbody
                            obtain ⟨hcall, hrf⟩ := hX.ok f _ (isLen_spec hlen)
                            refine loadOf_sound hl1 hP.ptr hM.is fun σ1 he1 ⟨cv, hrv, hv0⟩ => ?_
                            refine movOf_sound hm1 fun σ2 he2 ha2 => ?_
                            have hk2 : ∀ t ∈ L, σ2 t = σ t := fun t ht => (he2 t ht).trans (he1 t ht)
                            have hP2 := hP.keep hL hk2
                            have hc := hrf w S r tR s (fun k hk => (hM.src k hk).1) hM.rd
                            rw [← hP2.rdr] at hc
                            refine reach_sound (R := fun x w2 => ∃ (m : Int) (s' : Rs), x = .int .i32 m ∧ RdIs w2 S r tR s' ∧ Ch (fun k => k = r) w w2 ∧ (-2147483648 ≤ m ∧ m < 2147483648) ∧ Got s.o (decLen fx) m s')
                              (fun x hx => List.mem_cons_of_mem _ (hL.kn x hx)) (List.mem_cons_of_mem _ hL.rdr) hcall 8 hre hP2.kn (hc.mono fun en w2 ⟨m, s', he, h1, h2, h3, h4⟩ => ⟨_, he, m, s', rfl, h1, h2, h3, h4⟩) fun σ3 w3 x ⟨z, s3, hx, hr3, hc3, hz3, hg3⟩ hln3 he3 => ?_
                            subst hx
                            have hM3 := hM.call hr3 hc3
                            have ha3 : σ3 a = ldv (.arr e) cv := ((he3 a (by simp)).trans ha2).trans hv0
                            have hk3 : ∀ t ∈ L, σ3 t = σ t := fun t ht => (he3 t (List.mem_cons_of_mem _ ht)).trans (hk2 t ht)
                            have hP3 := hP.keep hL hk3
                            refine nulOf_sound hnul hP3.ver hver hln3 (fun hnz σn han hen => ?_) (fun hnl hz00 σn tn han hen => ?_)
                            · have hkn : ∀ t ∈ L, σn t = σ t := fun t ht => (hen t (by simp [ht])).trans (hk3 t ht)
                              have hPn := hP.keep hL hkn
                              have hlnn : σn ln = .int .i32 z := (hen ln (by simp)).trans hln3
                              refine okRet_sound hX hok hPn.rdr hr3 hM3.err (fun hbad σ' hres => ?_) fun hgood σ4 he4 => ?_
                              · refine hr ?_ σ' w3 (hc3.mono fun _ _ h => .inl h) hres
                                have := Got.bad hS hg3 hbad
                                cases oo with
                                | none => rfl
                                | some x => simp only [Option.bind_some] at this ⊢; rw [this]; rfl
                              · obtain ⟨x0, l3, rfl, hd3, rfl, rfl⟩ := Got.good hS hg3 hgood
                                have hfk := hA _ rfl
                                simp only at hfk
                                rw [hfk] at hrv
                                obtain rfl : cv = [.slice none 0 0] := hrv
                                have hln4 : σ4 ln = .int .i32 z := (he4 ln (by simp)).trans hlnn
                                have ha4 : σ4 a = .slice none 0 0 := (he4 a (by simp)).trans (han.trans ha3)
                                have hk4 : ∀ t ∈ L, σ4 t = σ t := fun t ht => (he4 t (by simp [ht])).trans (hkn t ht)
                                simp only [Option.bind_some, hd3] at hr hk
                                refine growOf_sound hgr ha4 hln4 hz3.2 (fun _ => ⟨rfl, rfl⟩) (fun hz0 σ5 ha5 he5 => ?_) fun hz0 σ5 w5 c5 ca ha5 hle5 hcap5 hb5 hsz5 hlen5 hz5 hc5 he5 => ?_
                                · -- nothing to read
                                  have h0 : z.toNat = 0 := by omega
                                  rw [h0] at hr hk
                                  simp only [decN, Option.map_some] at hr hk
                                  have hk5 : ∀ t ∈ L, σ5 t = σ t := fun t ht => (he5 t (by simp [ht])).trans (hk4 t ht)
                                  refine rdLoop_sound hlp (m := 0) (z := z) (by omega) hz3.2 (fun i w' => w' = w3) ((he5 ln (by simp)).trans hln4) rfl (fun i _ _ _ hi => by omega) fun σ6 w6 hw6 he6 => ?_
                                  subst hw6
                                  have hk6 : ∀ t ∈ L, σ6 t = σ t := fun t ht => (he6 t (by simp [ht])).trans (hk5 t ht)
                                  refine movOf_sound hm2 fun σ7 he7 hv7 => ?_
                                  have hp7 : σ7 p = .pointer (some ⟨g, o, none⟩) := (((he7 p hL.ptr).trans (hk6 p hL.ptr))).trans hP.ptr
                                  refine storeOf_sound hst hp7 hM3 (u := .arrN) (cu := [.slice none 0 0]) rfl (.inr (by rw [hv7, he6 a (by simp), ha5])) fun σ8 w8 cells8 hM8 hc8 ho8 he8 => ?_
                                  refine hk σ8 w8 _ _ cells8 ⟨?_, rfl⟩ hM8 ((hc3.mono fun _ _ h => .inl h).trans' (hc8.mono fun _ _ h => .inr h)) ho8 fun t ht => (he8 t ht).trans ((he7 t ht).trans (hk6 t ht))
                                  have : arrOf ver nul z [] = .arrN := by
                                        unfold arrOf
                                        rw [if_neg (by omega)]
                                        cases nul with
                                        | none => rfl
                                        | some m => simp only; rw [if_neg (by have := hnz m rfl; omega)]
                                  rw [this]
                                · have hk5 : ∀ t ∈ L, σ5 t = σ t := fun t ht => (he5 t (by simp [ht])).trans (hk4 t ht)
                                  have hP5 := hP.keep hL hk5
                                  have hltr := hr3.lt
                                  have hM5 : Mem X S W r tR T g o tG w5 v ⟨l3, false⟩ cells := hM3.call (hr3.keepG (hc5.block r hltr fun h => h) fun k hS => hc5.block k (hM3.src k hS).1 fun h => h) (hc5.mono fun _ _ h => h.elim)
                                  have hA5 : ArrSt X S W r tR e w3.heap.size te z.toNat w5 [] ⟨l3, false⟩ ca := by
                                    refine ⟨hM5.rd, hb5, hlen5, fun j x hx => by simp at hx, fun j _ hj => hz5 j hj, hM5.err, fun k hk => ?_, fun k hS => ⟨(hM5.src k hS).1, fun hw => ?_⟩, hM5.wr, by omega, hM5.eW.1, hM5.eW.2.1, by have := hM3.eW.1; omega⟩
                                    · rcases hk with hk | rfl
                                      · exact hM5.bound k hk
                                      · omega
                                    · rcases hw with hw | rfl
                                      · exact (hM5.src k hS).2 hw
                                      · have := (hM3.src _ hS).1; omega
                                  refine rdAll_sound hlp (fun σ σ' hp he => ?_) (hbd W w3.heap.size te z.toNat c5) (σ := σ5) (w := w5) ⟨hP5, ha5⟩ rfl hz3.2 ((he5 ln (by simp)).trans hln4) rfl hA5 (fun hn σ' w' hc' hres => ?_) fun σ6 w6 vs s6 ca6 hg6 hvl hA6 hc6 he6 => ?_
                                  · exact ⟨hp.1.keep hL fun t ht => he t (by simp [ht]), (he a (by simp)).trans hp.2⟩
                                  · refine hr (by rw [hn]; rfl) σ' w' ?_ hres
                                    refine (hc3.mono fun _ _ h => .inl h).trans ((hc5.mono fun _ _ h => h.elim).trans (T := rg r w3.heap.size) (S := rg r w3.heap.size) hc' fun _ _ h => h) fun i hi hT => ?_
                                    rcases hT with rfl | rfl
                                    · exact .inl rfl
                                    · have := hc3.size; omega
                                  · have hc36 : Ch (fun k => k = r) w3 w6 := by
                                      refine ((hc5.mono fun _ _ h => h.elim : Ch (fun k => k = r) w3 w5)).trans hc6 fun i hi hT => ?_
                                      rcases hT with rfl | rfl
                                      · rfl
                                      · omega
                                    have hM6 : Mem X S W r tR T g o tG w6 v s6 cells := hM3.call hA6.rd hc36
                                    have hk6 : ∀ t ∈ L, σ6 t = σ t := fun t ht => (he6 t (by simp [ht])).trans (hk5 t ht)
                                    have hlist := hA6.list hvl hle5 hcap5 (fun hw => by have := hM3.bound _ hw; omega)
                                    refine movOf_sound hm2 fun σ7 he7 hv7 => ?_
                                    have hp7 : σ7 p = .pointer (some ⟨g, o, none⟩) := (((he7 p hL.ptr).trans (hk6 p hL.ptr))).trans hP.ptr
                                    refine storeOf_sound hst hp7 hM6 (u := .arr vs) (cu := [.slice (some ⟨w3.heap.size, 0, none⟩) z.toNat c5]) hlist (.inr (by rw [hv7, he6 a (by simp), ha5])) fun σ8 w8 cells8 hM8 hc8 ho8 he8 => ?_
                                    refine hk σ8 w8 _ _ cells8 ?_ hM8 (((hc3.trans' hc36).mono fun _ _ h => .inl h).trans' (hc8.mono fun _ _ h => .inr h)) ho8 fun t ht => (he8 t ht).trans ((he7 t ht).trans (hk6 t ht))
                                    cases hdn : decN gd z.toNat l3 with
                                    | none => rw [hdn] at hg6; exact hg6
                                    | some y =>
                                      rw [hdn] at hg6
                                      obtain ⟨rfl, rfl⟩ := hg6
                                      refine ⟨?_, rfl⟩
                                      have : arrOf ver nul z y.1 = .arr y.1 := by unfold arrOf; rw [if_pos hz0]
                                      show v.put k (.arr y.1) = v.put k (arrOf ver nul z y.1)
                                      rw [this]
                            · -- an empty list that is there
                              obtain ⟨mm, rfl⟩ := hnl
                              subst hz00
                              have hkn : ∀ t ∈ L, σn t = σ t := fun t ht => (hen t (by simp [ht])).trans (hk3 t ht)
                              have hPn := hP.keep hL hkn
                              have hlnn : σn ln = .int .i32 0 := (hen ln (by simp)).trans hln3
                              have hMn := hM3.alloc (.cells #[] tn)
                              have hcn := hc3.trans' (Ch.alloc _ w3 (.cells #[] tn))
                              refine okRet_sound hX hok hPn.rdr hMn.rd hMn.err (fun hbad σ' hres => ?_) fun hgood σ4 he4 => ?_
                              · refine hr ?_ σ' _ (hcn.mono fun _ _ h => .inl h) hres
                                have := Got.bad hS hg3 hbad
                                cases oo with
                                | none => rfl
                                | some x => simp only [Option.bind_some] at this ⊢; rw [this]; rfl
                              · obtain ⟨x0, l3, rfl, hd3, rfl, rfl⟩ := Got.good hS hg3 hgood
                                have hln4 : σ4 ln = .int .i32 0 := (he4 ln (by simp)).trans hlnn
                                have ha4 : σ4 a = .slice (some ⟨w3.heap.size, 0, none⟩) 0 0 := (he4 a (by simp)).trans han
                                have hk4 : ∀ t ∈ L, σ4 t = σ t := fun t ht => (he4 t (by simp [ht])).trans (hkn t ht)
                                simp only [Option.bind_some, hd3] at hr hk
                                refine growOf_sound hgr ha4 hln4 (by omega) (fun h => by omega) (fun hz0 σ5 ha5 he5 => ?_) fun hz0 => by omega
                                simp only [show (0 : Int).toNat = 0 from rfl, decN, Option.map_some] at hr hk
                                have hk5 : ∀ t ∈ L, σ5 t = σ t := fun t ht => (he5 t (by simp [ht])).trans (hk4 t ht)
                                refine rdLoop_sound hlp (m := 0) (z := 0) rfl (by omega) (fun i w' => w' = w3.alloc (.cells #[] tn)) ((he5 ln (by simp)).trans hln4) rfl (fun i _ _ _ hi => by omega) fun σ6 w6 hw6 he6 => ?_
                                subst hw6
                                have hk6 : ∀ t ∈ L, σ6 t = σ t := fun t ht => (he6 t (by simp [ht])).trans (hk5 t ht)
                                refine movOf_sound hm2 fun σ7 he7 hv7 => ?_
                                have hp7 : σ7 p = .pointer (some ⟨g, o, none⟩) := (((he7 p hL.ptr).trans (hk6 p hL.ptr))).trans hP.ptr
                                have hrep0 : Rep (w3.alloc (.cells #[] tn)) (Ob W (w3.alloc (.cells #[] tn))) (.arr e) (.arr []) [.slice (some ⟨w3.heap.size, 0, none⟩) 0 0] :=
                                  ⟨w3.heap.size, 0, rfl, ⟨Nat.le_refl _, by omega⟩, ⟨by simp, fun hw => by have := hM3.bound _ hw; omega⟩, fun i v hv => by simp at hv⟩
                                refine storeOf_sound hst hp7 hMn (u := .arr []) (cu := [.slice (some ⟨w3.heap.size, 0, none⟩) 0 0]) hrep0 (.inr (by rw [hv7, he6 a (by simp), ha5])) fun σ8 w8 cells8 hM8 hc8 ho8 he8 => ?_
                                refine hk σ8 w8 _ _ cells8 ⟨?_, rfl⟩ hM8 ((hcn.mono fun _ _ h => .inl h).trans' (hc8.mono fun _ _ h => .inr h)) ho8 fun t ht => (he8 t ht).trans ((he7 t ht).trans (hk6 t ht))
                                have : arrOf ver (some mm) 0 [] = .arr [] := by simp [arrOf]
                                rw [this]
                          · cases h
                        · cases h
                      · cases h
                    · cases h
                  · cases h
                · cases h
              · cases h
            · cases h
          · cases h
        · cases h
      · cases h
    · cases h
  · cases h
end
end Go.Kx

/- The things of a list; all fields of a part; a whole function that reads a message. -/
namespace Go.Kx
open Go.RowKit
set_option linter.unusedSimpArgs false
set_option linter.unusedVariables false

theorem GotN.step {oi : Option (List V × List UInt8)} {vs : List V} {s s' : Rs} {f : Dc V} {x : V} (h : GotN oi vs s) (hg : Got s.o f x s') : GotN (oi.bind fun y => (f y.2).map fun z => (y.1 ++ [z.1], z.2)) (vs ++ [x]) s' := by
  cases oi with
  | none =>
    have : s.o = none := by unfold Rs.o; rw [show s.bad = true from h]; rfl
    rw [Got, this] at hg
    exact hg
  | some y =>
    obtain ⟨rfl, rfl⟩ := h
    have : (⟨y.2, false⟩ : Rs).o = some y.2 := rfl
    rw [Got, this] at hg
    simp only [Option.bind_some] at hg ⊢
    cases hd : f y.2 with
    | none => rw [hd] at hg; exact hg
    | some z => rw [hd] at hg; exact ⟨by rw [hg.1], hg.2⟩

/-- 'a[i] = v' -/
def idxStore (P : Program) (L : List Nat) (a ix v : Nat) (T : Ty) (c : Code) : Bool :=
  match canR c with
  | some ⟨[(.indexAddr t (.tmp a2) (.tmp i2), _), (.store st (.tmp 1) (.tmp v2), _)], b⟩ => a2 == 2 * a && i2 == 2 * ix && v2 == 2 * v && elemSize P t == some T.size && (P.info? st).map (·.size) == some T.size && free L b
  | _ => false
/-- 'v := &a[i]' -/
def idxAddr (P : Program) (L : List Nat) (a ix sz : Nat) (c : Code) : Option Nat :=
  match canR c with
  | some ⟨[(.indexAddr t (.tmp v2) (.tmp i2), _)], (u, 1) :: b⟩ => if v2 == 2 * a && i2 == 2 * ix && elemSize P t == some sz && free L ((u, 1) :: b) then some u else none
  | _ => none
/-- 'v.Default()' -/
def dfltOf (X : Cx) (L : List Nat) (u : Nat) (T : Ty) (c : Code) : Option (List (Nat × V)) :=
  match canR c with
  | some ⟨[(op, _)], b⟩ => match asCall op with
    | some (f, [.tmp u2]) => match rfAt X.tab f with
      | some (.dflt T' ps) => if u2 == 2 * u && decide (T' = T) && free L b then some ps else none
      | _ => none
    | _ => none
  | _ => none

section
variable {X : Cx} {n : Nat} {L : List Nat} {σ : Fm} {w : World} {Q : Exit → Fm → World → Prop} {rest : List Code} {c : Code}

theorem idxStore_sound {a ix v : Nat} {T : Ty} (h : idxStore X.P L a ix v T c = true) {ga m cc j : Nat} {te : TypeId} {ca : List Value} {cu : List Value} (ha : σ a = .slice (some ⟨ga, 0, none⟩) m cc) (hi : σ ix = .int .i32 (j : Int)) (hj : j < m)
    (hb : Blk w ga te ca) (hl : j * T.size + T.size ≤ ca.length) (hcu : cu.length = T.size) (h1 : ∀ u ∈ cu, u.oneCell' = true) (hv : Sv cu (σ v))
    (hk : ∀ σ', (∀ t ∈ L, σ' t = σ t) → CWL X.P X.n rest σ' (w.setCells ga (j * T.size) cu) Q) : CWL X.P X.n (c :: rest) σ w Q := by
  unfold idxStore at h
  split at h
  · rename_i t a2 i2 ty1 st v2 ty2 b hc
    simp only [Bool.and_eq_true, beq_iff_eq] at h
    obtain ⟨⟨⟨⟨⟨rfl, rfl⟩, rfl⟩, hs⟩, hst⟩, hfree⟩ := h
    refine CWL.reg hc (OpK.indexAddr hs (k := .i32) (j := j) (by simp only [ev_tmp, enF_two]; exact ha) (by simp only [ev_tmp, enF_two]; exact hi) hj ?_)
    refine OpK.storeV (c := cu) (v := σ v) (g := ga) (o := j * T.size) (tG := te) (cells := ca) (by rw [hst, hcu]) (by simp [upd, add_at]) (by simp only [ev_tmp]; rw [upd_odd _ _ _ _ (by omega), enF_two]) hv h1 hb (by omega) ?_
    simp only [RC]
    refine hk _ fun t ht => ?_
    rw [outF_free hfree ht, upd_odd _ _ _ _ (by omega), upd_odd _ _ _ _ (by omega), enF_two]
  · cases h
theorem idxAddr_sound {a ix u sz : Nat} (h : idxAddr X.P L a ix sz c = some u) {ga m cc j : Nat} (ha : σ a = .slice (some ⟨ga, 0, none⟩) m cc) (hi : σ ix = .int .i32 (j : Int)) (hj : j < m)
    (hk : ∀ σ', (∀ t ∈ L, σ' t = σ t) → σ' u = .pointer (some ⟨ga, j * sz, none⟩) → CWL X.P X.n rest σ' w Q) : CWL X.P X.n (c :: rest) σ w Q := by
  unfold idxAddr at h
  split at h
  · rename_i t v2 i2 ty1 u' b hc
    split at h
    · rename_i hh
      simp only [Option.some.injEq] at h
      subst h
      simp only [Bool.and_eq_true, beq_iff_eq] at hh
      obtain ⟨⟨⟨rfl, rfl⟩, hs⟩, hfree⟩ := hh
      refine CWL.reg hc (OpK.indexAddr hs (k := .i32) (j := j) (by simp only [ev_tmp, enF_two]; exact ha) (by simp only [ev_tmp, enF_two]; exact hi) hj ?_)
      simp only [RC]
      refine hk _ (fun t ht => ?_) (by rw [outF_head]; simp [upd, add_at])
      rw [outF_free hfree ht, upd_odd _ _ _ _ (by omega), enF_two]
    · cases h
  · cases h
theorem dfltOf_sound (hX : X.Sound) {u : Nat} {T : Ty} {ps : List (Nat × V)} (h : dfltOf X L u T c = some ps) {S W : Nat → Prop} {r : Nat} {tR : TypeId} {g o : Nat} {tG : TypeId} {v : V} {s : Rs} {cells : List Value}
    (hu : σ u = .pointer (some ⟨g, o, none⟩)) (hM : Mem X S W r tR T g o tG w v s cells)
    (hk : ∀ σ' w' cells', Mem X S W r tR T g o tG w' (v.puts ps) s cells' → Outside cells cells' o T.size → Ch (fun k => k = g) w w' → (∀ t ∈ L, σ' t = σ t) → CWL X.P X.n rest σ' w' Q) : CWL X.P X.n (c :: rest) σ w Q := by
  unfold dfltOf at h
  split at h
  · rename_i op ty b hc
    split at h
    · rename_i f u2 hop
      split at h
      · rename_i T' ps' htab
        split at h
        · rename_i hh
          simp only [Option.some.injEq] at h
          subst h
          simp only [Bool.and_eq_true, beq_iff_eq, decide_eq_true_eq] at hh
          obtain ⟨⟨rfl, rfl⟩, hfree⟩ := hh
          obtain ⟨hcall, hrf⟩ := hX.ok f _ htab
          have := hrf w (Ob W w) g o tG cells v hM.blk hM.rep hM.len (fun h => h.2 hM.wg)
          refine CWL.reg hc (OpK.asCall hop hcall rfl ?_)
          simp only [List.map_cons, List.map_nil, ev_tmp, enF_two, hu]
          refine this.mono fun en w' ⟨he, c', hb', hr', hc'⟩ => ⟨_, he, ?_⟩
          obtain ⟨hM', hO⟩ := hM.turn hb' hr' hc'
          refine hk _ w' _ hM' hO hc' fun t ht => ?_
          rw [outF_free hfree ht, upd_odd _ _ _ _ (by omega), enF_two]
        · cases h
      · cases h
    · cases h
  · cases h
end

/-- A list of values. -/
def elV (X : Cx) (fx : Bool) (L : List Nat) (q : Nat) (w : Wt) (a ix ln : Nat) (cs : List Code) : Bool :=
  match reach (X.kn fx) (ix :: ln :: a :: L) q 8 cs with
  | some (f, d, cs1) => match rfAt X.tab f with
    | some (.val fx' w') => valMatch fx w fx' w' && match movs (ix :: ln :: a :: L) 4 d cs1 with
        | (d', [c]) => idxStore X.P (ix :: ln :: a :: L) a ix d' w.ty c
        | _ => false
    | _ => false
  | none => false

theorem ArrSt.call {X : Cx} {S W : Nat → Prop} {r : Nat} {tR : TypeId} {T : Ty} {ga : Nat} {te : TypeId} {m : Nat} {w w' : World} {vs : List V} {s s' : Rs} {ca : List Value} (h : ArrSt X S W r tR T ga te m w vs s ca) (hr : RdIs w' S r tR s') (hc : Ch (fun k => k = r) w w') : ArrSt X S W r tR T ga te m w' vs s' ca :=
  ⟨hr, h.blk.keep (hc.block ga h.blk.lt fun e => h.ne e.symm), h.len, fun j x hx => (h.done j x hx).keepMono (fun k hk => hc.block k hk.1 fun e => hk.2 (.inl (e ▸ h.wr))) (Ob.up hc.size), h.todo,
    (ch_cell hc (a := ⟨X.gE, 0, none⟩) h.eW.1 (fun e => h.eW.2.1 e) rfl).trans h.err, fun k hk => Nat.lt_of_lt_of_le (h.bound k hk) hc.size, fun k hk => ⟨Nat.lt_of_lt_of_le (h.src k hk).1 hc.size, (h.src k hk).2⟩, h.wr, h.ne, Nat.lt_of_lt_of_le h.eW.1 hc.size, h.eW.2⟩

theorem Wt.wf (w : Wt) : wfT w.ty = true := by cases w <;> rfl

section
variable {X : Cx} {S : Nat → Prop} {r : Nat} {tR : TypeId} {L : List Nat} {fx : Bool} {ver : Int} {q p g o : Nat}

theorem elV_step (hX : X.Sound) (hL : LIn X fx q p L) {w : Wt} {a ix ln : Nat} {cs : List Code} (h : elV X fx L q w a ix ln cs = true) (W : Nat → Prop) (ga : Nat) (te : TypeId) (m c : Nat) :
    EStep X S W r tR w.ty ga te m (ln :: a :: L) ix (InArr X fx ver q p r g o a ga m c) (decW fx w) cs := by
  intro σ w1 oi vs s ca Q ⟨hP, ha⟩ hlt hix hg hA hr hk
  unfold elV at h
  split at h
  · rename_i f d cs1 hre
    split at h
    · rename_i fx' w' hf
      simp only [Bool.and_eq_true] at h
      obtain ⟨hm, h⟩ := h
      split at h
      · rename_i d' c1 hmv
        obtain ⟨hcall, hok⟩ := hX.ok f _ hf
        obtain ⟨hty, hdec⟩ := valMatch_spec hm
        have hc := hok w1 S r tR s (fun k hk => (hA.src k hk).1) hA.rd
        rw [← hP.rdr] at hc
        refine reach_sound (L := ix :: ln :: a :: L) (R := fun x w2 => ∃ u cu s', x = ldv w'.ty cu ∧ RdIs w2 S r tR s' ∧ Ch (fun k => k = r) w1 w2 ∧ Rep w2 (NewB S w1 w2) w'.ty u cu ∧ Got s.o (decW fx' w') u s') (fun x hx => by simp [hL.kn x hx]) (by simp [hL.rdr]) hcall 8 hre hP.kn
          (hc.mono fun en w2 ⟨u, cu, s', he, h1, h2, h3, h4⟩ => ⟨_, he, u, cu, s', rfl, h1, h2, h3, h4⟩) fun σ1 w2 x ⟨u, cu, s', hx, h1, h2, h3, h4⟩ hd1 he1 => ?_
        rw [hty] at hx h3
        rw [hdec] at h4
        refine movs_sound 4 hmv fun σ2 he2 hd2 => ?_
        have hA2 := hA.call h1 h2
        have hM2 := hA2.mem w.wf hlt
        have hu : Rep w2 (Ob (Wa W ga) w2) w.ty u cu := h3.mono fun k hk => by
          rcases hk with hk | ⟨g1, g2⟩
          · exact ⟨(hA2.src k hk).1, (hA2.src k hk).2⟩
          · exact ⟨g2, fun hw => by have := hA.bound k hw; omega⟩
        have hsz := hu.size
        have hk2 : ∀ t ∈ ix :: ln :: a :: L, σ2 t = σ t := fun t ht => (he2 t ht).trans (he1 t ht)
        have hlen := mul_lt_le (n := w.ty.size) hlt
        refine idxStore_sound h (j := vs.length) (cu := cu) ((hk2 a (by simp)).trans ha) ((hk2 ix (by simp)).trans hix) hlt hA2.blk (Nat.le_trans hlen hA2.len) hsz (rep_one hu) ?_ fun σ3 he3 => ?_
        · rw [hd2, hd1, hx]
          exact ldv_sv hu w.ty_ne.1 w.ty_ne.2
        · have hz := hM2.rep.size
          have hw := hM2.write (c := cu) (p := 0) (v' := u) (by omega) (by
            have e : spl ((ca.drop (vs.length * w.ty.size)).take w.ty.size) 0 cu = cu := by
              simp only [spl, List.take_zero, List.nil_append, Nat.zero_add]
              rw [List.drop_of_length_le (by omega), List.append_nil]
            rw [e]
            exact hu)
          have ho := Outside.spl (cs := ca) (c := cu) (o := vs.length * w.ty.size) (n := w.ty.size) (p := 0) (by omega) hM2.len
          rw [Nat.add_zero] at hw ho
          have hch : Ch (rg r ga) w1 (w2.setCells ga (vs.length * w.ty.size) cu) := (h2.mono fun _ _ h => .inl h).trans' ((setCells_ch ga cu _ w2).mono fun _ _ h => .inr h)
          exact hk σ3 _ u s' _ (hg.step h4) (hA.next hw ho hch) hch fun t ht => (he3 t ht).trans (hk2 t ht)
      · cases h
    · cases h
  · cases h
end

/-- A list of parts. -/
def elS (X : Cx) (L : List Nat) (e : Ty) (d : V) (s : Sch) (rec : Ty → Nat → List Nat → List Code → Option (List Code)) (a ix ln : Nat) (cs : List Code) : Bool :=
  match cs with
  | c1 :: c2 :: c3 :: cs3 => match idxAddr X.P (ix :: ln :: a :: L) a ix e.size c1 with
    | some u => match dfltOf X (u :: ix :: ln :: a :: L) u e c2 with
      | some ps => match movOf (u :: ix :: ln :: a :: L) u c3 with
        | some p' => veq ((zeroV e).puts ps) d && startB s d && wfT e && match rec e p' (p' :: ix :: ln :: a :: L) cs3 with
          | some [] => true
          | _ => false
        | none => false
      | none => false
    | none => false
  | _ => false

section
variable {X : Cx} {S : Nat → Prop} {r : Nat} {tR : TypeId} {L : List Nat} {fx : Bool} {ver : Int} {q p g o : Nat}

theorem elS_step (hX : X.Sound) (hL : LIn X fx q p L) {e : Ty} {d : V} {s : Sch} {rec : Ty → Nat → List Nat → List Code → Option (List Code)} {a ix ln : Nat} {cs : List Code} (h : elS X L e d s rec a ix ln cs = true) (W : Nat → Prop) (ga : Nat) (te : TypeId) (m c : Nat)
    (hrec : ∀ {p' : Nat} {L' : List Nat} {cs' : List Code} {g' o' : Nat} {W' : Nat → Prop} {tG : TypeId}, rec e p' L' cs' = some [] → LIn X fx q p' L' → RStep X S W' r tR e g' o' tG L' (RP X fx ver q p' r g' o') (fun v => startB s v = true) (fun v l => dec ver fx s v l) cs' []) :
    EStep X S W r tR e ga te m (ln :: a :: L) ix (InArr X fx ver q p r g o a ga m c) (dec ver fx s d) cs := by
  intro σ w1 oi vs st ca Q ⟨hP, ha⟩ hlt hix hg hA hr hk
  unfold elS at h
  split at h
  · rename_i c1 c2 c3 cs3
    split at h
    · rename_i u h1
      split at h
      · rename_i ps h2
        split at h
        · rename_i p' h3
          simp only [Bool.and_eq_true] at h
          obtain ⟨⟨⟨hveq, hstart⟩, hwf⟩, h⟩ := h
          have hd := veq_eq _ _ hveq
          split at h
          · rename_i hrc
            refine idxAddr_sound h1 (j := vs.length) ha hix hlt fun σ1 he1 hu1 => ?_
            refine dfltOf_sound hX h2 hu1 (hA.mem hwf hlt) fun σ2 w2 ca2 hM2 ho2 hc2 he2 => ?_
            rw [hd] at hM2
            refine movOf_sound h3 fun σ3 he3 hp3 => ?_
            have hk3 : ∀ t ∈ ix :: ln :: a :: L, σ3 t = σ t := fun t ht => (he3 t (List.mem_cons_of_mem _ ht)).trans ((he2 t (List.mem_cons_of_mem _ ht)).trans (he1 t ht))
            have hp3' : σ3 p' = .pointer (some ⟨ga, vs.length * e.size, none⟩) := hp3.trans ((he2 u (by simp)).trans hu1)
            have hP3 : RP X fx ver q p' r ga (vs.length * e.size) σ3 := by
              have := hP.keep (hL.more (L' := ix :: ln :: a :: L) fun t ht => by simp [ht]) hk3
              exact ⟨this.ver, this.kn, this.rdr, hp3'⟩
            have hL' : LIn X fx q p' (p' :: ix :: ln :: a :: L) := (hL.more (L' := p' :: ix :: ln :: a :: L) fun t ht => by simp [ht]).to (by simp)
            have hstep := hrec (W' := Wa W ga) (g' := ga) (o' := vs.length * e.size) (tG := te) hrc hL'
            have e1 : ((oi.map fun y => (d, y.2)).bind fun x => dec ver fx s x.1 x.2) = oi.bind fun y => dec ver fx s d y.2 := by cases oi <;> rfl
            refine hstep σ3 w2 (oi.map fun y => (d, y.2)) d st ca2 _ hP3 (fun x hx => ?_) ?_ hM2 (fun hn σ' w' hc hres => ?_) fun σ' w' v' s' ca' hS' hM' hc' ho' hk' => ?_
            · obtain ⟨y, _, rfl⟩ := Option.map_eq_some_iff.1 hx
              exact hstart
            · cases oi with
              | none => exact hg
              | some y => exact ⟨rfl, hg.2⟩
            · rw [e1] at hn
              refine hr ?_ σ' w' ((hc2.mono fun _ _ h => .inr h).trans' hc) hres
              cases oi with
              | none => rfl
              | some y => simp only [Option.bind_some] at hn ⊢; rw [hn]; rfl
            · rw [e1] at hS'
              have hch : Ch (rg r ga) w1 w' := (hc2.mono fun _ _ h => .inr h).trans' hc'
              refine hk σ' w' v' s' ca' ?_ (hA.next hM' (ho2.trans ho') hch) hch fun t ht => (hk' t (List.mem_cons_of_mem _ ht)).trans (hk3 t ht)
              cases oi with
              | none => exact hS'
              | some y =>
                simp only [Option.bind_some] at hS' ⊢
                cases hdd : dec ver fx s d y.2 with
                | none => rw [hdd] at hS'; exact hS'
                | some z =>
                  rw [hdd] at hS'
                  obtain ⟨rfl, rfl⟩ := hS'
                  exact ⟨by rw [hg.1], rfl⟩
          · cases h
        · cases h
      · cases h
    · cases h
  · cases h
end

/-! ### A part that may be missing -/
/-- 'present := b.Int8(); present != -1 && b.Ok()' -/
def rdPres (X : Cx) (L : List Nat) (q : Nat) (cs : List Code) : Option (FuncId × Code × List Code) :=
  match cs with
  | c1 :: .region _ ops false :: .cond (.tmp tc) A B :: rest =>
    match rcall L q c1, ops.toList with
    | some (f1, d1), [⟨some a, .move (.tmp v1), _, _, _, none⟩, ⟨some b, .binOp .neq _ (.tmp a') (.const (.int .i8 m)) _, _, _, _, none⟩, ⟨some c, .move (.tmp b'), _, _, _, none⟩,
       ⟨some d, op, _, _, _, some (2, true)⟩, ⟨some e, .pick (.tmp c') (.tmp d') (.const (.bool false)), _, _, _, none⟩] =>
      match asCall op with
      | some (f2, [.tmp q2]) =>
        if v1 == d1 && a' == a && b' == b && c' == c && d' == d && tc == e && m == -1 && q2 == q && isOk X f2 && (flat B).isEmpty && [a, b, c, d, e].all (fun t => L.all fun s => s != t) && c != d && c != a && c != b then some (f1, A, rest) else none
      | _ => none
    | _, _ => none
  | _ => none

section
variable {X : Cx} {S W : Nat → Prop} {r : Nat} {tR : TypeId} {T : Ty} {g o : Nat} {tG : TypeId} {L : List Nat} {fx : Bool} {ver : Int} {q p : Nat}
theorem rdPres_sound (hX : X.Sound) (hL : LIn X fx q p L) {f1 : FuncId} {A : Code} {cs rest : List Code} (h : rdPres X L q cs = some (f1, A, rest)) {fx1 : Bool} (hf1 : rfAt X.tab f1 = some (.val fx1 .i8)) {σ : Fm} {w : World} {oo : Option (V × List UInt8)} {v : V} {s : Rs} {cells : List Value} {Q : Exit → Fm → World → Prop}
    (hP : RP X fx ver q p r g o σ) (hS : St oo v s) (hM : Mem X S W r tR T g o tG w v s cells)
    (hno : ∀ σ' w' s', St (oo.bind fun x => (decInt .i8 1 x.2).bind fun y => if y.1 = -1 then some (x.1, y.2) else none) v s' → (∀ l m l', oo = some (v, l) → decInt .i8 1 l = some (m, l') → m = -1) → Mem X S W r tR T g o tG w' v s' cells → Ch (fun k => k = r) w w' → (∀ t ∈ L, σ' t = σ t) → CWL X.P X.n rest σ' w' Q)
    (hyes : ∀ l m l', oo = some (v, l) → decInt .i8 1 l = some (m, l') → m ≠ -1 → ∀ σ' w', Mem X S W r tR T g o tG w' v ⟨l', false⟩ cells → Ch (fun k => k = r) w w' → (∀ t ∈ L, σ' t = σ t) → CWL X.P X.n (flat A) σ' w' (Then (fun σ' w' => CWL X.P X.n rest σ' w' Q) Q)) :
    CWL X.P X.n cs σ w Q := by
  unfold rdPres at h
  split at h
  · rename_i c1 id ops tc A' B rest'
    split at h
    · rename_i f1' d1 a v1 ty1 p1 f1x b t2 a' m u2 ty2 p2 f2x c b' ty3 p3 f3x d op ty4 p4 f4x e c' d' ty5 p5 f5x hrc hops
      split at h
      · rename_i f2 q2 hop
        split at h
        · rename_i hh
          simp only [Option.some.injEq, Prod.mk.injEq] at h
          obtain ⟨rfl, rfl, rfl⟩ := h
          simp only [Bool.and_eq_true, beq_iff_eq, List.isEmpty_iff, bne_iff_ne, ne_eq] at hh
          obtain ⟨⟨⟨⟨⟨⟨⟨⟨⟨⟨⟨⟨⟨rfl, rfl⟩, rfl⟩, rfl⟩, rfl⟩, rfl⟩, rfl⟩, rfl⟩, hf2⟩, hB⟩, hall⟩, hcd⟩, hca⟩, hcb⟩ := hh
          have hne : ∀ t ∈ [a', b', c', d', tc], ∀ s ∈ L, s ≠ t := by
            intro t ht
            have := List.all_eq_true.1 hall t ht
            simp only [bne_iff_ne, ne_eq, List.all_eq_true] at this
            exact this
          obtain ⟨hcall, hok⟩ := hX.ok f1' _ hf1
          obtain ⟨hcall2, hok2⟩ := hX.ok f2 _ (isOk_spec hf2)
          have hc := hok w S r tR s (fun k hk => (hM.src k hk).1) hM.rd
          rw [← hP.rdr] at hc
          refine rcall_sound hrc hcall (hc.mono fun en w2 ⟨u, cu, s', he, h1, h2, h3, h4⟩ => ⟨_, he, fun σ1 hd1 hk1 => ?_⟩)
          obtain ⟨m, rfl, rfl, hmw⟩ := rep_int (k := .i8) h3
          have hd1' : σ1 v1 = .int .i8 m := hd1
          have hM2 := hM.call h1 h2
          have hgot : Got s.o (decInt .i8 1) m s' := by
            unfold Got at h4 ⊢
            cases ho : s.o with
            | none => rw [ho] at h4; exact h4
            | some l =>
              rw [ho] at h4
              simp only [Option.bind_some] at h4 ⊢
              rw [show decW fx1 .i8 l = (decInt .i8 1 l).map fun x => (V.i x.1, x.2) from rfl] at h4
              cases hd : decInt .i8 1 l with
              | none => rw [hd] at h4; exact h4
              | some y => rw [hd] at h4; simp only [Option.map_some] at h4; exact ⟨by have := h4.1; simpa using this, h4.2⟩
          have hqL : σ1 q2 = .pointer (some ⟨r, 0, none⟩) := (hk1 q2 hL.rdr).trans hP.rdr
          refine CWL.cons (CW.region ?_)
          rw [hops]
          have hopsA := arr_of_list hops
          simp only [RW, wantedB, if_true]
          refine OpK.move ?_
          refine OpK.cmp (op := .neq) (k := .i8) (a := m) (b := -1) rfl (by simp [hd1']) rfl ?_
          refine OpK.move ?_
          have hy : ∀ (τ : Fm) (x : Bool), τ c' = .bool x → yv ops τ 2 = some x := by
            intro τ x hx
            subst hopsA
            simp [yv, hx]
          have fin : ∀ (σ' : Fm) (x : Bool), σ' tc = .bool x → (x = true ↔ m ≠ -1 ∧ s'.bad = false) → (∀ t, t ≠ a' → t ≠ b' → t ≠ c' → t ≠ d' → t ≠ tc → σ' t = σ1 t) → CWL X.P X.n (.cond (.tmp tc) A' B :: rest') σ' w2 Q := by
            intro σ' x hx hxi hσ
            have hkeep : ∀ t ∈ L, σ' t = σ t := fun t ht => (hσ t (hne a' (by simp) t ht) (hne b' (by simp) t ht) (hne c' (by simp) t ht) (hne d' (by simp) t ht) (hne tc (by simp) t ht)).trans (hk1 t ht)
            cases x with
            | true =>
              obtain ⟨hm, hb⟩ := hxi.1 rfl
              obtain ⟨l, l', ho, hd, _, rfl⟩ := Got.good hS hgot hb
              refine CWL.condT (by simpa using hx) (CWL.append (hyes l m l' ho hd hm σ' w2 hM2 h2 hkeep))
            | false =>
              refine CWL.condF (by simpa using hx) ?_
              rw [hB, List.nil_append]
              refine hno σ' w2 s' ?_ ?_ hM2 h2 hkeep
              · cases hb : s'.bad with
                | true =>
                  have hn := Got.bad hS hgot hb
                  have : (oo.bind fun x => (decInt .i8 1 x.2).bind fun y => if y.1 = -1 then some (x.1, y.2) else none) = none := by
                    cases oo with
                    | none => rfl
                    | some x => simp only [Option.bind_some] at hn ⊢; rw [hn]; rfl
                  rw [this]
                  exact hb
                | false =>
                  have hm : m = -1 := by
                    rcases Int.decEq m (-1) with h | h
                    · exact absurd (hxi.2 ⟨h, hb⟩) (by simp)
                    · exact h
                  obtain ⟨l, l', ho, hd, _, rfl⟩ := Got.good hS hgot hb
                  rw [ho]
                  simp only [Option.bind_some, hd, hm, if_true]
                  exact ⟨rfl, rfl⟩
              · intro l m' l' ho hd
                rcases Int.decEq m' (-1) with h | h
                · have hg2 : Got (some l) (decInt .i8 1) m s' := by
                    have := (hS)
                    rw [ho] at this
                    obtain ⟨_, ho2⟩ := this.good
                    rw [ho2] at hgot
                    exact hgot
                  unfold Got at hg2
                  rw [Option.bind_some, hd] at hg2
                  obtain ⟨rfl, hs'⟩ := hg2
                  exact absurd (hxi.2 ⟨h, by rw [hs']⟩) (by simp)
                · exact h
          have hyc := hy (upd (upd (upd σ1 (some a') (ev σ1 (.tmp v1))) (some b') (.bool (m != -1))) (some c') (ev (upd (upd σ1 (some a') (ev σ1 (.tmp v1))) (some b') (.bool (m != -1))) (.tmp b'))) (m != -1) (by simp)
          rw [hyc]
          by_cases hm : m = -1
          · have hfalse : (m != -1) = false := by simp [hm]
            simp only [hfalse, show ((some false : Option Bool) == some true) = false from rfl, Bool.false_eq_true, if_false]
            refine OpK.pick (b := false) (by simp only [ev_tmp]; rw [upd_ne _ _ hcd]; simp) ?_
            simp only [Bool.false_eq_true, if_false, ev_const]
            refine fin _ false (by simp) (by simp [hm]) fun t h1 h2 h3 h4 h5 => ?_
            rw [upd_ne _ _ h5, upd_ne _ _ h4, upd_ne _ _ h3, upd_ne _ _ h2, upd_ne _ _ h1]
          · have htrue : (m != -1) = true := by simp [hm]
            simp only [htrue, BEq.rfl, if_true]
            refine OpK.asCall hop hcall2 rfl ?_
            simp only [List.map_cons, List.map_nil, ev_tmp]
            rw [upd_ne _ _ (hne c' (by simp) q2 hL.rdr), upd_ne _ _ (hne b' (by simp) q2 hL.rdr), upd_ne _ _ (hne a' (by simp) q2 hL.rdr), hqL]
            refine (hok2 w2 S r tR s' h1).mono fun en w3 ⟨he3, hw3⟩ => ⟨_, he3, ?_⟩
            subst hw3
            refine OpK.pick (b := true) (by simp only [ev_tmp]; rw [upd_ne _ _ hcd]; simp) ?_
            simp only [if_true, ev_tmp, upd_same]
            refine fin _ (!s'.bad) (by simp) (by simp [hm]) fun t h1 h2 h3 h4 h5 => ?_
            rw [upd_ne _ _ h5, upd_ne _ _ h4, upd_ne _ _ h3, upd_ne _ _ h2, upd_ne _ _ h1]
        · cases h
      · cases h
    · cases h
  · cases h
end

def allocZero (P : Program) (t : TypeId) (e : Ty) : Bool :=
  match P.info? t with
  | some i => match i.zero with
    | some z => cellsEq z.cells.toList (zeroC e)
    | none => false
  | none => false
theorem allocZero_spec {P : Program} {t : TypeId} {e : Ty} (h : allocZero P t e = true) : ∃ i z, P.info? t = some i ∧ i.zero = some z ∧ z.cells = (zeroC e).toArray := by
  unfold allocZero at h
  split at h
  · rename_i i hi
    split at h
    · rename_i z hz
      exact ⟨i, z, hi, hz, by apply Array.ext'; rw [cellsEq_eq h]⟩
    · cases h
  · cases h
/-- 's.F = new(T); v := s.F; v.Default(); s := v; ..' -/
def rdOpt (X : Cx) (L : List Nat) (q p : Nat) (T : Ty) (k : Nat) (d : V) (s : Sch) (rec : Ty → Nat → List Nat → List Code → Option (List Code)) (cs : List Code) : Option (List Code) :=
  match T.fld k with
  | some (.nst e, off) =>
    match rdPres X L q cs with
    | some (f1, A, rest) => match rfAt X.tab f1, flat A with
      | some (.val _ .i8), ca :: cb :: cd :: cm :: cs3 =>
        match canR ca, canR cb with
        | some ⟨[(.alloc at', _), (.nilCheck (.tmp p2), _), (.fieldAddr tid (.tmp 3) k', _), (.store st (.tmp 5) (.tmp 1), _)], b1⟩,
          some ⟨[(.nilCheck (.tmp p3), _), (.fieldAddr tid2 (.tmp 1) k2, _), (.load lt (.tmp 3), _)], (u, 5) :: b2⟩ =>
          if p2 == 2 * p && p3 == 2 * p && fieldOff X.P tid k' == some off && fieldOff X.P tid2 k2 == some off && (X.P.info? st).map (·.size) == some 1 && oneB X.P lt && allocZero X.P at' e && free L b1 && free L ((u, 5) :: b2) && wfT e then
            match dfltOf X (u :: L) u e cd with
            | some ps => match movOf (u :: L) u cm with
              | some p' => if veq ((zeroV e).puts ps) d && startB s d then
                  (match rec e p' (p' :: L) cs3 with
                  | some [] => some rest
                  | _ => none)
                else none
              | none => none
            | none => none
          else none
        | _, _ => none
      | _, _ => none
    | none => none
  | _ => none

section
variable {X : Cx} {S W : Nat → Prop} {r : Nat} {tR : TypeId} {T : Ty} {g o : Nat} {tG : TypeId} {L : List Nat} {fx : Bool} {ver : Int} {q p : Nat}
set_option maxHeartbeats 1000000 in
theorem rdOpt_step (hX : X.Sound) (hL : LIn X fx q p L) {k : Nat} {d : V} {s : Sch} {rec : Ty → Nat → List Nat → List Code → Option (List Code)} {A : V → Prop} {cs rest : List Code} (h : rdOpt X L q p T k d s rec cs = some rest)
    (hrec : ∀ {e : Ty} {p' : Nat} {L' : List Nat} {cs' : List Code} {g' o' : Nat} {W' : Nat → Prop} {tG : TypeId}, rec e p' L' cs' = some [] → LIn X fx q p' L' → RStep X S W' r tR e g' o' tG L' (RP X fx ver q p' r g' o') (fun v => startB s v = true) (fun v l => dec ver fx s v l) cs' []) :
    RStep X S W r tR T g o tG L (RP X fx ver q p r g o) A (fun v l => (decInt .i8 1 l).bind fun y => if y.1 = -1 then some (v, y.2) else (dec ver fx s d y.2).map fun x => (v.put k (.nst x.1), x.2)) cs rest := by
  intro σ w1 oo v st cells Q hP hA hS hM hr hk
  unfold rdOpt at h
  split at h
  · rename_i e off hfld
    split at h
    · rename_i f1 B rest' hpres
      split at h
      · rename_i fx1 ca cb cd cm cs3 hf1 hflat
        split at h
        · rename_i at' ty1 p2 ty2 tid k' ty3 sty ty4 b1 p3 ty5 tid2 k2 ty6 lt ty7 u b2 hca hcb
          split at h
          · rename_i hh
            simp only [Bool.and_eq_true, beq_iff_eq] at hh
            obtain ⟨⟨⟨⟨⟨⟨⟨⟨⟨rfl, rfl⟩, hoff1⟩, hoff2⟩, hst⟩, hone⟩, hal⟩, hfree1⟩, hfree2⟩, hwf⟩ := hh
            split at h
            · rename_i ps hdf
              split at h
              · rename_i p' hmv
                split at h
                · rename_i hvs
                  split at h
                  · rename_i hrc
                    simp only [Option.some.injEq] at h
                    subst h
                    simp only [Bool.and_eq_true] at hvs
                    obtain ⟨hveq, hstart⟩ := hvs
                    have hd := veq_eq _ _ hveq
                    obtain ⟨inf, z, hinf, hz, hzc⟩ := allocZero_spec hal
                    refine rdPres_sound hX hL hpres hf1 hP hS hM (fun σ' w' s' hSt hall hM' hc' he' => ?_) (fun l m l' ho hdm hm σ1 w2 hM2 hc2 he2 => ?_)
                    · refine hk σ' w' v s' cells ?_ hM' (hc'.mono fun _ _ h => .inl h) (Outside.refl _ _ _) he'
                      cases oo with
                      | none => exact hSt
                      | some x =>
                        obtain ⟨rfl, _⟩ := hS.good
                        simp only [Option.bind_some] at hSt ⊢
                        cases hdd : decInt .i8 1 x.2 with
                        | none => rw [hdd] at hSt; exact hSt
                        | some y =>
                          have := hall x.2 y.1 y.2 rfl hdd
                          rw [hdd] at hSt
                          simp only [Option.bind_some, this, if_true] at hSt ⊢
                          exact hSt
                    · rw [hflat]
                      obtain ⟨_, _, _, _, hb⟩ := hM2.rep.fld hfld
                      have hsz := hM2.rep.size
                      have hb' : off + 1 ≤ T.size := by rw [hsz] at hb; exact hb
                      have hlen := hM2.len
                      have hgl := hM2.blk.lt
                      have hrl := hM2.rd.lt
                      have hp1 : σ1 p = .pointer (some ⟨g, o, none⟩) := (he2 p hL.ptr).trans hP.ptr
                      have hM3 := hM2.alloc (.cells (zeroC e).toArray at')
                      have hnew := Blk.new w2 at' (zeroC e)
                      refine CWL.reg hca ?_
                      refine OpK.allocArr hinf hz ?_
                      rw [hzc]
                      generalize hw3 : w2.alloc (.cells (zeroC e).toArray at') = w3 at hM3 hnew
                      have hs3 : w3.heap.size = w2.heap.size + 1 := by rw [← hw3]; simp
                      have hc3 : Ch (fun _ => False) w2 w3 := hw3 ▸ Ch.alloc _ w2 _
                      refine OpK.nilCheck (a := ⟨g, o, none⟩) (by simp only [ev_tmp]; rw [upd_odd _ _ _ _ (by omega), enF_two]; exact hp1) ?_
                      refine OpK.fieldAddr hoff1 (a := ⟨g, o, none⟩) (by simp [upd]) ?_
                      refine OpK.storeV (c := [.pointer (some ⟨w2.heap.size, 0, none⟩)]) (v := .pointer (some ⟨w2.heap.size, 0, none⟩)) (g := g) (o := o + off) (tG := tG) (cells := cells) (by rw [hst]; rfl) (by simp [upd, add_at]) (by simp [upd]) (.inr rfl) (by simp [Value.oneCell']) hM3.blk (by simp only [List.length_cons, List.length_nil]; omega) ?_
                      simp only [RC]
                      have hc4 := setCells_ch g [.pointer (some ⟨w2.heap.size, 0, none⟩)] (o + off) w3
                      have hb4 := hM3.blk.setCells [.pointer (some ⟨w2.heap.size, 0, none⟩)] (o + off) (by simp only [List.length_cons, List.length_nil]; omega)
                      have hk4 : ∀ k, k ≠ g → (w3.setCells g (o + off) [.pointer (some ⟨w2.heap.size, 0, none⟩)]).heap[k]? = w3.heap[k]? := fun k hk => setCells_heap g _ _ _ _ hk
                      generalize hw4 : w3.setCells g (o + off) [.pointer (some ⟨w2.heap.size, 0, none⟩)] = w4 at hc4 hb4 hk4
                      have hs4 : w3.heap.size ≤ w4.heap.size := hc4.size
                      have hg3 : g ≠ w2.heap.size := by omega
                      have hb4n : Blk w4 w2.heap.size at' (zeroC e) := hnew.keep (hk4 _ (Ne.symm hg3))
                      generalize hσ2 : outF b1 _ = σ2
                      have hk2 : ∀ t ∈ L, σ2 t = σ1 t := fun t ht => by
                        rw [← hσ2, outF_free hfree1 ht, upd_odd _ _ _ _ (by omega), upd_odd _ _ _ _ (by omega), upd_odd _ _ _ _ (by omega), upd_odd _ _ _ _ (by omega), enF_two]
                      have hp2 : σ2 p = .pointer (some ⟨g, o, none⟩) := (hk2 p hL.ptr).trans hp1
                      refine CWL.reg hcb ?_
                      refine OpK.nilCheck (a := ⟨g, o, none⟩) (by simp only [ev_tmp, enF_two]; exact hp2) ?_
                      refine OpK.fieldAddr hoff2 (a := ⟨g, o, none⟩) (by simp [upd]) ?_
                      have hcl : w4.cell? ⟨g, o + off, none⟩ = some (.pointer (some ⟨w2.heap.size, 0, none⟩)) := by
                        rw [hb4.cell, spl_get (by simp only [List.length_cons, List.length_nil]; omega)]
                        rw [if_neg (by omega), if_pos (by simp only [List.length_cons, List.length_nil]; omega)]
                        simp
                      refine OpK.load (a := ⟨g, o + off, none⟩) hone (by simp [upd, add_at]) hcl ?_
                      simp only [RC]
                      generalize hσ3 : outF ((u, 5) :: b2) _ = σ3
                      have hu3 : σ3 u = .pointer (some ⟨w2.heap.size, 0, none⟩) := by rw [← hσ3, outF_head]; simp [upd]
                      have hk3 : ∀ t ∈ L, σ3 t = σ t := fun t ht => by
                        rw [← hσ3, outF_free hfree2 ht, upd_odd _ _ _ _ (by omega), upd_odd _ _ _ _ (by omega), upd_odd _ _ _ _ (by omega), enF_two]
                        exact (hk2 t ht).trans (he2 t ht)
                      have hzl := zeroC_len e
                      have hMn : Mem X S (fun k => W k ∨ k = w2.heap.size) r tR e w2.heap.size 0 at' w4 (zeroV e) ⟨l', false⟩ (zeroC e) := by
                        refine ⟨hM3.rd.keepG (hk4 r hM.ne) fun k hS => hk4 k fun e => (hM3.src k hS).2 (e ▸ hM3.wg), hb4n, ?_, by omega, ?_, fun k hw => ?_, fun k hS => ⟨?_, fun hw => ?_⟩, .inl hM.wr, .inr rfl, by omega, ?_, hM.eW.2.1, ?_⟩
                        · rw [List.drop_zero, List.take_of_length_le (by omega)]
                          exact rep_zero _ _ _ hwf
                        · exact (World.cell?_of_block (hk4 X.gE hM3.eW.2.2)).trans hM3.err
                        · rcases hw with hw | rfl
                          · have := hM2.bound k hw; omega
                          · omega
                        · have := (hM2.src k hS).1; omega
                        · rcases hw with hw | rfl
                          · exact (hM2.src k hS).2 hw
                          · have := (hM2.src _ hS).1; omega
                        · have := hM2.eW.1; omega
                        · have := hM2.eW.1; omega
                      have hc24 : Ch (rg r g) w1 w4 := ((hc2.mono fun _ _ h => .inl h).trans' (hc3.mono fun _ _ h => h.elim)).trans' (hc4.mono fun _ _ h => .inr h)
                      refine dfltOf_sound hX hdf hu3 hMn fun σ4 w5 cn5 hM5 ho5 hc5 he5 => ?_
                      rw [hd] at hM5
                      refine movOf_sound hmv fun σ5 he6 hp5 => ?_
                      have hk5 : ∀ t ∈ L, σ5 t = σ t := fun t ht => (he6 t (List.mem_cons_of_mem _ ht)).trans ((he5 t (List.mem_cons_of_mem _ ht)).trans (hk3 t ht))
                      have hp5' : σ5 p' = .pointer (some ⟨w2.heap.size, 0, none⟩) := hp5.trans ((he5 u (by simp)).trans hu3)
                      have hP5 : RP X fx ver q p' r w2.heap.size 0 σ5 := by
                        have := hP.keep hL hk5
                        exact ⟨this.ver, this.kn, this.rdr, hp5'⟩
                      have hL' : LIn X fx q p' (p' :: L) := (hL.more (L' := p' :: L) fun t ht => by simp [ht]).to (by simp)
                      have hs5 := hc5.size
                      have hw12 : w1.heap.size ≤ w2.heap.size := hc2.size
                      have hc15 : ∀ {w'}, Ch (rg r w2.heap.size) w5 w' → Ch (rg r g) w1 w' := fun {w'} hc => by
                        refine hc24.trans (((hc5.mono fun _ _ h => .inr h : Ch (rg r w2.heap.size) w4 w5)).trans' hc) fun i hi hT => ?_
                        rcases hT with rfl | rfl
                        · exact .inl rfl
                        · omega
                      have hF : ∀ {x}, dec ver fx s d l' = x → (oo.bind fun x => (decInt .i8 1 x.2).bind fun y => if y.1 = -1 then some (x.1, y.2) else (dec ver fx s d y.2).map fun z => (x.1.put k (.nst z.1), z.2)) = x.map fun z => (v.put k (.nst z.1), z.2) := fun {x} hx => by
                        rw [ho]
                        simp only [Option.bind_some, hdm, if_neg hm, hx]
                      refine hrec hrc hL' σ5 w5 (some (d, l')) d ⟨l', false⟩ cn5 _ hP5 (fun x hx => by cases hx; exact hstart) ⟨rfl, rfl⟩ hM5 (fun hn σ' w' hc hres => ?_) fun σ6 w6 v6 s6 cn6 hS6 hM6 hc6 ho6 hk6 => ?_
                      · exact hr (by have hn' : dec ver fx s d l' = none := hn; have := hF hn'; exact this) σ' w' (hc15 hc) hres
                      · show CWL X.P X.n rest' σ6 w6 Q
                        have hc16 := hc15 hc6
                        have hs6 := hc6.size
                        have hkeep6 : ∀ k, k < w2.heap.size → k ≠ r → k ≠ g → w6.heap[k]? = w2.heap[k]? := fun k h1 h2 h3 =>
                          (hc6.block k (by omega) (fun h => by rcases h with h | h; exact h2 h; omega)).trans ((hc5.block k (by omega) (by omega)).trans ((hk4 k h3).trans (hc3.block k h1 fun h => h)))
                        have hgk : w6.heap[g]? = w4.heap[g]? := (hc6.block g (by omega) (fun h => by rcases h with h | h; exact hM.ne h.symm; omega)).trans (hc5.block g (by omega) (by omega))
                        have hrn : Rep w6 (Ob W w6) (.nst e) (.nst v6) [.pointer (some ⟨w2.heap.size, 0, none⟩)] := by
                          have hr6 := hM6.rep
                          rw [List.drop_zero] at hr6
                          have hl6 := hM6.len
                          refine ⟨w2.heap.size, cn6.take e.size, rfl, ⟨by omega, fun hw => by have := hM2.bound _ hw; omega⟩, hr6.mono fun k hk => ⟨hk.1, fun h => hk.2 (.inl h)⟩, by rw [List.length_take]; omega, fun i x hx => ?_⟩
                          rw [List.getElem?_take] at hx
                          split at hx
                          · rw [Nat.zero_add, hM6.blk.cell]; exact hx
                          · cases hx
                        have hrep6 : Rep w6 (Ob W w6) T v ((cells.drop o).take T.size) := hM2.rep.keepMono (fun k hk => hkeep6 k hk.1 (fun e => hk.2 (e ▸ hM.wr)) (fun e => hk.2 (e ▸ hM.wg))) (Ob.up (by omega))
                        refine hk σ6 w6 (v.put k (.nst v6)) s6 (spl cells (o + off) [.pointer (some ⟨w2.heap.size, 0, none⟩)]) ?_ ?_ hc16 (Outside.spl (by simp only [List.length_cons, List.length_nil]; omega) hlen) fun t ht => (hk6 t (List.mem_cons_of_mem _ ht)).trans (hk5 t ht)
                        · rw [hF rfl]
                          have hS6' : St (dec ver fx s d l') v6 s6 := hS6
                          cases hdd : dec ver fx s d l' with
                          | none => rw [hdd] at hS6'; exact hS6'
                          | some z =>
                            rw [hdd] at hS6'
                            obtain ⟨rfl, rfl⟩ := hS6'
                            exact ⟨rfl, rfl⟩
                        · refine ⟨hM6.rd, hb4.keep hgk, ?_, by rw [spl_len (by simp only [List.length_cons, List.length_nil]; omega)]; exact hlen, hM6.err, fun k hw => by have := hM2.bound k hw; omega, fun k hS => ⟨by have := (hM2.src k hS).1; omega, (hM2.src k hS).2⟩, hM.wr, hM.wg, hM.ne, by have := hM2.eW.1; omega, hM.eW.2⟩
                          rw [spl_sub (by simp only [List.length_cons, List.length_nil]; omega) hlen]
                          exact hrep6.put hfld hrn
                  · cases h
                · cases h
              · cases h
            · cases h
          · cases h
        · cases h
      · cases h
    · cases h
  · cases h
end

/-- All fields of a part. -/
def rdS (X : Cx) (fx : Bool) (q : Nat) : Sch → Ty → Nat → List Nat → List Code → Option (List Code)
  | .nil, _, _, _, cs => some cs
  | .val c k w r, T, p, L, cs => match rdVc X L c (fun cs => if w = .uuid then rdUuid X L q p T k cs else rdVal X fx L q p T k w cs) cs with
    | some cs' => rdS X fx q r T p L cs'
    | none => none
  | .arrV c k nul w r, T, p, L, cs => match rdVc X L c (rdArr X fx L q p T k nul w.ty (elV X fx L q w)) cs with
    | some cs' => rdS X fx q r T p L cs'
    | none => none
  | .arrS c k nul d s r, T, p, L, cs => match T.fld k with
    | some (.arr e, _) => match rdVc X L c (rdArr X fx L q p T k nul e (elS X L e d s fun T' p' L' cs' => rdS X fx q s T' p' L' cs')) cs with
      | some cs' => rdS X fx q r T p L cs'
      | none => none
    | _ => none
  | .opt c k d s r, T, p, L, cs => match rdVc X L c (rdOpt X L q p T k d s fun T' p' L' cs' => rdS X fx q s T' p' L' cs') cs with
    | some cs' => rdS X fx q r T p L cs'
    | none => none
  | .tags k r, T, p, L, cs => match rdTags X fx L q p T k cs with
    | some cs' => rdS X fx q r T p L cs'
    | none => none

theorem okR_fresh {s r : Sch} {k : Nat} {v : V} (hk : s.keys = k :: r.keys) (hf : freshB s v = true → freshB r v = true) (hc : r.keys.contains k = false) (h : startB s v = true) (x : V) : startB r v = true ∧ startB r (v.put k x) = true := by
  obtain ⟨h1, _⟩ := startB_tail (s := s) (r := r) (k := k) hk hf h
  exact ⟨h1, startB_put hc h1⟩

section
variable {X : Cx} {S : Nat → Prop} {r : Nat} {tR : TypeId} {fx : Bool} {ver : Int} {q : Nat}

theorem rdS_step0 (hX : X.Sound) (s : Sch) (hver : noNul s = true ∨ 0 ≤ ver) : ∀ {W : Nat → Prop} {T : Ty} {p g o : Nat} {tG : TypeId} {L : List Nat} {cs rest : List Code}, rdS X fx q s T p L cs = some rest → LIn X fx q p L → okB ver fx s = true →
    RStep X S W r tR T g o tG L (RP X fx ver q p r g o) (fun v => startB s v = true) (fun v l => dec ver fx s v l) cs rest := by
  induction s with
  | nil =>
    intro W T p g o tG L cs rest h hL hok
    simp only [rdS, Option.some.injEq] at h
    subst h
    exact RStep.refl fun v l => rfl
  | val c k w r' ih =>
    have ih := @ih (hver.imp_left fun h => by simpa only [noNul] using h)
    intro W T p g o tG L cs rest h hL hok
    simp only [rdS] at h
    split at h
    · rename_i cs' hc
      simp only [okB, Bool.and_eq_true] at hok
      obtain ⟨hk1, hk2⟩ := notin hok.1
      have h1 := rdVc_step (S := S) (W := W) (r := r) (tR := tR) (T := T) (g := g) (o := o) (tG := tG) (Pre := RP X fx ver q p r g o) (A := fun v => startB (.val c k w r') v = true) (f := fun v l => (decW fx w l).map fun x => (v.put k x.1, x.2)) (ver := ver) hc (fun σ σ' hp he => hp.keep hL he) (fun σ hp => hp.ver) fun _ cs rest hb => by
        split at hb
        · rename_i hw; subst hw; exact rdUuid_step hX hL hb
        · exact rdVal_step hX hL hb
      refine (h1.trans (ih h hL hok.2) (fun v l y hA hy => ?_) fun σ σ' hp he => hp.keep hL he).congr fun v l => ?_
      · have hst := okR_fresh (s := .val c k w r') (r := r') (k := k) rfl (fun h => h) hk1 hA
        split at hy
        · obtain ⟨x, _, rfl⟩ := Option.map_eq_some_iff.1 hy
          exact (hst x.1).2
        · simp only [Option.some.injEq] at hy; subst hy; exact (hst .nstN).1
      · simp only [dec]
        split
        · cases decW fx w l <;> rfl
        · rfl
    · cases h
  | arrV c k nul w r' ih =>
    have ih := @ih (hver.imp_left fun h => by simp only [noNul, Bool.and_eq_true] at h; exact h.2)
    intro W T p g o tG L cs rest h hL hok
    simp only [rdS] at h
    split at h
    · rename_i cs' hc
      simp only [okB, Bool.and_eq_true] at hok
      obtain ⟨hk1, hk2⟩ := notin hok.1
      have h1 := rdVc_step (S := S) (W := W) (r := r) (tR := tR) (T := T) (g := g) (o := o) (tG := tG) (Pre := RP X fx ver q p r g o) (A := fun v => startB (.arrV c k nul w r') v = true) (f := fun v l => (decLen fx l).bind fun n => (decN (decW fx w) n.1.toNat n.2).map fun x => (v.put k (arrOf ver nul n.1 x.1), x.2)) (ver := ver) hc (fun σ σ' hp he => hp.keep hL he) (fun σ hp => hp.ver) fun _ cs rest hb =>
        (rdArr_step (gd := decW fx w) hX hL (hver.imp_left fun h => by simp only [noNul, Bool.and_eq_true] at h; exact Option.isNone_iff_eq_none.1 h.1) hb fun a ix ln cs hb => elV_step hX hL hb).wk fun v hA => by
          have := startB_fresh hA
          simp only [freshB, Bool.and_eq_true] at this
          have hn := this.1
          split at hn
          · assumption
          · cases hn
      refine (h1.trans (ih h hL hok.2) (fun v l y hA hy => ?_) fun σ σ' hp he => hp.keep hL he).congr fun v l => ?_
      · have hst := okR_fresh (s := .arrV c k nul w r') (r := r') (k := k) rfl (fun h => by simp only [freshB, Bool.and_eq_true] at h; exact h.2) hk1 hA
        split at hy
        · obtain ⟨x, _, hy⟩ := Option.bind_eq_some_iff.1 hy
          obtain ⟨x, _, rfl⟩ := Option.map_eq_some_iff.1 hy
          exact (hst _).2
        · simp only [Option.some.injEq] at hy; subst hy; exact (hst .nstN).1
      · simp only [dec]
        split
        · cases decLen fx l with
          | none => rfl
          | some n =>
            simp only [Option.bind_some]
            cases decN (decW fx w) n.1.toNat n.2 <;> rfl
        · rfl
    · cases h
  | arrS c k nul d s' r' ihs ih =>
    have ih := @ih (hver.imp_left fun h => by simp only [noNul, Bool.and_eq_true] at h; exact h.2)
    have ihs := @ihs (hver.imp_left fun h => by simp only [noNul, Bool.and_eq_true] at h; exact h.1.2)
    intro W T p g o tG L cs rest h hL hok
    simp only [rdS] at h
    split at h
    · rename_i e off hfld
      split at h
      · rename_i cs' hc
        simp only [okB, Bool.and_eq_true] at hok
        obtain ⟨⟨hk, hoke⟩, hok⟩ := hok
        obtain ⟨hk1, hk2⟩ := notin hk
        have h1 := rdVc_step (S := S) (W := W) (r := r) (tR := tR) (T := T) (g := g) (o := o) (tG := tG) (Pre := RP X fx ver q p r g o) (A := fun v => startB (.arrS c k nul d s' r') v = true) (f := fun v l => (decLen fx l).bind fun n => (decN (dec ver fx s' d) n.1.toNat n.2).map fun x => (v.put k (arrOf ver nul n.1 x.1), x.2)) (ver := ver) hc (fun σ σ' hp he => hp.keep hL he) (fun σ hp => hp.ver) fun hcv cs rest hb => by
          rw [hcv] at hoke
          simp only [Bool.not_true, Bool.false_or, Bool.and_eq_true] at hoke
          obtain ⟨⟨hpos, hoe⟩, hstd⟩ := hoke
          exact (rdArr_step (gd := dec ver fx s' d) hX hL (hver.imp_left fun h => by simp only [noNul, Bool.and_eq_true] at h; exact Option.isNone_iff_eq_none.1 h.1.1) hb fun a ix ln cs hb W ga te m c => elS_step hX hL hb W ga te m c fun hrc hL' => ihs hrc hL' hoe).wk fun v hA => by
            have := startB_fresh hA
            simp only [freshB, Bool.and_eq_true] at this
            have hn := this.1
            split at hn
            · assumption
            · cases hn
        refine (h1.trans (ih h hL hok) (fun v l y hA hy => ?_) fun σ σ' hp he => hp.keep hL he).congr fun v l => ?_
        · have hst := okR_fresh (s := .arrS c k nul d s' r') (r := r') (k := k) rfl (fun h => by simp only [freshB, Bool.and_eq_true] at h; exact h.2) hk1 hA
          split at hy
          · obtain ⟨x, _, hy⟩ := Option.bind_eq_some_iff.1 hy
            obtain ⟨x, _, rfl⟩ := Option.map_eq_some_iff.1 hy
            exact (hst _).2
          · simp only [Option.some.injEq] at hy; subst hy; exact (hst .nstN).1
        · simp only [dec]
          split
          · cases decLen fx l with
            | none => rfl
            | some n =>
              simp only [Option.bind_some]
              cases decN (dec ver fx s' d) n.1.toNat n.2 <;> rfl
          · rfl
      · cases h
    · cases h
  | opt c k d s' r' ihs ih =>
    have ih := @ih (hver.imp_left fun h => by simp only [noNul, Bool.and_eq_true] at h; exact h.2)
    have ihs := @ihs (hver.imp_left fun h => by simp only [noNul, Bool.and_eq_true] at h; exact h.1)
    intro W T p g o tG L cs rest h hL hok
    simp only [rdS] at h
    split at h
    · rename_i cs' hc
      simp only [okB, Bool.and_eq_true] at hok
      obtain ⟨⟨hk, hoke⟩, hok⟩ := hok
      obtain ⟨hk1, hk2⟩ := notin hk
      have h1 := rdVc_step (S := S) (W := W) (r := r) (tR := tR) (T := T) (g := g) (o := o) (tG := tG) (Pre := RP X fx ver q p r g o) (A := fun v => startB (.opt c k d s' r') v = true) (f := fun v l => (decInt .i8 1 l).bind fun y => if y.1 = -1 then some (v, y.2) else (dec ver fx s' d y.2).map fun x => (v.put k (.nst x.1), x.2)) (ver := ver) hc (fun σ σ' hp he => hp.keep hL he) (fun σ hp => hp.ver) fun hcv cs rest hb => by
        rw [hcv] at hoke
        simp only [Bool.not_true, Bool.false_or, Bool.and_eq_true] at hoke
        exact rdOpt_step hX hL hb fun hrc hL' => ihs hrc hL' hoke.1
      refine (h1.trans (ih h hL hok) (fun v l y hA hy => ?_) fun σ σ' hp he => hp.keep hL he).congr fun v l => ?_
      · have hst := okR_fresh (s := .opt c k d s' r') (r := r') (k := k) rfl (fun h => by simp only [freshB, Bool.and_eq_true] at h; exact h.2) hk1 hA
        split at hy
        · obtain ⟨x, _, hy⟩ := Option.bind_eq_some_iff.1 hy
          split at hy
          · simp only [Option.some.injEq] at hy; subst hy; exact (hst .nstN).1
          · obtain ⟨x, _, rfl⟩ := Option.map_eq_some_iff.1 hy
            exact (hst _).2
        · simp only [Option.some.injEq] at hy; subst hy; exact (hst .nstN).1
      · simp only [dec]
        split
        · cases decInt .i8 1 l with
          | none => rfl
          | some n =>
            simp only [Option.bind_some]
            split
            · rfl
            · cases dec ver fx s' d n.2 <;> rfl
        · rfl
    · cases h
  | tags k r' ih =>
    have ih := @ih (hver.imp_left fun h => by simpa only [noNul] using h)
    intro W T p g o tG L cs rest h hL hok
    simp only [rdS] at h
    split at h
    · rename_i cs' hc
      simp only [okB, Bool.and_eq_true] at hok
      obtain ⟨hk1, hk2⟩ := notin hok.1
      have h1 := rdTags_step (S := S) (W := W) (r := r) (tR := tR) (T := T) (g := g) (o := o) (tG := tG) (ver := ver) (A := fun v => startB (.tags k r') v = true) hX hL hc
      refine (h1.trans (ih h hL hok.2) (fun v l y hA hy => ?_) fun σ σ' hp he => hp.keep hL he).congr fun v l => ?_
      · have hst := okR_fresh (s := .tags k r') (r := r') (k := k) rfl (fun h => h) hk1 hA
        split at hy
        · obtain ⟨x, _, rfl⟩ := Option.map_eq_some_iff.1 hy
          exact (hst _).2
        · simp only [Option.some.injEq] at hy; subst hy; exact (hst .nstN).1
      · simp only [dec]
        split
        · cases decTags l <;> rfl
        · rfl
    · cases h
theorem rdS_step (hX : X.Sound) (hver : 0 ≤ ver) (s : Sch) : ∀ {W : Nat → Prop} {T : Ty} {p g o : Nat} {tG : TypeId} {L : List Nat} {cs rest : List Code}, rdS X fx q s T p L cs = some rest → LIn X fx q p L → okB ver fx s = true →
    RStep X S W r tR T g o tG L (RP X fx ver q p r g o) (fun v => startB s v = true) (fun v l => dec ver fx s v l) cs rest := rdS_step0 hX s (.inr hver)
end
end Go.Kx
