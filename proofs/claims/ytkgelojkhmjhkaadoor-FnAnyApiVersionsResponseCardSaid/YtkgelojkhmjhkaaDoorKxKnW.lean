/- Library texts KnW, joined. -/
import Derived.Test.YtkgelojkhmjhkaaDoorKxKnM
import Derived.Test.YtkgelojkhmjhkaaDoorKxBe
/- A list is written behind its load; a slice of octets is cut; the keys of tags. -/
namespace Go.Kx
open Go.RowKit
set_option linter.unusedSimpArgs false
set_option linter.unusedVariables false

theorem CWL.condJ {P : Program} {n : Nat} {c : Operand} {x y : Code} {cs : List Code} {σ : Fm} {w : World} {Q : Exit → Fm → World → Prop} {b : Bool} (hc : ev σ c = .bool b) (J : Fm → World → Prop) (ht : b = true → CW P n x σ w (Then J fun _ _ _ => False)) (hf : b = false → CW P n y σ w (Then J fun _ _ _ => False))
    (hn : ∀ σ' w', J σ' w' → CWL P n cs σ' w' Q) : CWL P n (.cond c x y :: cs) σ w Q := by
  refine CWL.cons (CW.mono (CW.cond (Q := Then J fun _ _ _ => False) hc ?_) fun e σ' w' h => ?_)
  · cases b with
    | true => exact ht rfl
    | false => exact hf rfl
  cases e with
  | normal => exact hn σ' w' h
  | _ => exact h.elim
section
variable {P : Program} {ρ : Operand → Value} {w : World} {K : Value → World → Prop} {d : Option Tmp} {ty : TypeId} {pos : String} {af : Array Edge} {g : Option (Nat × Bool)}
theorem OpK.sliceTo {x hi : Operand} {t e : TypeId} {s : Nat} {a : Option Addr} {n c j : Nat} {k : IntKind} (ht : P.underlying t = some (.slice e)) (hs : (P.info? e).map (·.size) = some s) (hx : ρ x = .slice a n c) (hj : ρ hi = .int k (j : Int)) (hn : j ≤ c)
    (h : K (.slice a j c) w) : OpK P ρ ⟨d, .slice t x none (some hi) none, ty, pos, af, g⟩ w K := by
  have he : P.underlying t = some (.slice (P.elem t)) := by rw [ht]; simp [Program.elem, ht]
  have hel : P.elem t = e := by simp [Program.elem, ht]
  obtain ⟨i, hi, hsz⟩ := Option.map_eq_some_iff.1 hs
  simp only [OpK, execOp, Option.map_some, Option.map_none, hx, hj, Instr.sliceAt, Sem.run_bind, run_underlying ht, Result.andThen_ok]
  rw [run_slice_h w t a n c he k (j : Int) (by omega) (by omega)]
  simp only [hel, sizeOf, typeInfo, run_program, Sem.run_bind, Result.andThen_ok, hi, Sem.run_pure, sliced, Int.toNat_natCast, hsz, Nat.zero_mul, Nat.sub_zero, After]
  have e0 : (if c = 0 then a else a.map fun p => p.add 0) = a := by
    split
    · rfl
    · cases a <;> simp [Addr.add_zero']
  simpa [e0] using h
theorem Yi.sliceTo {S : World → Prop} {x hi : Operand} {t e : TypeId} {s : Nat} {a : Option Addr} {n c j : Nat} {k : IntKind} (ht : P.underlying t = some (.slice e)) (hs : (P.info? e).map (·.size) = some s) (hx : ρ x = .slice a n c) (hj : ρ hi = .int k (j : Int)) (hn : j ≤ c) : Yi P S ρ ⟨d, .slice t x none (some hi) none, ty, pos, af, g⟩ (.slice a j c) :=
  yi_of_OpK rfl fun w _ => OpK.sliceTo ht hs hx hj hn ⟨rfl, rfl⟩
theorem Yi.sliceFrom {S : World → Prop} {x lo : Operand} {t e : TypeId} {a : Option Addr} {n c j : Nat} {k : IntKind} (ht : P.underlying t = some (.slice e)) (hs : (P.info? e).map (·.size) = some 1) (hx : ρ x = .slice a n c) (hj : ρ lo = .int k (j : Int)) (hn : j ≤ n) (hc : n ≤ c) : Yi P S ρ ⟨d, .slice t x (some lo) none none, ty, pos, af, g⟩ (.slice (if c = j then a else a.map (·.add j)) (n - j) (c - j)) :=
  yi_of_OpK rfl fun w _ => OpK.sliceFrom ht hs hx hj hn hc ⟨rfl, rfl⟩
theorem run_eqIn_boolK {P : Program} {t : TypeId} (w : World) (d : Nat) (ht : P.underlying t = some .bool) (a b : Bool) : (Op.equalIn (d + 1) t (.bool a) (.bool b)).run P w = .ok (a == b) w := by
  simp [Op.equalIn, run_underlying ht]
theorem OpK.neBo {x y : Operand} {t u : TypeId} {a b : Bool} (ht : P.underlying t = some .bool) (hx : ρ x = .bool a) (hy : ρ y = .bool b) (h : K (.bool (a != b)) w) : OpK P ρ ⟨d, .binOp .neq t x y u, ty, pos, af, g⟩ w K := by
  have hr : (Op.equal t (.bool a) (.bool b)).run P w = .ok (a == b) w := by
    exact run_eqIn_boolK w 9999 ht a b
  simp [OpK, execOp, hx, hy, eqGuard, binOp, hr, After]
  simpa [bne] using h
end
theorem HW.step {P : Program} {ops : Array Oper} {S : World → Prop} {i : Nat} {l : List (Nat × Bool)} {o : Oper} {σ : Fm} {w : World} {K : Fm → World → Prop} {v : Value} (hS : S w) (ho : ops[i]? = some o) (hw : wantedB o ops σ = true) (h : OpK P (ev σ) o w fun u w' => u = v ∧ w' = w) (hk : HW P ops S l (upd σ o.dst v) w K) : HW P ops S ((i, false) :: l) σ w K := by
  refine HW.next ho hw (After.mono h fun u w' ⟨e1, e2⟩ => ?_)
  subst e1 e2
  exact ⟨hS, hk⟩
/-- The first octets of a slice. -/
theorem Own.take {e : TypeId} {w : World} {a : Option Addr} {n c j : Nat} {bs : List UInt8} (h : Own e w (.slice a n c) bs) (hj : j ≤ bs.length) : Own e w (.slice a j c) (bs.take j) := by
  obtain ⟨h1, h2⟩ := h
  refine ⟨by simp, ?_⟩
  rcases h2 with ⟨h2, h3⟩ | ⟨g, cap, cur, h2, hb, hg, hnc, hm, hs, ht⟩
  · cases h2
    have : j = 0 := by omega
    subst this
    exact .inl ⟨rfl, by simp⟩
  · cases h2
    have hl : (bs.take j).length = j := by rw [List.length_take]; omega
    refine .inr ⟨g, _, cur, by rw [hl], hb, hg, by rw [hl]; omega, hm, hs, ?_⟩
    rw [hl, List.map_take, ← ht, List.take_take, Nat.mul_one, Nat.mul_one, Nat.min_eq_left hj]
theorem KW.cut {e eK : TypeId} {w : World} {te : Value} {keys : List Nat} {wl : World} {a : Option Addr} {n c j : Nat} {bs : List UInt8} (h : KW e eK w te keys wl (.slice a n c) bs) (hj : j ≤ bs.length) : KW e eK w te keys wl (.slice a j c) (bs.take j) := by
  have hb : (Value.slice a j c).ownBlock = (Value.slice a n c).ownBlock := by cases a <;> rfl
  exact ⟨⟨h.grew.own.take hj, h.grew.ch, fun k hk => h.grew.blk k (hb ▸ hk)⟩, h.keys, fun k hk => by rw [hb]; exact h.apart k hk⟩

/-- A list behind its load. -/
def arrTail (P : Program) (tab : List (Nat × Ap)) (x : Sl) (nul : Bool) (e : Ty) (L : List Nat) (v : Nat) (rec : Ty → Nat → List Nat → List Code → Option (List Code)) (cs : List Code) : Option (List Code) :=
  match chkLen P tab x L v nul cs with
  | some r2 => match chkLoop P L x.dst v r2 with
    | some lp => match flat lp.inner with
      | c1 :: c2 :: body => match idxOf (x.dst :: lp.ix :: lp.ln :: v :: L) lp.ix c1 with
        | some i => match elemAddr P (x.dst :: lp.ix :: lp.ln :: v :: L) v i e.size c2 with
          | some u => match rec e u (u :: lp.ix :: lp.ln :: v :: L) body with
            | some [] => some lp.rest
            | _ => none
          | none => none
        | none => none
      | _ => none
    | none => none
  | none => none
section
variable {P : Program} {n : Nat} {e : TypeId} {w0 : World} {d0 : Value} {S : Nat → Prop} {full : Bool} {tab : List (Nat × Ap)} {x : Sl} {ver : Int} {fx : Bool}
theorem arrTail_step (hs : Sound P e full tab) (hS : Clear w0 S d0) (hfx : x.flx = none → fx = false) {p g o s : Nat} {t : Ty} {nul : Bool} {L : List Nat} {v : V} {cs1 : List Value} {cs rest : List Code} {rec : Ty → Nat → List Nat → List Code → Option (List Code)} {f : V → List UInt8} {nt : V → Prop}
    (hr0 : Rep w0 S (.arr t) v cs1) (hV : x.ver ∈ L) (hF : ∀ t, x.flx = some t → t ∈ L) (hpL : p ∈ L) (hnt : ∀ (i : Nat) (u : V), v.elems[i]? = some u → nt u) (h : arrTail P tab x nul t L s rec cs = some rest)
    (hrec : ∀ {t : Ty} {p' g' o' : Nat} {L' : List Nat} {cs' rest' : List Code} {u : V}, rec t p' L' cs' = some rest' → p' ∈ L' → x.ver ∈ L' → (∀ t, x.flx = some t → t ∈ L') → Is w0 S g' o' t u → S g' → nt u →
      Step P n e w0 d0 x.dst L' (Pr x ver fx p' g' o') cs' rest' (f u)) :
    Step P n e w0 d0 x.dst L (fun σ => Pr x ver fx p g o σ ∧ σ s = ldv (.arr t) cs1) cs rest (encLen fx nul v ++ v.elems.flatMap f) := by
  intro σ1 w1 bs Q ⟨hp1, hv1⟩ hgr hl hk
  unfold arrTail at h
  split at h
  · rename_i r2 hlen
    split at h
    · rename_i lp hlp
      split at h
      · rename_i c1 c2 body hin
        split at h
        · rename_i i hix
          split at h
          · rename_i u hel
            split at h
            · rename_i hout
              simp only [Option.some.injEq] at h
              subst h
              obtain ⟨a, cc, hval, hnil, hmax, helm⟩ := rep_arr hr0
              rw [List.length_append] at hl
              refine chkLen_step (t := t) (v := v) (S := S) hs hfx hlen σ1 w1 bs Q ⟨hp1.flx, cs1, hr0, hv1⟩ hgr (by omega) fun σ2 w2 hg2 he2 => ?_
              have hstep := chkLoop_step (P := P) (n := n) (e := e) (w0 := w0) (d0 := d0) (Pre := fun σ => Pr x ver fx p g o σ ∧ σ s = .slice a v.elems.length cc) hlp v.elems hmax f
                (fun σ σ' hpp he => ⟨hpp.1.keep (L := s :: L) (List.mem_cons_of_mem _ hV) (fun t ht => List.mem_cons_of_mem _ (hF t ht)) (List.mem_cons_of_mem _ hpL) he, (he _ (by simp)).trans hpp.2⟩)
                (fun σ hpp => ⟨a, cc, hpp.2⟩)
                (fun j uu hu => by
                  obtain ⟨g', ha, hg', hiu⟩ := helm j uu hu
                  subst ha
                  have hj := (List.getElem?_eq_some_iff.1 hu).1
                  rw [hin]
                  intro σ w1 bs Q ⟨⟨hp, hsl⟩, hixv⟩ hgr hl hk
                  refine idxOf_sound hix fun σ1 he1 hi1 => ?_
                  have hS' := he1 s (by simp)
                  refine elemAddr_sound hel (g := g') (N := v.elems.length) (cc := cc) (j := j) (hS'.trans hsl) (hi1.trans hixv) hj fun σ2 he2 hu2 => ?_
                  have hk2 : ∀ t ∈ x.dst :: lp.ix :: lp.ln :: s :: L, σ2 t = σ t := fun t ht => (he2 t ht).trans (he1 t ht)
                  have hVL : x.ver ∈ x.dst :: lp.ix :: lp.ln :: s :: L := by simp [hV]
                  refine hrec hout (by simp) (by simp [hV]) (fun t ht => by simp [hF t ht]) hiu hg' (hnt j uu hu) σ2 w1 bs Q
                    ⟨(hk2 _ hVL).trans hp.ver, fun t ht => (hk2 t (by simp [hF t ht])).trans (hp.flx t ht), hu2⟩ (by rw [hk2 _ (by simp)]; exact hgr) hl fun σ3 w3 hg3 he3 => ?_
                  exact hk σ3 w3 hg3 fun t ht => (he3 t (List.mem_cons_of_mem _ ht)).trans (hk2 t (List.mem_cons_of_mem _ ht)))
              refine hstep σ2 w2 _ Q ⟨hp1.keep (L := s :: L) (List.mem_cons_of_mem _ hV) (fun t ht => List.mem_cons_of_mem _ (hF t ht)) (List.mem_cons_of_mem _ hpL) he2, ?_⟩ hg2 (by rw [List.length_append]; omega) fun σ3 w3 hg3 he3 => ?_
              · rw [he2 _ (by simp), hv1, hval]
              · exact hk σ3 w3 (by rw [← List.append_assoc]; exact hg3) fun t ht => (he3 t ht).trans (he2 t (List.mem_cons_of_mem _ ht))
            · cases h
          · cases h
        · cases h
      · cases h
    · cases h
  · cases h
/-- The same, with what is left of the code by its place. -/
theorem arrTail_use (m : Nat) (hs : Sound P e full tab) (hS : Clear w0 S d0) (hfx : x.flx = none → fx = false) {p g o s : Nat} {t : Ty} {L : List Nat} {v : V} {cs1 : List Value} {cs : List Code} {f : Sch} (hr0 : Rep w0 S (.arr t) v cs1) (hV : x.ver ∈ L) (hF : ∀ t, x.flx = some t → t ∈ L) (hpL : p ∈ L) (hfull : full = true)
    (h : arrTail P tab x false t L s (fun T' p' L' cs' => appS P tab e x f T' p' L' cs') cs = some (cs.drop m)) {σ : Fm} {w1 : World} {bs : List UInt8} {Q : Exit → Fm → World → Prop} (hp : Pr x ver fx p g o σ) (hv1 : σ s = ldv (.arr t) cs1) (hgr : Grew e w0 d0 w1 (σ x.dst) bs)
    (hl : bs.length + (encLen fx false v ++ v.elems.flatMap (enc ver fx f)).length ≤ Lim)
    (hk : ∀ σ' w', Grew e w0 d0 w' (σ' x.dst) (bs ++ (encLen fx false v ++ v.elems.flatMap (enc ver fx f))) → (∀ t ∈ L, σ' t = σ t) → CWL P n (cs.drop m) σ' w' Q) : CWL P n cs σ w1 Q :=
  arrTail_step (nt := fun _ => True) hs hS hfx hr0 hV hF hpL (fun _ _ _ => trivial) h (fun h1 h2 h3 h4 h5 h6 _ => appS_step hs hS hfx f h1 h2 h3 h4 h5 h6 (.inl hfull)) σ w1 bs Q ⟨hp, hv1⟩ hgr hl hk
end
end Go.Kx
