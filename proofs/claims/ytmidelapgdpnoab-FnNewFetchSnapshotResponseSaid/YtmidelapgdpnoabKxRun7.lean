/- That the machine does what the running over plain data says. -/
import Derived.Test.YtmidelapgdpnoabKxRun6
namespace Go.Kx
open Go.RowKit
set_option linter.unusedSimpArgs false
set_option linter.unusedVariables false

/-- What is asked of the calls. -/
def CallOk (P : Program) (call : Call') : Prop := ∀ (f : FuncId) (args : List AV) (h h' : AH) (r : AV), call f args h = some (r, h') →
  Callable P f ∧ ∀ (w0 w : World) (E : En) (vs : List Value), Hp w0 E h w → All2 (AV.is E) args vs → Calls P f vs.toArray w fun e w' => ∃ v, e = .returned v ∧ Out w0 E h' r v w'

theorem asFun_eq {op : Op} {f : FuncId} {args : List Operand} (h : astep.asFun op = some (f, args)) : ∃ cargs ats, op = .call ⟨.value (.func f), cargs, ats⟩ ∧ args = cargs.toList := by
  cases op with
  | call c =>
    obtain ⟨callee, cargs, ats⟩ := c
    cases callee with
    | value q =>
      cases q with
      | func g => simp only [astep.asFun, Option.some.injEq, Prod.mk.injEq] at h; obtain ⟨rfl, rfl⟩ := h; exact ⟨cargs, ats, rfl, rfl⟩
      | _ => simp [astep.asFun] at h
    | _ => simp [astep.asFun] at h
  | _ => simp [astep.asFun] at h

theorem astep_sound {P : Program} {call : Call'} (hcall : CallOk P call) {E : En} {h h' : AH} {w0 w : World} {σ : AF} {τ : Fm} (hf : FrIs E σ τ) (k : Hp w0 E h w) {o : Oper} {r : AV} (ha : astep P call h σ o.op = some (r, h')) :
    OpK P (ev τ) o w fun u w' => Out w0 E h' r u w' := by
  obtain ⟨d, op, ty, pos, af, g⟩ := o
  unfold astep at ha
  split at ha
  · rename_i f args hfn
    obtain ⟨hcl, hk⟩ := hcall f _ h h' r ha
    obtain ⟨cargs, ats, rfl, rfl⟩ := asFun_eq hfn
    refine OpK.call hcl ?_ rfl
    have := hk w0 w E (cargs.toList.map (ev τ)) k (map_is (fun x => aev_is hf x) _)
    have he : cargs.map (ev τ) = (cargs.toList.map (ev τ)).toArray := by apply Array.ext'; simp
    rw [he]
    exact this
  · exact aop_sound (fun x => aev_is hf x) (fun _ => rfl) k ha

theorem awanted_sound {E : En} {σ : AF} {τ : Fm} (hf : FrIs E σ τ) {ops : Array Oper} {o : Oper} {b : Bool} (h : awanted ops σ o = some b) : wantedB o ops τ = b := by
  unfold awanted at h
  unfold wantedB
  split at h
  · rename_i hg; rw [hg]; cases h; rfl
  · rename_i j c hg
    rw [hg]
    simp only
    split at h
    · rename_i d hd
      split at h
      · rename_i v hv
        cases h
        have := is_lit (hv ▸ hf d)
        unfold yv
        rw [hd]
        simp only [this]
        unfold isB
        cases v <;> simp
      · cases h
    · rename_i hd
      cases h
      unfold yv
      rw [hd]
      simp

theorem upd_is {E : En} {σ : AF} {τ : Fm} (k : FrIs E σ τ) {v : AV} {u : Value} (hv : v.is E u) (d : Option Nat) : FrIs E (σ.upd d v) (upd τ d u) := k.upd hv d

theorem aregion_sound {P : Program} {call : Call'} (hcall : CallOk P call) {ops : Array Oper} : ∀ (l : List Oper) {E : En} {h h' : AH} {w0 w : World} {σ σ' : AF} {τ : Fm}, FrIs E σ τ → Hp w0 E h w → aregion P call ops l σ h = some (σ', h') →
    RW P ops l τ w fun τ' w' => ∃ E', Le E E' ∧ FrIs E' σ' τ' ∧ Hp w0 E' h' w' := by
  intro l
  induction l with
  | nil => intro E h h' w0 w σ σ' τ hf k ha; cases ha; exact ⟨E, Le.refl E, hf, k⟩
  | cons o l ih =>
    intro E h h' w0 w σ σ' τ hf k ha
    unfold aregion at ha
    unfold RW
    split at ha
    · rename_i hw
      rw [awanted_sound hf hw, if_pos rfl]
      split at ha
      · rename_i v h1 hs
        refine After.mono (astep_sound hcall hf k hs) fun u w' ⟨E', hE, hv, k'⟩ => ?_
        refine (ih (upd_is (hf.le hE) hv o.dst) k' ha).mono l fun τ' w'' ⟨E'', hE', hf', k''⟩ => ⟨E'', hE.trans hE', hf', k''⟩
      · cases ha
    · rename_i hw
      rw [awanted_sound hf hw, if_neg (by simp)]
      exact ih (upd_is hf (AV.un_is E) o.dst) k ha
    · cases ha

theorem early_sound {P : Program} {look : Nat → Option AB} {ops : Array Oper} {listed : Array Bool} {σ : AF} : ∀ {rs : List Nat} {i : Nat} {o : Oper} {v : AV}, early P look ops listed σ rs = some (i, o, v) →
    ops[i]? = some o ∧ ((awanted ops σ o = some true ∧ apure P look (aev σ) o.op = some v) ∨ (awanted ops σ o = some false ∧ v = AV.un)) := by
  intro rs
  induction rs with
  | nil => intro i o v h; cases h
  | cons j rs ih =>
    intro i o v h
    unfold early at h
    split at h
    · rename_i o' ho
      split at h
      · split at h
        · rename_i hw
          split at h
          · rename_i v' hv
            cases h
            exact ⟨ho, .inl ⟨hw, hv⟩⟩
          · exact ih h
        · rename_i hw
          cases h
          exact ⟨ho, .inr ⟨hw, rfl⟩⟩
        · exact ih h
      · exact ih h
    · cases h

theorem rd_kept {w0 : World} {E E' : En} {h0 h : AH} {w1 w : World} {R : List (Nat × AB)} (k0 : Rd E (kept R) w1) (hE : Le E E') (k : Hp w0 E' h w) (hs : stillB R h = true) : Rd E (kept R) w := by
  intro i b hb
  obtain ⟨p, hp, vs0, tl0, h1, _, _⟩ := k0 i b hb
  unfold kept at hb
  obtain ⟨x, hx, rfl⟩ := Option.map_eq_some_iff.1 hb
  have hm := List.mem_of_find?_eq_some hx
  have hxi : x.1 = i := Nat.eq_of_beq_eq_true (by have := List.find?_some hx; simpa using this)
  have := List.all_eq_true.1 hs x hm
  split at this
  · rename_i b' hb'
    have := abEq_eq this
    subst this
    rw [hxi] at hb'
    obtain ⟨q, hq, vs, tl, k1, k2, k3⟩ := k.rd i _ hb'
    rw [hE i p hp] at hq
    cases hq
    have hv : vs = vs0 := all2_fun (R := AC.is E') (fun _ _ _ h k => AC.is_fun h k) k1 (h1.imp fun _ _ h => AC.is.le hE h)
    subst hv
    exact ⟨p, hp, vs, tl, h1, k2, k3⟩
  · cases this

theorem rd_le {E E' : En} {look : Nat → Option AB} {w : World} (k : Rd E look w) (hE : Le E E') : Rd E' look w := by
  intro i b hb
  obtain ⟨p, hp, hB⟩ := k i b hb
  exact ⟨p, hE _ _ hp, hB.keep hE rfl⟩

theorem adraw_sound {P : Program} {call : Call'} (hcall : CallOk P call) {R : List (Nat × AB)} {ops : Array Oper} {E0 : En} : ∀ (n : Nat) {listed : Array Bool} {E : En} {h h' : AH} {w0 w : World} {σ σ' : AF} {τ : Fm} {l : List (Nat × Bool)}, Le E0 E → Rd E0 (kept R) w →
    FrIs E σ τ → Hp w0 E h w → adraw P call R ops n listed σ h = some (l, σ', h') → HW P ops (Rd E0 (kept R)) l τ w fun τ' w' => ∃ E', Le E E' ∧ FrIs E' σ' τ' ∧ Hp w0 E' h' w' := by
  intro n
  induction n with
  | zero => intro listed E h h' w0 w σ σ' τ l hE hR hf k ha; cases ha; exact ⟨E, Le.refl E, hf, k⟩
  | succ n ih =>
    intro listed E h h' w0 w σ σ' τ l hE hR hf k ha
    unfold adraw at ha
    split at ha
    · cases ha; exact ⟨E, Le.refl E, hf, k⟩
    · rename_i rs _
      split at ha
      · rename_i i o v he
        obtain ⟨ho, hwp⟩ := early_sound he
        obtain ⟨x, hx, hxe⟩ := Option.map_eq_some_iff.1 ha
        obtain ⟨l', σ1, h1⟩ := x
        simp only [Prod.mk.injEq] at hxe
        obtain ⟨rfl, rfl, rfl⟩ := hxe
        rcases hwp with ⟨hw, hp⟩ | ⟨hw, rfl⟩
        · obtain ⟨u, hu, hy⟩ := apure_yi (fun x => aev_is hf x) (fun _ => rfl) (rd_le hR hE) hp
          refine HW.early ho (awanted_sound hf hw) (v := u) (fun w' hw' => hy w' (rd_le hw' hE)) ?_
          exact ih hE hR (upd_is hf hu o.dst) k hx
        · refine HW.none_ ho (awanted_sound hf hw) ?_
          exact ih hE hR (upd_is hf (AV.un_is E) o.dst) k hx
      · split at ha
        · rename_i i
          split at ha
          · rename_i o ho
            split at ha
            · rename_i hw
              split at ha
              · rename_i v h1 hs
                split at ha
                · rename_i hst
                  obtain ⟨x, hx, hxe⟩ := Option.map_eq_some_iff.1 ha
                  obtain ⟨l', σ1, h2⟩ := x
                  simp only [Prod.mk.injEq] at hxe
                  obtain ⟨rfl, rfl, rfl⟩ := hxe
                  refine HW.next ho (awanted_sound hf hw) (After.mono (astep_sound hcall hf k hs) fun u w' ⟨E', hE', hv, k'⟩ => ?_)
                  have hR' := rd_kept (h0 := h) hR (hE.trans hE') k' hst
                  refine ⟨hR', ?_⟩
                  have := ih (hE.trans hE') hR' (upd_is (hf.le hE') hv o.dst) k' hx
                  exact HW.mono this fun τ' w'' ⟨E'', hE'', hf', k''⟩ => ⟨E'', hE'.trans hE'', hf', k''⟩
                · cases ha
              · cases ha
            · cases ha
          · cases ha
        · cases ha

theorem rd_first {E : En} {h : AH} {w0 w : World} {R : List (Nat × AB)} (k : Hp w0 E h w) (hs : stillB R h = true) : Rd E (kept R) w := by
  intro i b hb
  unfold kept at hb
  obtain ⟨x, hx, rfl⟩ := Option.map_eq_some_iff.1 hb
  have hm := List.mem_of_find?_eq_some hx
  have hxi : x.1 = i := Nat.eq_of_beq_eq_true (by have := List.find?_some hx; simpa using this)
  have := List.all_eq_true.1 hs x hm
  split at this
  · rename_i b' hb'
    have := abEq_eq this
    subst this
    rw [hxi] at hb'
    exact k.rd i _ hb'
  · cases this

theorem aiter_sound {P : Program} {n : Nat} {c : Code} {step : AF → AH → Option (Exit × AF × AH)} {w0 : World} (hstep : ∀ {E : En} {h h' : AH} {w : World} {σ σ' : AF} {τ : Fm} {e : Exit}, FrIs E σ τ → Hp w0 E h w → step σ h = some (e, σ', h') →
      CW P n c τ w fun e' τ' w' => e' = e ∧ ∃ E', Le E E' ∧ FrIs E' σ' τ' ∧ Hp w0 E' h' w') {E0 : En} {fuel : Nat} {h h' : AH} {w : World} {σ σ' : AF} {τ : Fm} {e : Exit} (hf : FrIs E0 σ τ) (k : Hp w0 E0 h w) (ha : aiter step fuel σ h = some (e, σ', h')) :
    CW P n (.loop c) τ w fun e' τ' w' => e' = e ∧ ∃ E', Le E0 E' ∧ FrIs E' σ' τ' ∧ Hp w0 E' h' w' := by
  refine CW.loop (fun m τ w => ∃ E σ h, Le E0 E ∧ FrIs E σ τ ∧ Hp w0 E h w ∧ aiter step m σ h = some (e, σ', h')) fuel ⟨E0, σ, h, Le.refl E0, hf, k, ha⟩ fun m τ w ⟨E, σ, h, hE, hf, k, ha⟩ => ?_
  cases m with
  | zero => cases ha
  | succ m =>
    unfold aiter at ha
    split at ha
    · rename_i σ1 h1 hs
      refine CW.mono (hstep hf k hs) fun e' τ' w' ⟨he, E', hE', hf', k'⟩ => ?_
      subst he
      exact ⟨m, Nat.lt_succ_self m, E', σ1, h1, hE.trans hE', hf', k', ha⟩
    · rename_i r hr
      refine CW.mono (hstep hf k ha) fun e' τ' w' ⟨he, E', hE', hf', k'⟩ => ?_
      subst he
      cases e' with
      | normal => exact absurd ha (hr _ _)
      | _ => exact ⟨rfl, E', hE.trans hE', hf', k'⟩

theorem acode_sound {P : Program} {call : Call'} (hm : P.follows .mixedOrders = true) (hcall : CallOk P call) {fuel n : Nat} {w0 : World} : ∀ (c : Code) {E : En} {h h' : AH} {w : World} {σ σ' : AF} {τ : Fm} {e : Exit}, FrIs E σ τ → Hp w0 E h w →
    acode P call fuel c σ h = some (e, σ', h') → CW P n c τ w fun e' τ' w' => e' = e ∧ ∃ E', Le E E' ∧ FrIs E' σ' τ' ∧ Hp w0 E' h' w' := by
  intro c
  induction c with
  | skip => intro E h h' w σ σ' τ e hf k ha; simp only [acode] at ha; cases ha; exact CW.skip ⟨rfl, E, Le.refl E, hf, k⟩
  | ret => intro E h h' w σ σ' τ e hf k ha; simp only [acode] at ha; cases ha; exact CW.ret ⟨rfl, E, Le.refl E, hf, k⟩
  | exit id => intro E h h' w σ σ' τ e hf k ha; simp only [acode] at ha; cases ha; exact CW.exit ⟨rfl, E, Le.refl E, hf, k⟩
  | seq a b iha ihb =>
    intro E h h' w σ σ' τ e hf k ha
    simp only [acode] at ha
    split at ha
    · rename_i σ1 h1 hs
      refine CW.seq (CW.mono (iha hf k hs) fun e' τ' w' ⟨he, E', hE', hf', k'⟩ => ?_)
      subst he
      exact CW.mono (ihb hf' k' ha) fun e'' τ'' w'' ⟨he, E'', hE'', hf'', k''⟩ => ⟨he, E'', hE'.trans hE'', hf'', k''⟩
    · rename_i r hr
      refine CW.seq (CW.mono (iha hf k ha) fun e' τ' w' ⟨he, hrest⟩ => ?_)
      subst he
      cases e' with
      | normal => exact absurd ha (hr _ _)
      | _ => exact ⟨rfl, hrest⟩
  | cond x a b iha ihb =>
    intro E h h' w σ σ' τ e hf k ha
    simp only [acode] at ha
    split at ha
    · rename_i hx
      exact CW.cond (t := true) (is_lit (hx ▸ aev_is hf x)) (iha hf k ha)
    · rename_i hx
      exact CW.cond (t := false) (is_lit (hx ▸ aev_is hf x)) (ihb hf k ha)
    · cases ha
  | block id a iha =>
    intro E h h' w σ σ' τ e hf k ha
    simp only [acode] at ha
    split at ha
    · rename_i i σ1 h1 hs
      refine CW.block (CW.mono (iha hf k hs) fun e' τ' w' ⟨he, hrest⟩ => ?_)
      subst he
      simp only [InBlock]
      split at ha
      · rename_i hi
        cases ha
        rw [if_pos (Nat.eq_of_beq_eq_true hi)]
        exact ⟨rfl, hrest⟩
      · rename_i hi
        cases ha
        rw [if_neg (fun h => hi (by rw [h]; simp))]
        exact ⟨rfl, hrest⟩
    · rename_i r hr
      refine CW.block (CW.mono (iha hf k ha) fun e' τ' w' ⟨he, hrest⟩ => ?_)
      subst he
      cases e' with
      | exit i => exact absurd ha (hr _ _ _)
      | _ => exact ⟨rfl, hrest⟩
  | loop a iha =>
    intro E h h' w σ σ' τ e hf k ha
    simp only [acode] at ha
    exact aiter_sound (fun hf k hs => iha hf k hs) hf k ha
  | region id ops b =>
    intro E h h' w σ σ' τ e hf k ha
    cases b with
    | false =>
      simp only [acode] at ha
      obtain ⟨x, hx, he⟩ := Option.map_eq_some_iff.1 ha
      obtain ⟨σ1, h1⟩ := x
      simp only [Prod.mk.injEq] at he
      obtain ⟨rfl, rfl, rfl⟩ := he
      exact CW.region (RW.mono _ (aregion_sound hcall ops.toList hf k hx) fun τ' w' h => ⟨rfl, h⟩)
    | true =>
      simp only [acode] at ha
      obtain ⟨x, hx, he⟩ := Option.map_eq_some_iff.1 ha
      obtain ⟨σ1, h1⟩ := x
      simp only [Prod.mk.injEq] at he
      obtain ⟨rfl, rfl, rfl⟩ := he
      unfold adrawn at hx
      simp only at hx
      split at hx
      · rename_i l σ2 h2 hd
        split at hx
        · rename_i hc
          cases hx
          simp only [Bool.and_eq_true] at hc
          have hR := rd_first k hc.2
          refine CW.regionD hm (Rd E (kept (areads P h ops ops.size (Array.replicate ops.size false) σ))) l (by simp only [Bool.and_eq_true]; exact ⟨⟨hc.1.1.1, hc.1.1.2⟩, hc.1.2⟩) (rd_first k.drew hc.2) ?_
          exact HW.mono (adraw_sound hcall ops.size (Le.refl E) (rd_first k.drew hc.2) hf k.drew hd) fun τ' w' h => ⟨rfl, h⟩
        · cases hx
      · cases hx
  | _ => intro E h h' w σ σ' τ e hf k ha; simp only [acode] at ha; cases ha


theorem Calls.of_CW2 {P : Program} {f : FuncId} {fn : Func} {c : Code} {args : Array Value} {w : World} {R : Value → World → Prop}
    (hf : P.funcs[f]? = some fn) (hb : fn.body = some c) (hs : fits fn.ntmps c = true) (hn : args.size ≤ fn.ntmps)
    (h : CW P fn.ntmps c (frame0 args) w fun e σ w' => (e = .normal ∨ e = .ret) ∧ ∃ v, (∀ a, Fr fn.ntmps a σ → (results fn a.tmps).run P w' = .ok v w') ∧ R v w') : Calls P f args w fun e w' => ∃ v, e = .returned v ∧ R v w' := by
  refine calls_of_wp hf hb (wp_mono (h hs _ ⟨by simp; omega, rfl, fun t => ?_⟩) fun e a w' ⟨σ', hfr, hQ⟩ => ?_)
  · simp only [frame0, Array.getD_eq_getD_getElem?]
    by_cases ht : t < args.size
    · rw [Array.getElem?_append_left ht]
    · rw [Array.getElem?_append_right (by omega), Array.getElem?_eq_none (xs := args) (by omega)]
      by_cases hr : t - args.size < fn.ntmps - args.size
      · rw [Array.getElem?_replicate, if_pos hr]; rfl
      · rw [Array.getElem?_replicate, if_neg hr]
  · obtain ⟨he, v, hv, hR⟩ := hQ
    rcases he with rfl | rfl
    · exact ⟨hfr.defers, v, hv a hfr, v, rfl, hR⟩
    · exact ⟨hfr.defers, v, hv a hfr, v, rfl, hR⟩

theorem ares_sound {P : Program} {E : En} {h : AH} {w0 w : World} {fn : Func} {σ : AF} {τ : Fm} {r : AV} (hf : FrIs E σ τ) (k : Hp w0 E h w) (hr : ares P h fn σ = some r) :
    ∃ v, (∀ n a, Fr n a τ → (results fn a.tmps).run P w = .ok v w) ∧ r.is E v := by
  obtain ⟨rs, hrs⟩ : ∃ l : List ResultVar, fn.results = l.toArray := ⟨fn.results.toList, by simp⟩
  unfold ares at hr
  rw [hrs] at hr
  simp only at hr
  split at hr
  · cases hr
    exact ⟨_, fun n a ha => by simp [results, hrs], rfl⟩
  · cases hr
    rename_i t
    exact ⟨τ t, fun n a ha => by simp [results, hrs, ← ha.at_], hf t⟩
  · rename_i t ty
    obtain ⟨u, hu, hrun⟩ := apure_run (o := ⟨none, .load ty (.tmp t), 0, "", #[], none⟩) (fun x => aev_is hf x) (fun _ => rfl) k.rd hr
    refine ⟨u, fun n a ha => ?_, hu⟩
    have hx : ∃ b o, σ.get t = .c (.ptr b o) := by
      simp only [apure, aev] at hr
      split at hr
      · rename_i b o hx; exact ⟨b, o, hx⟩
      · cases hr
    obtain ⟨b, o, hx⟩ := hx
    obtain ⟨p, hp, hv⟩ := is_ptr (hx ▸ hf t)
    have hat := ha.at_ t
    simp only [execOp, ev_tmp, hv, Instr.loadAt, Instr.sureAddr, Sem.run_bind, Sem.run_pure, Result.andThen_ok] at hrun
    have hl : (loadVar ty ⟨p.1, o, none⟩).run P w = .ok u w := by
      generalize (loadVar ty ⟨p.1, o, none⟩).run P w = q at hrun
      cases q with
      | ok z w' => simp only [Result.andThen_ok] at hrun; cases hrun; rfl
      | halt z w' => cases hrun
    rw [Array.getD_eq_getD_getElem?] at hat
    simp [results, hrs, hat, hv, asAddr, hl]
  · cases hr

theorem acall_sound {P : Program} (hm : P.follows .mixedOrders = true) : ∀ n, CallOk P (acall P n)
  | 0 => fun f args h h' r ha => by cases ha
  | n + 1 => by
    have ih := acall_sound hm n
    intro f args h h' r ha
    simp only [acall] at ha
    split at ha
    · rename_i fn hfn
      split at ha
      · rename_i c hc
        split at ha
        · rename_i hcond
          simp only [Bool.and_eq_true, Bool.not_eq_true'] at hcond
          obtain ⟨⟨hfit, hlen⟩, hname⟩ := hcond
          have hlen := Nat.le_of_ble_eq_true hlen
          refine ⟨⟨fn, hfn, hname, by rw [hc]; rfl⟩, fun w0 w E vs k hvs => ?_⟩
          have hf : FrIs E args (frame0 vs.toArray) := by
            intro t
            unfold AF.get frame0
            by_cases ht : t < args.length
            · obtain ⟨x, hx⟩ : ∃ x, args[t]? = some x := ⟨args[t], List.getElem?_eq_getElem ht⟩
              obtain ⟨v, hv, hr⟩ := hvs.get hx
              simp [List.getD_eq_getElem?_getD, hx, Array.getD_eq_getD_getElem?, hv]
              exact hr
            · have hl := hvs.len
              simp [List.getD_eq_getElem?_getD, List.getElem?_eq_none (Nat.le_of_not_lt ht), Array.getD_eq_getD_getElem?, List.getElem?_eq_none (show vs.length ≤ t by omega)]
              exact AV.un_is E
          have hsz : vs.toArray.size ≤ fn.ntmps := by have := hvs.len; simp; omega
          have fin : ∀ {e : Exit} {σ : AF} {h1 : AH}, acode P (acall P n) 300 c args h = some (e, σ, h1) → (e = .normal ∨ e = .ret) → (ares P h1 fn σ).map (fun v => (v, h1)) = some (r, h') →
              Calls P f vs.toArray w fun e w' => ∃ v, e = .returned v ∧ Out w0 E h' r v w' := by
            intro e σ h1 hcode he hres
            obtain ⟨x, hx, hxe⟩ := Option.map_eq_some_iff.1 hres
            cases hxe
            refine Calls.of_CW2 hfn hc hfit hsz (CW.mono (acode_sound hm ih c hf k hcode) fun e' τ' w' ⟨he', E', hE', hf', k'⟩ => ⟨he' ▸ he, ?_⟩)
            obtain ⟨v, hv, hr⟩ := ares_sound hf' k' hx
            exact ⟨v, hv fn.ntmps, E', hE', hr, k'⟩
          split at ha
          · rename_i σ h1 hcode; exact fin hcode (.inl rfl) ha
          · rename_i σ h1 hcode; exact fin hcode (.inr rfl) ha
          · cases ha
        · cases ha
      · cases ha
    · cases ha

/-- What is run over plain data, with no block at the start, is what the machine does from whatever world. -/
theorem runs {P : Program} (hm : P.follows .mixedOrders = true) {n : Nat} {f : FuncId} {args : List Value} {v : Value} {m : Nat} {l : List (Option AB)} (ha : acall P n f (args.map fun x => .c (.lit x)) ⟨0, []⟩ = some (.c (.lit v), ⟨m, l⟩)) (w : World) :
    Calls P f args.toArray w fun e w' => ∃ r, e = .returned r ∧ r = v ∧ Below w.heap.size w w' := by
  obtain ⟨_, hk⟩ := acall_sound hm n f _ _ _ _ ha
  refine (hk w w [] args (Hp.start w) ?_).mono fun e w' ⟨r, he, E', hE', hr, k'⟩ => ⟨r, he, hr, ⟨k'.os, k'.tape, k'.output, k'.size, k'.old⟩⟩
  clear ha hk
  induction args with
  | nil => exact .nil
  | cons x l ih => exact .cons rfl ih


/-- 'version(n, most)' taken from a table of its own: of an input that leaves r, r. -/
def vcall (P : Program) (ver : FuncId) (n : Nat) : Call' := fun f args h =>
  if Nat.beq f ver then
    match args with
    | [.c (.hole m r), .c (.lit (.int .i64 (.ofNat k)))] => if Nat.beq m (k + 1) && Nat.blt k 1000 then some (.c (.lit (.int .i64 (r : Int))), h) else none
    | _ => none
  else acall P n f args h

/-- What 'version' does. -/
def VerOk (P : Program) (ver : FuncId) : Prop := Callable P ver ∧ ∀ (w : World) (n k : Nat), n < 256 → k < 1000 → Calls P ver #[.int .u8 (n : Int), .int .i64 (k : Int)] w fun e w' => ∃ v, e = .returned v ∧ v = .int .i64 ((n % (k + 1) : Nat) : Int) ∧ w' = w

theorem vcall_ok {P : Program} (hm : P.follows .mixedOrders = true) {ver : FuncId} (hv : VerOk P ver) (n : Nat) : CallOk P (vcall P ver n) := by
  intro f args h h' r ha
  unfold vcall at ha
  split at ha
  · rename_i hf
    have hf := Nat.eq_of_beq_eq_true hf
    subst hf
    split at ha
    · rename_i m q k
      split at ha
      · rename_i hmk
        simp only [Bool.and_eq_true] at hmk
        have hk1 : k < 1000 := by simpa [Nat.blt_eq] using hmk.2
        have hmk := Nat.eq_of_beq_eq_true hmk.1
        cases ha
        refine ⟨hv.1, fun w0 w E vs kk hvs => ?_⟩
        cases hvs with | cons h1 hvs => cases hvs with | cons h2 hvs => cases hvs with | nil =>
        obtain ⟨p, hp, hlt, hr, rfl⟩ := h1
        obtain rfl := is_lit h2
        refine (hv.2 w p.1 k hlt hk1).mono fun e w' ⟨v, he, hvv, hw⟩ => ⟨v, he, ?_⟩
        subst hw
        refine Out.same kk ?_
        rw [hvv, ← hmk, hr]
        rfl
      · cases ha
    · cases ha
  · exact acall_sound hm n f args h h' r ha

def lawB (P : Program) (ver : FuncId) (c : Code) (fn : Func) (m r : Nat) : Bool :=
  match acode P (vcall P ver 60) 300 c [.c (.hole m r)] ⟨1, [none]⟩ with
  | some (.ret, σ, h) => match ares P h fn σ with
    | some (.c (.lit (.bool true))) => true
    | _ => false
  | _ => false

/-- A law of one number of eight bits that looks at it by 'version' alone: checked once for each rest. -/
theorem law_true {P : Program} (hm : P.follows .mixedOrders = true) {ver : FuncId} (hv : VerOk P ver) {f : FuncId} {fn : Func} {c : Code} (hf : P.funcs[f]? = some fn) (hc : fn.body = some c) (hfit : fits fn.ntmps c = true) (h1 : 1 ≤ fn.ntmps) {m : Nat} (hm0 : 0 < m)
    (h : ∀ r, r < m → lawB P ver c fn m r = true) (w : World) (n : Nat) (hn : n < 256) : Calls P f #[.int .u8 (n : Int)] w fun e w' => ∃ v, e = .returned v ∧ v = .bool true ∧ Below w.heap.size w w' := by
  have hb := h (n % m) (Nat.mod_lt _ hm0)
  unfold lawB at hb
  split at hb
  · rename_i σ h' hcode
    split at hb
    · rename_i hres
      have hfr : FrIs [(n, 0)] [.c (.hole m (n % m))] (frame0 #[.int .u8 (n : Int)]) := by
        intro t
        cases t with
        | zero => exact ⟨(n, 0), rfl, hn, rfl, rfl⟩
        | succ t => simp [AF.get, frame0]; exact AV.un_is _
      refine Calls.of_CW2 hf hc hfit (by simpa using h1) (CW.mono (acode_sound hm (vcall_ok hm hv 60) c hfr (Hp.start1 w n) hcode) fun e' τ' w' ⟨he', E', hE', hf', k'⟩ => ⟨.inr he', ?_⟩)
      obtain ⟨v, hv', hr⟩ := ares_sound hf' k' hres
      exact ⟨v, hv' fn.ntmps, is_lit hr, ⟨k'.os, k'.tape, k'.output, k'.size, k'.old⟩⟩
    · cases hb
  · cases hb

end Go.Kx
