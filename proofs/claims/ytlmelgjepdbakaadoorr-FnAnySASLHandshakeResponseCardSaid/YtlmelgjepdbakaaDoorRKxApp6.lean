/- A whole function that writes a message. -/
import Derived.Test.YtlmelgjepdbakaaDoorRKxApp5
namespace Go.Kx
open Go.RowKit
set_option linter.unusedSimpArgs false
set_option linter.unusedVariables false

def endOf (r dst : Nat) (cs : List Code) : Bool :=
  match cs with
  | [c, .ret] => match canR c with
    | some ⟨[], (r', s) :: _⟩ => r' == r && s == 2 * dst
    | _ => false
  | _ => false

def flexOf (L : List Nat) (ver : Nat) (m : Int) (c : Code) : Option Nat :=
  match canR c with
  | some ⟨[(.binOp .geq _ (.tmp v2) (.const (.int .i16 m')) _, _)], (fl, 1) :: b⟩ => if v2 == 2 * ver && m == m' && free L ((fl, 1) :: b) then some fl else none
  | _ => none

def resTmp (fn : Func) : Option Nat := match fn.results.toList with | [.tmp t] => some t | _ => none

/-- T: the struct; s: its fields; ff: from which version on the message is flexible. -/
def chkApp (P : Program) (tab : List (Nat × Ap)) (e : TypeId) (fn : Func) (T : Ty) (s : Sch) (ff : Option Int) : Bool :=
  match fn.body, resTmp fn with
  | some c, some r => fits fn.ntmps c && Nat.ble 2 fn.ntmps && match flat c with
    | c0 :: c1 :: c2 :: rest => isIdle [0, 1] c0 && match loadOf P [1, 0] 0 T 0 (.int .i16) c1 with
      | some ver => isIdle [0, 1, ver] c2 && match ff, rest with
        | none, _ => (match appS P tab e ⟨ver, none, 1⟩ s T 0 [0, ver] rest with
          | some l => endOf r 1 l
          | none => false)
        | some m, c3 :: c4 :: rest' => (match flexOf [0, 1, ver] ver m c3 with
          | some fl => isIdle [0, 1, ver, fl] c4 && (match appS P tab e ⟨ver, some fl, 1⟩ s T 0 [0, ver, fl] rest' with
            | some l => endOf r 1 l
            | none => false)
          | none => false)
        | _, _ => false
      | none => false
    | _ => false
  | _, _ => false

theorem endOf_sound {P : Program} {fn : Func} {n r dst : Nat} {cs : List Code} (h : endOf r dst cs = true) (hr : resTmp fn = some r) {σ : Fm} {w : World} {R : Value → World → Prop} (hR : R (σ dst) w) :
    CWL P n cs σ w (Ends fn R) := by
  unfold endOf at h
  split at h
  · rename_i c
    split at h
    · rename_i r' s b hc
      simp only [Bool.and_eq_true, beq_iff_eq] at h
      obtain ⟨rfl, rfl⟩ := h
      refine CWL.reg hc ?_
      simp only [RC]
      refine CWL.cons (CW.ret ?_)
      simp only [Then, Ends]
      unfold resTmp at hr
      split at hr
      · rename_i t ht
        simp only [Option.some.injEq] at hr
        subst hr
        refine ⟨_, by simp only [resOf, ht]; rfl, ?_⟩
        rw [outF_head, enF_two]
        exact hR
      · cases hr
    · cases h
  · cases h

theorem flexOf_sound {P : Program} {n : Nat} {L : List Nat} {ver fl : Nat} {m : Int} {c : Code} (h : flexOf L ver m c = some fl) {rest : List Code} {σ : Fm} {w : World} {Q : Exit → Fm → World → Prop} {v : Int}
    (hv : σ ver = .int .i16 v) (hk : ∀ σ', (∀ t ∈ L, σ' t = σ t) → σ' fl = .bool (decide (v ≥ m)) → CWL P n rest σ' w Q) : CWL P n (c :: rest) σ w Q := by
  unfold flexOf at h
  split at h
  · rename_i t1 v2 m' t2 ty fl' b hc
    split at h
    · rename_i hh
      simp only [Option.some.injEq] at h
      subst h
      simp only [Bool.and_eq_true, beq_iff_eq] at hh
      obtain ⟨⟨rfl, rfl⟩, hfree⟩ := hh
      refine CWL.reg hc (OpK.cmp (op := .geq) (k := .i16) (a := v) (b := m) rfl (by simp only [ev_tmp, enF_two]; exact hv) rfl ?_)
      simp only [RC]
      refine hk _ (fun t ht => ?_) (by rw [outF_head]; simp [upd])
      rw [outF_free hfree ht, upd_odd _ _ _ _ (by omega), enF_two]
    · cases h
  · cases h

/-- Is a message flexible at a version? -/
def flexAt (ff : Option Int) (ver : Int) : Bool := match ff with | some m => decide (ver ≥ m) | none => false

/-- What passes the check writes what 'enc' says. -/
theorem chkApp_calls {P : Program} {full : Bool} {tab : List (Nat × Ap)} {e : TypeId} {f : FuncId} {fn : Func} {T : Ty} {s : Sch} {ff : Option Int} (hs : Sound P e full tab) (hf : P.funcs[f]? = some fn) (h : chkApp P tab e fn T s ff = true)
    {w : World} {S : Nat → Prop} {g o : Nat} {v : V} {ver : Int} {d : Value} {bs : List UInt8} (hft : full = true ∨ noTags s v) (hi : Is w S g o T v) (hg : S g) (hver : v.fld 0 = .i ver) (hd : Own e w d bs) (hS : Clear w S d)
    (hl : bs.length + (enc ver (flexAt ff ver) s v).length ≤ Lim) :
    Calls P f #[.pointer (some ⟨g, o, none⟩), d] w fun en w' => ∃ d', en = .returned d' ∧ Grew e w d w' d' (bs ++ enc ver (flexAt ff ver) s v) := by
  unfold chkApp at h
  split at h
  · rename_i c r hb hr
    simp only [Bool.and_eq_true] at h
    obtain ⟨⟨hfit, hn⟩, h⟩ := h
    refine Calls.of_CW hf hb hfit (by simpa using hn) (CW.of_flat ?_)
    split at h
    · rename_i c0 c1 c2 rest hflat
      rw [hflat]
      simp only [Bool.and_eq_true] at h
      obtain ⟨h0, h⟩ := h
      refine CWL.idle h0 fun σ0 he0 => ?_
      have hp0 : σ0 0 = .pointer (some ⟨g, o, none⟩) := (he0 0 (by simp)).trans rfl
      have hd0 : σ0 1 = d := (he0 1 (by simp)).trans rfl
      split at h
      · rename_i ver' hl1
        simp only [Bool.and_eq_true] at h
        obtain ⟨h2, h⟩ := h
        refine loadOf_sound hl1 hp0 hi fun σ1 he1 ⟨cs1, hr1, hv1⟩ => ?_
        rw [hver] at hr1
        obtain ⟨rfl, _⟩ : cs1 = [.int .i16 ver] ∧ _ := hr1
        have hv1' : σ1 ver' = .int .i16 ver := hv1
        refine CWL.idle h2 fun σ2 he2 => ?_
        have hp2 : σ2 0 = .pointer (some ⟨g, o, none⟩) := (he2 0 (by simp)).trans ((he1 0 (by simp)).trans hp0)
        have hd2 : σ2 1 = d := (he2 1 (by simp)).trans ((he1 1 (by simp)).trans hd0)
        have hv2 : σ2 ver' = .int .i16 ver := (he2 ver' (by simp)).trans hv1'
        split at h
        · split at h
          · rename_i l hap
            have hst := appS_step (n := fn.ntmps) (ver := ver) (fx := false) hs hS (fun _ => rfl) s hap (by simp) (by simp) (fun t ht => by cases ht) hi hg hft
            refine hst σ2 w bs _ ⟨hv2, (fun t ht => by cases ht), hp2⟩ (by rw [hd2]; exact Grew.refl hd) hl fun σ3 w3 hg3 he3 => ?_
            exact endOf_sound h hr hg3
          · cases h
        · rename_i m c3 c4 rest'
          split at h
          · rename_i fl hfl
            simp only [Bool.and_eq_true] at h
            obtain ⟨h4, h⟩ := h
            refine flexOf_sound hfl hv2 fun σ3 he3 hfl3 => ?_
            refine CWL.idle h4 fun σ4 he4 => ?_
            have hp4 : σ4 0 = .pointer (some ⟨g, o, none⟩) := (he4 0 (by simp)).trans ((he3 0 (by simp)).trans hp2)
            have hd4 : σ4 1 = d := (he4 1 (by simp)).trans ((he3 1 (by simp)).trans hd2)
            have hv4 : σ4 ver' = .int .i16 ver := (he4 ver' (by simp)).trans ((he3 ver' (by simp)).trans hv2)
            have hf4 : σ4 fl = .bool (decide (ver ≥ m)) := (he4 fl (by simp)).trans hfl3
            split at h
            · rename_i l hap
              have hst := appS_step (n := fn.ntmps) (ver := ver) (fx := decide (ver ≥ m)) hs hS (fun hx => by cases hx) s hap (by simp) (by simp) (fun t ht => by cases ht; simp) hi hg hft
              refine hst σ4 w bs _ ⟨hv4, (fun t ht => by cases ht; exact hf4), hp4⟩ (by rw [hd4]; exact Grew.refl hd) hl fun σ5 w5 hg5 he5 => ?_
              exact endOf_sound h hr hg5
            · cases h
          · cases h
        · cases h
      · cases h
    · cases h
  · cases h

end Go.Kx
