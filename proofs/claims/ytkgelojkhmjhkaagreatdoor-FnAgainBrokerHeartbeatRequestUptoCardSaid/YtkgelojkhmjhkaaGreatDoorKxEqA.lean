/- Library texts Kept Kt EqA, joined. -/
import Derived.Test.YtkgelojkhmjhkaaGreatDoorKxAgn
import Derived.ChangeKeysEq
/- Things that are kept within: their version stands ahead of all, in two octets. -/
namespace Go.Kx
open Go.RowKit
set_option linter.unusedSimpArgs false
set_option linter.unusedVariables false

/-! ### The plain law -/
section
variable {P : Program} {ρ : Operand → Value} {w : World} {K : Value → World → Prop} {d : Option Tmp} {ty : TypeId} {pos : String} {af : Array Edge} {g : Option (Nat × Bool)}
theorem OpK.cmpNil {x : Operand} {t u : TypeId} {v : Value} {b : Bool} {ms : Array (String × TypeId)} (ht : P.underlying t = some (.interface ms)) (hx : ρ x = v) (hn : ρ (.const .nilIface) = .nilIface) (hv : (v = .nilIface ∧ b = false) ∨ (∃ t y, v = .iface t y) ∧ b = true) (h : K (.bool b) w) :
    OpK P ρ ⟨d, .binOp .neq t x (.const .nilIface) u, ty, pos, af, g⟩ w K := OpK.neqNilIface ht hx hn hv h
theorem Yi.rem {S : World → Prop} {x y : Operand} {t u : TypeId} {k : IntKind} {a b : Int} (ha : 0 ≤ a) (hb : 0 < b) (hx : ρ x = .int k a) (hy : ρ y = .int k b) : Yi P S ρ ⟨d, .binOp .rem t x y u, ty, pos, af, g⟩ (.int k (a % b)) := yi_of_OpK rfl fun w _ => OpK.rem ha hb hx hy ⟨rfl, rfl⟩
end
end Go.Kx

/- Tags of which one is known: a uuid under the number 0. -/
namespace Go.Kx
open Go.RowKit
set_option linter.unusedSimpArgs false
set_option linter.unusedVariables false

/-! ### The plain law of such a thing -/
/-! ### The beginning of its reading -/
/-! ### One round of reading tags -/
theorem CWL.pin {P : Program} {n : Nat} {cs : List Code} {σ : Fm} {w : World} {Q : Exit → Fm → World → Prop} (l : List (Nat × Value)) (h : ∀ x ∈ l, σ x.1 = x.2) (hc : ∀ σ', CWL P n cs (Go.Kx.pin l σ') w Q) : CWL P n cs σ w Q := by
  rw [pin_eq h]
  exact hc σ
/-! ### Cells of such a thing -/
theorem from_outside {cells cells' a z : List Value} {n : Nat} (h : Outside cells cells' 0 n) (hc : cells = a ++ z) (ha : a.length = n) : ∃ a', cells' = a' ++ z ∧ a'.length = n ∧ a' = (cells'.drop 0).take n := by
  obtain ⟨h1, h2⟩ := h
  subst hc
  rw [List.length_append] at h1
  refine ⟨(cells'.drop 0).take n, ?_, by rw [List.drop_zero, List.length_take]; omega, rfl⟩
  rw [List.drop_zero]
  apply List.ext_getElem?
  intro i
  by_cases hi : i < n
  · rw [List.getElem?_append_left (by rw [List.length_take]; omega), List.getElem?_take, if_pos hi]
  · rw [h2 i (by omega), List.getElem?_append_right (by omega), List.getElem?_append_right (by rw [List.length_take]; omega), List.length_take, ha]
    congr 1
    omega
end Go.Kx

/- Two rows of octets are held against each other. -/
namespace Go.Kx
open Go.RowKit
set_option linter.unusedSimpArgs false
set_option linter.unusedVariables false

end Go.Kx
namespace Go.Kx
open Go.RowKit
set_option linter.unusedSimpArgs false
set_option linter.unusedVariables false
/-! ### The beginning of the writing -/
def preAP (P : Program) (tab : List (Nat × Ap)) (e : TypeId) (fn : Func) (T : Ty) (s : Sch) (m : Int) : Option ((Nat × Nat) × List Code) :=
  match fn.body with
  | some c => if fits fn.ntmps c && Nat.ble 2 fn.ntmps then match flat c with
    | c0 :: c1 :: c2 :: c3 :: c4 :: rest' => if isIdle [0, 1] c0 then match loadOf P [1, 0] 0 T 0 (.int .i16) c1 with
      | some ver => if isIdle [0, 1, ver] c2 then match flexOf [0, 1, ver] ver m c3 with
        | some fl => if isIdle [0, 1, ver, fl] c4 then match appS P tab e ⟨ver, some fl, 1⟩ s T 0 [0, ver, fl] rest' with
          | some l => some ((ver, fl), l)
          | none => none
          else none
        | none => none
        else none
      | none => none
      else none
    | _ => none
    else none
  | none => none
theorem preAP_use {P : Program} {full : Bool} {tab : List (Nat × Ap)} {e : TypeId} {f : FuncId} {fn : Func} {T : Ty} {s : Sch} {m : Int} {c : Code} {vr fl : Nat} (hbody : fn.body = some c) (n : Nat) (hs : Sound P e full tab) (hf : P.funcs[f]? = some fn) (h : preAP P tab e fn T s m = some ((vr, fl), (flat c).drop n))
    {w : World} {S : Nat → Prop} {g o : Nat} {v : V} {ver : Int} {d : Value} {bs : List UInt8} {R : Value → World → Prop} (hft : full = true ∨ noTags s v) (hi : Is w S g o T v) (hg : S g) (hver : v.fld 0 = .i ver) (hd : Own e w d bs) (hS : Clear w S d)
    (hl : bs.length + (enc ver (decide (ver ≥ m)) s v).length ≤ Lim)
    (hcont : ∀ σ' w', Grew e w d w' (σ' 1) (bs ++ enc ver (decide (ver ≥ m)) s v) → σ' 0 = .pointer (some ⟨g, o, none⟩) → σ' vr = .int .i16 ver → σ' fl = .bool (decide (ver ≥ m)) → CWL P fn.ntmps ((flat c).drop n) σ' w' (Ends fn R)) :
    Calls P f #[.pointer (some ⟨g, o, none⟩), d] w fun en w' => ∃ x, en = .returned x ∧ R x w' := by
  unfold preAP at h
  rw [hbody] at h
  simp only at h
  split at h
  · rename_i hfit
    simp only [Bool.and_eq_true] at hfit
    refine Calls.of_CW hf hbody hfit.1 (by simpa using hfit.2) (CW.of_flat ?_)
    split at h
    · rename_i c0 c1 c2 c3 c4 rest hflat
      split at h
      · rename_i h0
        split at h
        · rename_i ver' hl1
          split at h
          · rename_i h2
            split at h
            · rename_i fl' hfl
              split at h
              · rename_i h4
                split at h
                · rename_i l hap
                  simp only [Option.some.injEq, Prod.mk.injEq] at h
                  obtain ⟨⟨rfl, rfl⟩, hrest⟩ := h
                  rw [hflat]
                  refine CWL.idle h0 fun σ0 he0 => ?_
                  have hp0 : σ0 0 = .pointer (some ⟨g, o, none⟩) := (he0 0 (by simp)).trans rfl
                  have hd0 : σ0 1 = d := (he0 1 (by simp)).trans rfl
                  refine loadOf_sound hl1 hp0 hi fun σ1 he1 ⟨cs1, hr1, hv1⟩ => ?_
                  rw [hver] at hr1
                  obtain ⟨rfl, _⟩ : cs1 = [.int .i16 ver] ∧ _ := hr1
                  have hv1' : σ1 ver' = .int .i16 ver := hv1
                  refine CWL.idle h2 fun σ2 he2 => ?_
                  have hp2 : σ2 0 = .pointer (some ⟨g, o, none⟩) := (he2 0 (by simp)).trans ((he1 0 (by simp)).trans hp0)
                  have hd2 : σ2 1 = d := (he2 1 (by simp)).trans ((he1 1 (by simp)).trans hd0)
                  have hv2 : σ2 ver' = .int .i16 ver := (he2 ver' (by simp)).trans hv1'
                  refine flexOf_sound hfl hv2 fun σ3 he3 hfl3 => ?_
                  refine CWL.idle h4 fun σ4 he4 => ?_
                  have hp4 : σ4 0 = .pointer (some ⟨g, o, none⟩) := (he4 0 (by simp)).trans ((he3 0 (by simp)).trans hp2)
                  have hd4 : σ4 1 = d := (he4 1 (by simp)).trans ((he3 1 (by simp)).trans hd2)
                  have hv4 : σ4 ver' = .int .i16 ver := (he4 ver' (by simp)).trans ((he3 ver' (by simp)).trans hv2)
                  have hf4 : σ4 fl' = .bool (decide (ver ≥ m)) := (he4 fl' (by simp)).trans hfl3
                  have hst := appS_step (n := fn.ntmps) (ver := ver) (fx := decide (ver ≥ m)) hs hS (fun hx => by cases hx) s hap (by simp) (by simp) (fun t ht => by cases ht; simp) hi hg hft
                  refine hst σ4 w bs _ ⟨hv4, (fun t ht => by cases ht; exact hf4), hp4⟩ (by rw [hd4]; exact Grew.refl hd) hl fun σ5 w5 hg5 he5 => ?_
                  rw [hrest]
                  exact hcont σ5 w5 hg5 ((he5 0 (by simp)).trans hp4) ((he5 ver' (by simp)).trans hv4) ((he5 fl' (by simp)).trans hf4)
                · cases h
              · cases h
            · cases h
          · cases h
        · cases h
      · cases h
    · cases h
  · cases h
end Go.Kx
