/- Two rows of octets are held against each other. -/
import Derived.Test.YtolbjfphpmojcaaDoorKxKt
import Derived.ChangeKeysEq
namespace Go.Kx
open Go.RowKit
set_option linter.unusedSimpArgs false
set_option linter.unusedVariables false

theorem run_eqItems_oct {P : Program} {e : TypeId} (he : P.underlying e = some (.int .u8)) (h1 : oneB P e = true) (a b : List UInt8) (d : Nat) : ∀ (is : List Nat) (w : World), (∀ i ∈ is, i < a.length ∧ i < b.length) →
    (Op.eqItems (d + 1) e 1 (a.map bv).toArray (b.map bv).toArray is).run P w = .ok (is.all fun i => a[i]? == b[i]?) w
  | [], w, _ => by simp [Op.eqItems]
  | i :: is, w, h => by
    obtain ⟨hi, hj⟩ := h i (by simp)
    have ih := run_eqItems_oct he h1 a b d is w fun j hj => h j (List.mem_cons_of_mem _ hj)
    have ha : a[i]? = some a[i] := List.getElem?_eq_getElem hi
    have hb : b[i]? = some b[i] := List.getElem?_eq_getElem hj
    have pa : (part e (a.map bv).toArray (i * 1)).run P w = .ok (bv a[i]) w := by
      simp [part, run_isAgg_one h1, ha]
    have pb : (part e (b.map bv).toArray (i * 1)).run P w = .ok (bv b[i]) w := by
      simp [part, run_isAgg_one h1, hb]
    have hq : (Op.equalIn (d + 1) e (bv a[i]) (bv b[i])).run P w = .ok (a[i] == b[i]) w := by
      have hq0 : (((a[i].toNat : Nat) : Int) == ((b[i].toNat : Nat) : Int)) = (a[i] == b[i]) := by
        rw [Bool.eq_iff_iff, beq_iff_eq, beq_iff_eq]
        exact ⟨fun e => UInt8.toNat_inj.1 (by omega), fun e => by rw [e]⟩
      simp [Op.equalIn, run_underlying he, bv]
      exact hq0
    simp only [Op.eqItems, Sem.run_bind, pa, pb, hq, Result.andThen_ok]
    rw [List.all_cons, ha, hb]
    cases hab : (a[i] == b[i]) with
    | true => simp [hab, ih]
    | false => simp [hab]
end Go.Kx
namespace Go.Kx
open Go.RowKit
set_option linter.unusedSimpArgs false
set_option linter.unusedVariables false
theorem all_range {a b : List UInt8} {n : Nat} (ha : a.length = n) (hb : b.length = n) : ((List.range n).all fun i => a[i]? == b[i]?) = (a == b) := by
  rw [Bool.eq_iff_iff, List.all_eq_true]
  simp only [List.mem_range, beq_iff_eq]
  constructor
  · intro h
    apply List.ext_getElem?
    intro i
    by_cases hi : i < n
    · exact h i hi
    · rw [List.getElem?_eq_none (by omega), List.getElem?_eq_none (by omega)]
  · intro h i _
    rw [h]
theorem OpK.cmpOct {P : Program} {ρ : Operand → Value} {w : World} {K : Value → World → Prop} {d : Option Tmp} {ty : TypeId} {pos : String} {af : Array Edge} {g : Option (Nat × Bool)} {x y : Operand} {t u e : TypeId} {i : TypeInfo} {n : Nat} {a b : List UInt8}
    (ht : P.underlying t = some (.array n e)) (hi : P.info? e = some i) (hc : P.cellsOf e = 1) (he : P.underlying e = some (.int .u8)) (h1 : oneB P e = true) (hg : P.eqGuardType P.depth t = false) (hx : ρ x = .agg (a.map bv).toArray) (hy : ρ y = .agg (b.map bv).toArray) (ha : a.length = n) (hb : b.length = n)
    (h : K (.bool (!(a == b))) w) : OpK P ρ ⟨d, .binOp .neq t x y u, ty, pos, af, g⟩ w K := by
  have hr : (Op.equal t (.agg (a.map bv).toArray) (.agg (b.map bv).toArray)).run P w = .ok (a == b) w := by
    have e1 := run_equalIn_array (P := P) (w := w) 9999 (a.map bv).toArray (b.map bv).toArray ht hi
    rw [hc, run_eqItems_oct he h1 a b 9998 (List.range n) w (fun i hi => by rw [List.mem_range] at hi; omega), all_range ha hb] at e1
    exact e1
  simp [OpK, execOp, hx, hy, eqGuard, binOp, hr, After, hg]
  simpa using h

/-! ### The beginning of the writing -/
def preAP (P : Program) (tab : List (Nat × Ap)) (e : TypeId) (fn : Func) (T : Ty) (s : Sch) (m : Int) : Option ((Nat × Nat) × List Code) :=
  match fn.body with
  | some c => if fits fn.ntmps c && Nat.ble 2 fn.ntmps then match flat c with
    | c0 :: c1 :: c2 :: c3 :: c4 :: rest' => if isIdle [0, 1] c0 then match loadOf P [1, 0] 0 T 0 (.int .i16) c1 with
      | some ver => if isIdle [0, 1, ver] c2 then match flexOf [0, 1, ver] ver m c3 with
        | some fl => if isIdle [0, 1, ver, fl] c4 then match appS P tab e ⟨ver, some fl, 1⟩ s T 0 [0, ver, fl] rest' with
          | some l => some ((ver, fl), l)
          | none => none
          else none
        | none => none
        else none
      | none => none
      else none
    | _ => none
    else none
  | none => none
theorem preAP_use {P : Program} {full : Bool} {tab : List (Nat × Ap)} {e : TypeId} {f : FuncId} {fn : Func} {T : Ty} {s : Sch} {m : Int} {c : Code} {vr fl : Nat} (hbody : fn.body = some c) (n : Nat) (hs : Sound P e full tab) (hf : P.funcs[f]? = some fn) (h : preAP P tab e fn T s m = some ((vr, fl), (flat c).drop n))
    {w : World} {S : Nat → Prop} {g o : Nat} {v : V} {ver : Int} {d : Value} {bs : List UInt8} {R : Value → World → Prop} (hft : full = true ∨ noTags s v) (hi : Is w S g o T v) (hg : S g) (hver : v.fld 0 = .i ver) (hd : Own e w d bs) (hS : Clear w S d)
    (hl : bs.length + (enc ver (decide (ver ≥ m)) s v).length ≤ Lim)
    (hcont : ∀ σ' w', Grew e w d w' (σ' 1) (bs ++ enc ver (decide (ver ≥ m)) s v) → σ' 0 = .pointer (some ⟨g, o, none⟩) → σ' vr = .int .i16 ver → σ' fl = .bool (decide (ver ≥ m)) → CWL P fn.ntmps ((flat c).drop n) σ' w' (Ends fn R)) :
    Calls P f #[.pointer (some ⟨g, o, none⟩), d] w fun en w' => ∃ x, en = .returned x ∧ R x w' := by
  unfold preAP at h
  rw [hbody] at h
  simp only at h
  split at h
  · rename_i hfit
    simp only [Bool.and_eq_true] at hfit
    refine Calls.of_CW hf hbody hfit.1 (by simpa using hfit.2) (CW.of_flat ?_)
    split at h
    · rename_i c0 c1 c2 c3 c4 rest hflat
      split at h
      · rename_i h0
        split at h
        · rename_i ver' hl1
          split at h
          · rename_i h2
            split at h
            · rename_i fl' hfl
              split at h
              · rename_i h4
                split at h
                · rename_i l hap
                  simp only [Option.some.injEq, Prod.mk.injEq] at h
                  obtain ⟨⟨rfl, rfl⟩, hrest⟩ := h
                  rw [hflat]
                  refine CWL.idle h0 fun σ0 he0 => ?_
                  have hp0 : σ0 0 = .pointer (some ⟨g, o, none⟩) := (he0 0 (by simp)).trans rfl
                  have hd0 : σ0 1 = d := (he0 1 (by simp)).trans rfl
                  refine loadOf_sound hl1 hp0 hi fun σ1 he1 ⟨cs1, hr1, hv1⟩ => ?_
                  rw [hver] at hr1
                  obtain ⟨rfl, _⟩ : cs1 = [.int .i16 ver] ∧ _ := hr1
                  have hv1' : σ1 ver' = .int .i16 ver := hv1
                  refine CWL.idle h2 fun σ2 he2 => ?_
                  have hp2 : σ2 0 = .pointer (some ⟨g, o, none⟩) := (he2 0 (by simp)).trans ((he1 0 (by simp)).trans hp0)
                  have hd2 : σ2 1 = d := (he2 1 (by simp)).trans ((he1 1 (by simp)).trans hd0)
                  have hv2 : σ2 ver' = .int .i16 ver := (he2 ver' (by simp)).trans hv1'
                  refine flexOf_sound hfl hv2 fun σ3 he3 hfl3 => ?_
                  refine CWL.idle h4 fun σ4 he4 => ?_
                  have hp4 : σ4 0 = .pointer (some ⟨g, o, none⟩) := (he4 0 (by simp)).trans ((he3 0 (by simp)).trans hp2)
                  have hd4 : σ4 1 = d := (he4 1 (by simp)).trans ((he3 1 (by simp)).trans hd2)
                  have hv4 : σ4 ver' = .int .i16 ver := (he4 ver' (by simp)).trans ((he3 ver' (by simp)).trans hv2)
                  have hf4 : σ4 fl' = .bool (decide (ver ≥ m)) := (he4 fl' (by simp)).trans hfl3
                  have hst := appS_step (n := fn.ntmps) (ver := ver) (fx := decide (ver ≥ m)) hs hS (fun hx => by cases hx) s hap (by simp) (by simp) (fun t ht => by cases ht; simp) hi hg hft
                  refine hst σ4 w bs _ ⟨hv4, (fun t ht => by cases ht; exact hf4), hp4⟩ (by rw [hd4]; exact Grew.refl hd) hl fun σ5 w5 hg5 he5 => ?_
                  rw [hrest]
                  exact hcont σ5 w5 hg5 ((he5 0 (by simp)).trans hp4) ((he5 ver' (by simp)).trans hv4) ((he5 fl' (by simp)).trans hf4)
                · cases h
              · cases h
            · cases h
          · cases h
        · cases h
      · cases h
    · cases h
  · cases h
theorem mid_at {w : World} {g n : Nat} {t : TypeId} {a b d : List Value} (hb : Blk w g t (a ++ (b ++ d))) (hn : a.length = n) : AtA w ((⟨g, 0, none⟩ : Addr).add n) b := fun j v hj => by
  have hjl := (List.getElem?_eq_some_iff.1 hj).1
  rw [Addr.add_add, Addr.add_mid, Nat.zero_add, hb.cell, List.getElem?_append_right (by omega), hn, Nat.add_sub_cancel_left, List.getElem?_append_left hjl, hj]
end Go.Kx
