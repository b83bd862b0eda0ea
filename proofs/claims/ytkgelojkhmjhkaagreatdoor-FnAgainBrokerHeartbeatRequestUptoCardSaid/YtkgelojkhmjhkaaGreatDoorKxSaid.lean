/- Library texts Any Any2 Said, joined. -/
import Derived.Test.YtkgelojkhmjhkaaGreatDoorKxAgain2
import Derived.ProofKit
import Derived.OpenShut
import Derived.WalkKit
import Derived.LaidLaws
/- The law: what is read of any octets is written as octets that are read again, and written as the same. -/
namespace Go.Kx
open Go.RowKit
set_option linter.unusedSimpArgs false
set_option linter.unusedVariables false

def VerIs (P : Program) (ver : FuncId) : Prop := Callable P ver ∧ ∀ (w : World) (n k : Nat), n < 256 → k < 1000 → Calls P ver #[.int .u8 (n : Int), .int .i64 (k : Int)] w fun e w' => ∃ v, e = .returned v ∧ v = .int .i64 ((n % (k + 1) : Nat) : Int) ∧ w' = w
def MaxIs (P : Program) (mx : FuncId) (most : Nat) : Prop := Callable P mx ∧ ∀ (w : World), Calls P mx #[] w fun en w' => en = .returned (.int .i64 (most : Int)) ∧ Ch (fun _ => False) w w'
def SameIs (P : Program) (same : FuncId) : Prop := Callable P same ∧ ∀ (w : World) (S : Nat → Prop) (l1 l2 : List UInt8) (v1 v2 : Value), OctIs w S l1 v1 → OctIs w S l2 v2 → (∀ k, S k → k < w.heap.size) → l1.length ≤ 4611686018427387904 → l2.length ≤ 4611686018427387904 → Calls P same #[v1, v2] w fun en w' => en = .returned (.bool (l1 == l2)) ∧ Ch (fun _ => False) w w'

/-! ### The highest version -/
def chkMax (P : Program) (fn : Func) (np mv : FuncId) : Bool :=
  match fn.body, resTmp fn with
  | some c, some res => fits fn.ntmps c && match flat c with
    | [c0, c1, .ret] => isIdle [] c0 && match canR c1 with
      | some ⟨[(o1, _), (o2, _), (.convert s t (.tmp 3), _)], (r', 5) :: _⟩ => match asCall o1, asCall o2 with
        | some (f1, []), some (f2, [.tmp 1]) => f1 == np && f2 == mv && (P.underlying s).isSome && (match P.underlying t with | some (.int .i64) => true | _ => false) && r' == res
        | _, _ => false
      | _ => false
    | _ => false
  | _, _ => false
def chkMv (fn : Func) (most : Nat) : Bool :=
  match fn.body, resTmp fn with
  | some c, some res => fits fn.ntmps c && Nat.ble 1 fn.ntmps && match flat c with
    | [c0, c1, .ret] => isIdle [] c0 && match canR c1 with
      | some ⟨[(.assign (.const (.int .i16 m)), _)], (r', 1) :: _⟩ => m == (most : Int) && r' == res
      | _ => false
    | _ => false
  | _, _ => false
theorem chkMv_calls {P : Program} {f : FuncId} {fn : Func} {most : Nat} (hf : P.funcs[f]? = some fn) (h : chkMv fn most = true) (w : World) (p : Value) : Calls P f #[p] w fun en w' => en = .returned (.int .i16 (most : Int)) ∧ w' = w := by
  unfold chkMv at h
  split at h
  · rename_i c res hbody hres
    simp only [Bool.and_eq_true] at h
    obtain ⟨⟨hfit, hn⟩, h⟩ := h
    split at h
    · rename_i c0 c1 hflat
      simp only [Bool.and_eq_true] at h
      obtain ⟨h0, h⟩ := h
      split at h
      · rename_i m ty r' b hc
        simp only [Bool.and_eq_true, beq_iff_eq] at h
        obtain ⟨rfl, rfl⟩ := h
        refine (Calls.of_CW hf hbody hfit (by simpa using hn) (CW.of_flat ?_) (R := fun x w' => x = .int .i16 (most : Int) ∧ w' = w)).mono fun en w' ⟨x, he, hx, hw⟩ => ⟨by rw [he, hx], hw⟩
        rw [hflat]
        refine CWL.idle h0 fun σ0 he0 => ?_
        refine CWL.reg hc (OpK.assign ?_)
        simp only [RC, ev_const]
        refine CWL.ret ?_
        simp only [Ends]
        unfold resTmp at hres
        split at hres
        · rename_i t ht
          simp only [Option.some.injEq] at hres
          subst hres
          refine ⟨_, by simp only [resOf, ht]; rfl, ?_, by trivial⟩
          rw [outF_head]
          simp [upd]
        · cases hres
      · cases h
    · cases h
  · cases h
theorem chkMax_is {P : Program} {tab : List (Nat × Rf)} {gE : Nat} {eV : Value} (hX : ∀ f a, rfAt tab f = some a → Callable P f ∧ RfOk P gE eV f a) {f np mv : FuncId} {fn fnp fmv : Func} {T : Ty} {t : TypeId} {ps : List (Nat × V)} {most : Nat} (hf : P.funcs[f]? = some fn) (h : chkMax P fn np mv = true) (hc : Callable P f)
    (hnp : P.funcs[np]? = some fnp) (hnp2 : chkNp P tab fnp T = some (t, ps)) (hnp3 : Callable P np) (hmv : P.funcs[mv]? = some fmv) (hmv2 : chkMv fmv most = true) (hmv3 : Callable P mv) (hm : most < 1000) : MaxIs P f most := by
  refine ⟨hc, fun w => ?_⟩
  unfold chkMax at h
  split at h
  · rename_i c res hbody hres
    simp only [Bool.and_eq_true] at h
    obtain ⟨hfit, h⟩ := h
    split at h
    · rename_i c0 c1 hflat
      simp only [Bool.and_eq_true] at h
      obtain ⟨h0, h⟩ := h
      split at h
      · rename_i o1 ty1 o2 ty2 s' t' ty3 r' b hcan
        split at h
        · rename_i f1 f2 ho1 ho2
          simp only [Bool.and_eq_true, beq_iff_eq] at h
          obtain ⟨⟨⟨⟨rfl, rfl⟩, hs⟩, ht⟩, rfl⟩ := h
          have ht' : P.underlying t' = some (.int .i64) := by
            split at ht
            · assumption
            · cases ht
          refine (Calls.of_CW hf hbody hfit (by simp) (CW.of_flat ?_) (R := fun x w' => x = .int .i64 (most : Int) ∧ Ch (fun _ => False) w w')).mono fun en w' ⟨x, he, hx, hw⟩ => ⟨by rw [he, hx], hw⟩
          rw [hflat]
          refine CWL.idle h0 fun σ0 he0 => ?_
          refine CWL.reg hcan (OpK.asCall ho1 hnp3 rfl ?_)
          simp only [List.map_nil]
          refine (chkNp_calls hX hnp hnp2 w).mono fun en w1 ⟨cells, he, _, _, _, hch⟩ => ⟨_, he, ?_⟩
          refine OpK.asCall ho2 hmv3 rfl ?_
          simp only [List.map_cons, List.map_nil]
          refine (chkMv_calls hmv hmv2 w1 _).mono fun en w2 ⟨he, hw⟩ => ⟨_, he, ?_⟩
          subst hw
          refine OpK.convInt (k := .i16) (k' := .i64) (n := (most : Int)) hs ht' (by simp [upd]) ?_
          simp only [RC]
          refine CWL.ret ?_
          simp only [Ends]
          unfold resTmp at hres
          split at hres
          · rename_i t ht
            simp only [Option.some.injEq] at hres
            subst hres
            refine ⟨_, by simp only [resOf, ht]; rfl, ?_, hch⟩
            rw [outF_head]
            simp only [upd_same]
            rw [i64_nat most (by omega)]
          · cases hres
        · cases h
      · cases h
    · cases h
  · cases h

/-! ### The law -/
end Go.Kx

/- The law 'Any' as a whole. -/
namespace Go.Kx
open Go.RowKit
set_option linter.unusedSimpArgs false
set_option linter.unusedVariables false

end Go.Kx
namespace Go.Kx
theorem CWL.gen {P : Program} {n : Nat} {cs : List Code} {σ : Fm} {w : World} {Q : Exit → Fm → World → Prop} (h : ∀ σ', σ' = σ → CWL P n cs σ' w Q) : CWL P n cs σ w Q := h σ rfl
end Go.Kx

/- From a walk to a statement: laws over an octet and a list of octets. -/
namespace Go.Kx
open Go.ChangeShapes Go.WideShapes Go.ChangeAt Go.RowKit
set_option linter.unusedSimpArgs false
set_option linter.unusedVariables false

theorem rfAt_all {tab : List (Nat × Rf)} {p : Nat → Rf → Prop} (h : ∀ x ∈ tab, p x.1 x.2) : ∀ f a, rfAt tab f = some a → p f a := by
  intro f a hf
  unfold rfAt at hf
  simp only [Option.map_eq_some_iff] at hf
  obtain ⟨x, hx, rfl⟩ := hf
  have h1 := List.find?_some hx
  simp only [beq_iff_eq] at h1
  rw [← h1]
  exact h x (List.mem_of_find?_eq_some hx)
/-- The error that the row lists: what the walk reads of it. -/
theorem errAt {P : Program} {W : World} {name nm : String} {d : DataW Unit} {rest : List (String × DataW Unit)} {g : Nat} {t : TypeId} {ms : Array (String × TypeId)} (hg : P.globalNamed name = some g) (hty : (P.globals[g]?).map (·.type) = some t) (ht : P.underlying t = some (.interface ms))
    (h : laidMet P ((name, .iface nm d) :: rest) W) : ∃ tE vE, W.cell? ⟨g, 0, none⟩ = some (.iface tE vE) ∧ g < W.heap.size := by
  obtain ⟨ps, ⟨g', t', cs, fuel, p, q, hg', ht', hvar, hd, _, _⟩, _⟩ := h
  obtain rfl := Option.some.inj (hg.symm.trans hg')
  obtain rfl := Option.some.inj (hty.symm.trans ht')
  obtain ⟨fuel', u, v, hcs, _, _⟩ := iface_of_trod ht hd
  have hc := World.var?_cell hg hvar 0
  have e0 : cs[0]? = some (.iface u v) := by
    rw [← Array.getElem?_toList, hcs]; rfl
  rw [e0] at hc
  refine ⟨u, v, hc, ?_⟩
  exact Nat.lt_of_not_le fun hn => by
    rw [World.cell?, Array.getElem?_eq_none hn] at hc
    cases hc

end Go.Kx
