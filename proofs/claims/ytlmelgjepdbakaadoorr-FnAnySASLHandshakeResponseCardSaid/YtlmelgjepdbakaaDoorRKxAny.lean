/- The law: what is read of any octets is written as octets that are read again, and written as the same. -/
import Derived.Test.YtlmelgjepdbakaaDoorRKxAgain2
namespace Go.Kx
open Go.RowKit
set_option linter.unusedSimpArgs false
set_option linter.unusedVariables false

def VerIs (P : Program) (ver : FuncId) : Prop := Callable P ver ∧ ∀ (w : World) (n k : Nat), n < 256 → k < 1000 → Calls P ver #[.int .u8 (n : Int), .int .i64 (k : Int)] w fun e w' => ∃ v, e = .returned v ∧ v = .int .i64 ((n % (k + 1) : Nat) : Int) ∧ w' = w
def MaxIs (P : Program) (mx : FuncId) (most : Nat) : Prop := Callable P mx ∧ ∀ (w : World), Calls P mx #[] w fun en w' => en = .returned (.int .i64 (most : Int)) ∧ Ch (fun _ => False) w w'
def SameIs (P : Program) (same : FuncId) : Prop := Callable P same ∧ ∀ (w : World) (S : Nat → Prop) (l1 l2 : List UInt8) (v1 v2 : Value), OctIs w S l1 v1 → OctIs w S l2 v2 → (∀ k, S k → k < w.heap.size) → l1.length ≤ 4611686018427387904 → l2.length ≤ 4611686018427387904 → Calls P same #[v1, v2] w fun en w' => en = .returned (.bool (l1 == l2)) ∧ Ch (fun _ => False) w w'

/-! ### The highest version -/
def chkMax (P : Program) (fn : Func) (np mv : FuncId) : Bool :=
  match fn.body, resTmp fn with
  | some c, some res => fits fn.ntmps c && match flat c with
    | [c0, c1, .ret] => isIdle [] c0 && match canR c1 with
      | some ⟨[(o1, _), (o2, _), (.convert s t (.tmp 3), _)], (r', 5) :: _⟩ => match asCall o1, asCall o2 with
        | some (f1, []), some (f2, [.tmp 1]) => f1 == np && f2 == mv && (P.underlying s).isSome && (match P.underlying t with | some (.int .i64) => true | _ => false) && r' == res
        | _, _ => false
      | _ => false
    | _ => false
  | _, _ => false
def chkMv (fn : Func) (most : Nat) : Bool :=
  match fn.body, resTmp fn with
  | some c, some res => fits fn.ntmps c && Nat.ble 1 fn.ntmps && match flat c with
    | [c0, c1, .ret] => isIdle [] c0 && match canR c1 with
      | some ⟨[(.assign (.const (.int .i16 m)), _)], (r', 1) :: _⟩ => m == (most : Int) && r' == res
      | _ => false
    | _ => false
  | _, _ => false
theorem chkMv_calls {P : Program} {f : FuncId} {fn : Func} {most : Nat} (hf : P.funcs[f]? = some fn) (h : chkMv fn most = true) (w : World) (p : Value) : Calls P f #[p] w fun en w' => en = .returned (.int .i16 (most : Int)) ∧ w' = w := by
  unfold chkMv at h
  split at h
  · rename_i c res hbody hres
    simp only [Bool.and_eq_true] at h
    obtain ⟨⟨hfit, hn⟩, h⟩ := h
    split at h
    · rename_i c0 c1 hflat
      simp only [Bool.and_eq_true] at h
      obtain ⟨h0, h⟩ := h
      split at h
      · rename_i m ty r' b hc
        simp only [Bool.and_eq_true, beq_iff_eq] at h
        obtain ⟨rfl, rfl⟩ := h
        refine (Calls.of_CW hf hbody hfit (by simpa using hn) (CW.of_flat ?_) (R := fun x w' => x = .int .i16 (most : Int) ∧ w' = w)).mono fun en w' ⟨x, he, hx, hw⟩ => ⟨by rw [he, hx], hw⟩
        rw [hflat]
        refine CWL.idle h0 fun σ0 he0 => ?_
        refine CWL.reg hc (OpK.assign ?_)
        simp only [RC, ev_const]
        refine CWL.ret ?_
        simp only [Ends]
        unfold resTmp at hres
        split at hres
        · rename_i t ht
          simp only [Option.some.injEq] at hres
          subst hres
          refine ⟨_, by simp only [resOf, ht]; rfl, ?_, by trivial⟩
          rw [outF_head]
          simp [upd]
        · cases hres
      · cases h
    · cases h
  · cases h
theorem chkMax_is {P : Program} {tab : List (Nat × Rf)} {gE : Nat} {eV : Value} (hX : ∀ f a, rfAt tab f = some a → Callable P f ∧ RfOk P gE eV f a) {f np mv : FuncId} {fn fnp fmv : Func} {T : Ty} {t : TypeId} {ps : List (Nat × V)} {most : Nat} (hf : P.funcs[f]? = some fn) (h : chkMax P fn np mv = true) (hc : Callable P f)
    (hnp : P.funcs[np]? = some fnp) (hnp2 : chkNp P tab fnp T = some (t, ps)) (hnp3 : Callable P np) (hmv : P.funcs[mv]? = some fmv) (hmv2 : chkMv fmv most = true) (hmv3 : Callable P mv) (hm : most < 1000) : MaxIs P f most := by
  refine ⟨hc, fun w => ?_⟩
  unfold chkMax at h
  split at h
  · rename_i c res hbody hres
    simp only [Bool.and_eq_true] at h
    obtain ⟨hfit, h⟩ := h
    split at h
    · rename_i c0 c1 hflat
      simp only [Bool.and_eq_true] at h
      obtain ⟨h0, h⟩ := h
      split at h
      · rename_i o1 ty1 o2 ty2 s' t' ty3 r' b hcan
        split at h
        · rename_i f1 f2 ho1 ho2
          simp only [Bool.and_eq_true, beq_iff_eq] at h
          obtain ⟨⟨⟨⟨rfl, rfl⟩, hs⟩, ht⟩, rfl⟩ := h
          have ht' : P.underlying t' = some (.int .i64) := by
            split at ht
            · assumption
            · cases ht
          refine (Calls.of_CW hf hbody hfit (by simp) (CW.of_flat ?_) (R := fun x w' => x = .int .i64 (most : Int) ∧ Ch (fun _ => False) w w')).mono fun en w' ⟨x, he, hx, hw⟩ => ⟨by rw [he, hx], hw⟩
          rw [hflat]
          refine CWL.idle h0 fun σ0 he0 => ?_
          refine CWL.reg hcan (OpK.asCall ho1 hnp3 rfl ?_)
          simp only [List.map_nil]
          refine (chkNp_calls hX hnp hnp2 w).mono fun en w1 ⟨cells, he, _, _, _, hch⟩ => ⟨_, he, ?_⟩
          refine OpK.asCall ho2 hmv3 rfl ?_
          simp only [List.map_cons, List.map_nil]
          refine (chkMv_calls hmv hmv2 w1 _).mono fun en w2 ⟨he, hw⟩ => ⟨_, he, ?_⟩
          subst hw
          refine OpK.convInt (k := .i16) (k' := .i64) (n := (most : Int)) hs ht' (by simp [upd]) ?_
          simp only [RC]
          refine CWL.ret ?_
          simp only [Ends]
          unfold resTmp at hres
          split at hres
          · rename_i t ht
            simp only [Option.some.injEq] at hres
            subst hres
            refine ⟨_, by simp only [resOf, ht]; rfl, ?_, hch⟩
            rw [outF_head]
            simp only [upd_same]
            rw [i64_nat most (by omega)]
          · cases hres
        · cases h
      · cases h
    · cases h
  · cases h

/-! ### The law -/
/-- 'if X { return b }', where X is asked in one region. -/
def retB (res : Nat) (b : Bool) (cs : List Code) : Bool :=
  match cs with
  | [c, .ret] => match canR c with
    | some ⟨[(.assign (.const (.bool b')), _)], (d, 1) :: _⟩ => b' == b && d == res
    | _ => false
  | _ => false
theorem retB_sound {P : Program} {fn : Func} {n res : Nat} {b : Bool} {cs : List Code} (h : retB res b cs = true) (hres : resTmp fn = some res) {σ : Fm} {w : World} {R : Value → World → Prop} {Q : Exit → Fm → World → Prop} (hQ : ∀ σ w, Ends fn R .ret σ w → Q .ret σ w) (hR : R (.bool b) w) : CWL P n cs σ w Q := by
  unfold retB at h
  split at h
  · rename_i c
    split at h
    · rename_i b' ty d bb hc
      simp only [Bool.and_eq_true, beq_iff_eq] at h
      obtain ⟨rfl, rfl⟩ := h
      refine CWL.reg hc (OpK.assign ?_)
      simp only [RC, ev_const]
      refine CWL.ret (hQ _ _ ?_)
      simp only [Ends]
      unfold resTmp at hres
      split at hres
      · rename_i t ht
        simp only [Option.some.injEq] at hres
        subst hres
        refine ⟨_, by simp only [resOf, ht]; rfl, ?_⟩
        rw [outF_head]
        simpa [upd] using hR
      · cases hres
    · cases h
  · cases h

structure AnyF where
  mx : FuncId
  vf : FuncId
  ag : FuncId
  same : FuncId

/-- The end of the law: both were read, and are the same. -/
def sameEnd (F : AnyF) (res a b too : Nat) (cs : List Code) : Bool :=
  match cs with
  | [.region _ ops false, .ret] => match ops.toList with
    | [⟨some x1, .move (.tmp s1), _, _, _, none⟩, ⟨some x2, .move (.tmp s2), _, _, _, none⟩, ⟨some x3, .move (.tmp s3), _, _, _, some (1, true)⟩, ⟨some x4, .move (.tmp s4), _, _, _, some (1, true)⟩, ⟨some x5, o, _, _, _, some (1, true)⟩, ⟨some x6, .pick (.tmp s6) (.tmp s7) (.const (.bool false)), _, _, _, none⟩, ⟨some x7, .assign (.tmp s8), _, _, _, none⟩] =>
      match asCall o with
      | some (f, [.tmp s9, .tmp s10]) => f == F.same && s1 == too && s2 == x1 && s3 == a && s4 == b && s9 == x3 && s10 == x4 && s6 == x2 && s7 == x5 && s8 == x6 && x7 == res && x1 != a && x1 != b && x2 != a && x2 != b && x2 != x1 && x3 != b && x3 != x2 && x4 != x3 && x4 != x2 && x5 != x2
      | _ => false
    | _ => false
  | _ => false

theorem sameEnd_sound {P : Program} {fn : Func} {n res a b too : Nat} {F : AnyF} {cs : List Code} (h : sameEnd F res a b too cs = true) (hS : SameIs P F.same) (hres : resTmp fn = some res) {σ : Fm} {w : World} {R : Value → World → Prop} {va vb : Value} {S : Nat → Prop} {la lb : List UInt8}
    (ha : σ a = va) (hb : σ b = vb) (ht : σ too = .bool true) (hoa : OctIs w S la va) (hob : OctIs w S lb vb) (hSb : ∀ k, S k → k < w.heap.size) (hla : la.length ≤ 4611686018427387904) (hlb : lb.length ≤ 4611686018427387904) (hR : ∀ w', Ch (fun _ => False) w w' → R (.bool (la == lb)) w') : CWL P n cs σ w (Ends fn R) := by
  unfold sameEnd at h
  split at h
  · rename_i id ops
    split at h
    · rename_i x1 s1 ty1 p1 f1 x2 s2 ty2 p2 f2 x3 s3 ty3 p3 f3 x4 s4 ty4 p4 f4 x5 o ty5 p5 f5 x6 s6 s7 ty6 p6 f6 x7 s8 ty7 p7 f7 hops
      split at h
      · rename_i f s9 s10 ho
        simp only [Bool.and_eq_true, beq_iff_eq, bne_iff_ne, ne_eq] at h
        obtain ⟨⟨⟨⟨⟨⟨⟨⟨⟨⟨⟨⟨⟨⟨⟨⟨⟨⟨⟨⟨rfl, rfl⟩, rfl⟩, rfl⟩, rfl⟩, rfl⟩, rfl⟩, rfl⟩, rfl⟩, rfl⟩, rfl⟩, h1a⟩, h1b⟩, h2a⟩, h2b⟩, h21⟩, h3b⟩, h32⟩, h43⟩, h42⟩, h52⟩ := h
        have hopsA := arr_of_list hops
        refine CWL.cons (CW.region ?_)
        rw [hops]
        have hy : ∀ (τ : Fm), τ s6 = .bool true → yv ops τ 1 = some true := by
          intro τ hτ
          subst hopsA
          simp [yv, hτ]
        refine RW.c rfl (OpK.move ?_)
        refine RW.c rfl (OpK.move ?_)
        refine RW.want (by unfold wantedB; simp only; rw [hy _ (by simp [ht])]; rfl) (OpK.move ?_)
        refine RW.want (by unfold wantedB; simp only; rw [hy _ (by rw [upd_ne _ _ (Ne.symm h32)]; simp [ht])]; rfl) (OpK.move ?_)
        refine RW.want (by unfold wantedB; simp only; rw [hy _ (by rw [upd_ne _ _ (Ne.symm h42), upd_ne _ _ (Ne.symm h32)]; simp [ht])]; rfl) (OpK.asCall ho hS.1 rfl ?_)
        simp only [List.map_cons, List.map_nil, ev_tmp]
        have e9 : upd (upd (upd (upd σ (some s2) (σ s1)) (some s6) (upd σ (some s2) (σ s1) s2)) (some s9) (upd (upd σ (some s2) (σ s1)) (some s6) (upd σ (some s2) (σ s1) s2) s3)) (some s10)
            (upd (upd (upd σ (some s2) (σ s1)) (some s6) (upd σ (some s2) (σ s1) s2)) (some s9) (upd (upd σ (some s2) (σ s1)) (some s6) (upd σ (some s2) (σ s1) s2) s3) s4) s9 = va := by
          rw [upd_ne _ _ (Ne.symm h43), upd_same, upd_ne _ _ (Ne.symm h2a), upd_ne _ _ (Ne.symm h1a)]; exact ha
        have e10 : upd (upd (upd (upd σ (some s2) (σ s1)) (some s6) (upd σ (some s2) (σ s1) s2)) (some s9) (upd (upd σ (some s2) (σ s1)) (some s6) (upd σ (some s2) (σ s1) s2) s3)) (some s10)
            (upd (upd (upd σ (some s2) (σ s1)) (some s6) (upd σ (some s2) (σ s1) s2)) (some s9) (upd (upd σ (some s2) (σ s1)) (some s6) (upd σ (some s2) (σ s1) s2) s3) s4) s10 = vb := by
          rw [upd_same, upd_ne _ _ (Ne.symm h3b), upd_ne _ _ (Ne.symm h2b), upd_ne _ _ (Ne.symm h1b)]; exact hb
        rw [e9, e10]
        refine (hS.2 w S la lb va vb hoa hob hSb hla hlb).mono fun en w' ⟨he, hc⟩ => ⟨_, he, ?_⟩
        refine RW.c rfl (OpK.pick (b := true) (by
          simp only [ev_tmp]
          rw [upd_ne _ _ (Ne.symm h52), upd_ne _ _ (Ne.symm h42), upd_ne _ _ (Ne.symm h32), upd_same, upd_same, ht]) ?_)
        simp only [if_true, ev_tmp, upd_same]
        refine RW.c rfl (OpK.assign ?_)
        refine RW.z ?_
        refine CWL.ret ?_
        simp only [Ends]
        unfold resTmp at hres
        split at hres
        · rename_i t htt
          simp only [Option.some.injEq] at hres
          subst hres
          refine ⟨_, by simp only [resOf, htt]; rfl, ?_⟩
          simp only [ev_tmp, upd_same]
          exact hR w' hc
        · cases hres
      · cases h
    · cases h
  · cases h
end Go.Kx
