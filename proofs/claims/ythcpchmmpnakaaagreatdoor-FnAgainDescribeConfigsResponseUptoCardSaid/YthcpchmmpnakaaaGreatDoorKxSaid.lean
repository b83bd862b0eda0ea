/- Library texts Any Any2 Said, joined. -/
import Derived.Test.YthcpchmmpnakaaaGreatDoorKxAgain2
import Derived.ProofKit
import Derived.OpenShut
import Derived.WalkKit
import Derived.LaidLaws
/- The law: what is read of any octets is written as octets that are read again, and written as the same. -/
namespace Go.Kx
open Go.RowKit
set_option linter.unusedSimpArgs false
set_option linter.unusedVariables false

def VerIs (P : Program) (ver : FuncId) : Prop := Callable P ver ∧ ∀ (w : World) (n k : Nat), n < 256 → k < 1000 → Calls P ver #[.int .u8 (n : Int), .int .i64 (k : Int)] w fun e w' => ∃ v, e = .returned v ∧ v = .int .i64 ((n % (k + 1) : Nat) : Int) ∧ w' = w
def MaxIs (P : Program) (mx : FuncId) (most : Nat) : Prop := Callable P mx ∧ ∀ (w : World), Calls P mx #[] w fun en w' => en = .returned (.int .i64 (most : Int)) ∧ Ch (fun _ => False) w w'
def SameIs (P : Program) (same : FuncId) : Prop := Callable P same ∧ ∀ (w : World) (S : Nat → Prop) (l1 l2 : List UInt8) (v1 v2 : Value), OctIs w S l1 v1 → OctIs w S l2 v2 → (∀ k, S k → k < w.heap.size) → l1.length ≤ 4611686018427387904 → l2.length ≤ 4611686018427387904 → Calls P same #[v1, v2] w fun en w' => en = .returned (.bool (l1 == l2)) ∧ Ch (fun _ => False) w w'

/-! ### The highest version -/
def chkMax (P : Program) (fn : Func) (np mv : FuncId) : Bool :=
  match fn.body, resTmp fn with
  | some c, some res => fits fn.ntmps c && match flat c with
    | [c0, c1, .ret] => isIdle [] c0 && match canR c1 with
      | some ⟨[(o1, _), (o2, _), (.convert s t (.tmp 3), _)], (r', 5) :: _⟩ => match asCall o1, asCall o2 with
        | some (f1, []), some (f2, [.tmp 1]) => f1 == np && f2 == mv && (P.underlying s).isSome && (match P.underlying t with | some (.int .i64) => true | _ => false) && r' == res
        | _, _ => false
      | _ => false
    | _ => false
  | _, _ => false
def chkMv (fn : Func) (most : Nat) : Bool :=
  match fn.body, resTmp fn with
  | some c, some res => fits fn.ntmps c && Nat.ble 1 fn.ntmps && match flat c with
    | [c0, c1, .ret] => isIdle [] c0 && match canR c1 with
      | some ⟨[(.assign (.const (.int .i16 m)), _)], (r', 1) :: _⟩ => m == (most : Int) && r' == res
      | _ => false
    | _ => false
  | _, _ => false
theorem chkMv_calls {P : Program} {f : FuncId} {fn : Func} {most : Nat} (hf : P.funcs[f]? = some fn) (h : chkMv fn most = true) (w : World) (p : Value) : Calls P f #[p] w fun en w' => en = .returned (.int .i16 (most : Int)) ∧ w' = w := by
  unfold chkMv at h
  split at h
  · rename_i c res hbody hres
    simp only [Bool.and_eq_true] at h
    obtain ⟨⟨hfit, hn⟩, h⟩ := h
    split at h
    · rename_i c0 c1 hflat
      simp only [Bool.and_eq_true] at h
      obtain ⟨h0, h⟩ := h
      split at h
      · rename_i m ty r' b hc
        simp only [Bool.and_eq_true, beq_iff_eq] at h
        obtain ⟨rfl, rfl⟩ := h
        refine (Calls.of_CW hf hbody hfit (by simpa using hn) (CW.of_flat ?_) (R := fun x w' => x = .int .i16 (most : Int) ∧ w' = w)).mono fun en w' ⟨x, he, hx, hw⟩ => ⟨by rw [he, hx], hw⟩
        rw [hflat]
        refine CWL.idle h0 fun σ0 he0 => ?_
        refine CWL.reg hc (OpK.assign ?_)
        simp only [RC, ev_const]
        refine CWL.ret ?_
        simp only [Ends]
        unfold resTmp at hres
        split at hres
        · rename_i t ht
          simp only [Option.some.injEq] at hres
          subst hres
          refine ⟨_, by simp only [resOf, ht]; rfl, ?_, by trivial⟩
          rw [outF_head]
          simp [upd]
        · cases hres
      · cases h
    · cases h
  · cases h
theorem chkMax_is {P : Program} {tab : List (Nat × Rf)} {gE : Nat} {eV : Value} (hX : ∀ f a, rfAt tab f = some a → Callable P f ∧ RfOk P gE eV f a) {f np mv : FuncId} {fn fnp fmv : Func} {T : Ty} {t : TypeId} {ps : List (Nat × V)} {most : Nat} (hf : P.funcs[f]? = some fn) (h : chkMax P fn np mv = true) (hc : Callable P f)
    (hnp : P.funcs[np]? = some fnp) (hnp2 : chkNp P tab fnp T = some (t, ps)) (hnp3 : Callable P np) (hmv : P.funcs[mv]? = some fmv) (hmv2 : chkMv fmv most = true) (hmv3 : Callable P mv) (hm : most < 1000) : MaxIs P f most := by
  refine ⟨hc, fun w => ?_⟩
  unfold chkMax at h
  split at h
  · rename_i c res hbody hres
    simp only [Bool.and_eq_true] at h
    obtain ⟨hfit, h⟩ := h
    split at h
    · rename_i c0 c1 hflat
      simp only [Bool.and_eq_true] at h
      obtain ⟨h0, h⟩ := h
      split at h
      · rename_i o1 ty1 o2 ty2 s' t' ty3 r' b hcan
        split at h
        · rename_i f1 f2 ho1 ho2
          simp only [Bool.and_eq_true, beq_iff_eq] at h
          obtain ⟨⟨⟨⟨rfl, rfl⟩, hs⟩, ht⟩, rfl⟩ := h
          have ht' : P.underlying t' = some (.int .i64) := by
            split at ht
            · assumption
            · cases ht
          refine (Calls.of_CW hf hbody hfit (by simp) (CW.of_flat ?_) (R := fun x w' => x = .int .i64 (most : Int) ∧ Ch (fun _ => False) w w')).mono fun en w' ⟨x, he, hx, hw⟩ => ⟨by rw [he, hx], hw⟩
          rw [hflat]
          refine CWL.idle h0 fun σ0 he0 => ?_
          refine CWL.reg hcan (OpK.asCall ho1 hnp3 rfl ?_)
          simp only [List.map_nil]
          refine (chkNp_calls hX hnp hnp2 w).mono fun en w1 ⟨cells, he, _, _, _, hch⟩ => ⟨_, he, ?_⟩
          refine OpK.asCall ho2 hmv3 rfl ?_
          simp only [List.map_cons, List.map_nil]
          refine (chkMv_calls hmv hmv2 w1 _).mono fun en w2 ⟨he, hw⟩ => ⟨_, he, ?_⟩
          subst hw
          refine OpK.convInt (k := .i16) (k' := .i64) (n := (most : Int)) hs ht' (by simp [upd]) ?_
          simp only [RC]
          refine CWL.ret ?_
          simp only [Ends]
          unfold resTmp at hres
          split at hres
          · rename_i t ht
            simp only [Option.some.injEq] at hres
            subst hres
            refine ⟨_, by simp only [resOf, ht]; rfl, ?_, hch⟩
            rw [outF_head]
            simp only [upd_same]
            rw [i64_nat most (by omega)]
          · cases hres
        · cases h
      · cases h
    · cases h
  · cases h

/-! ### The law -/
/-- 'if X { return b }', where X is asked in one region. -/
def retB (res : Nat) (b : Bool) (cs : List Code) : Bool :=
  match cs with
  | [c, .ret] => match canR c with
    | some ⟨[(.assign (.const (.bool b')), _)], (d, 1) :: _⟩ => b' == b && d == res
    | _ => false
  | _ => false
theorem retB_sound {P : Program} {fn : Func} {n res : Nat} {b : Bool} {cs : List Code} (h : retB res b cs = true) (hres : resTmp fn = some res) {σ : Fm} {w : World} {R : Value → World → Prop} {Q : Exit → Fm → World → Prop} (hQ : ∀ σ w, Ends fn R .ret σ w → Q .ret σ w) (hR : R (.bool b) w) : CWL P n cs σ w Q := by
  unfold retB at h
  split at h
  · rename_i c
    split at h
    · rename_i b' ty d bb hc
      simp only [Bool.and_eq_true, beq_iff_eq] at h
      obtain ⟨rfl, rfl⟩ := h
      refine CWL.reg hc (OpK.assign ?_)
      simp only [RC, ev_const]
      refine CWL.ret (hQ _ _ ?_)
      simp only [Ends]
      unfold resTmp at hres
      split at hres
      · rename_i t ht
        simp only [Option.some.injEq] at hres
        subst hres
        refine ⟨_, by simp only [resOf, ht]; rfl, ?_⟩
        rw [outF_head]
        simpa [upd] using hR
      · cases hres
    · cases h
  · cases h

structure AnyF where
  mx : FuncId
  vf : FuncId
  ag : FuncId
  same : FuncId

/-- The end of the law: both were read, and are the same. -/
def sameEnd (F : AnyF) (res a b too : Nat) (cs : List Code) : Bool :=
  match cs with
  | [.region _ ops false, .ret] => match ops.toList with
    | [⟨some x1, .move (.tmp s1), _, _, _, none⟩, ⟨some x2, .move (.tmp s2), _, _, _, none⟩, ⟨some x3, .move (.tmp s3), _, _, _, some (1, true)⟩, ⟨some x4, .move (.tmp s4), _, _, _, some (1, true)⟩, ⟨some x5, o, _, _, _, some (1, true)⟩, ⟨some x6, .pick (.tmp s6) (.tmp s7) (.const (.bool false)), _, _, _, none⟩, ⟨some x7, .assign (.tmp s8), _, _, _, none⟩] =>
      match asCall o with
      | some (f, [.tmp s9, .tmp s10]) => f == F.same && s1 == too && s2 == x1 && s3 == a && s4 == b && s9 == x3 && s10 == x4 && s6 == x2 && s7 == x5 && s8 == x6 && x7 == res && x1 != a && x1 != b && x2 != a && x2 != b && x2 != x1 && x3 != b && x3 != x2 && x4 != x3 && x4 != x2 && x5 != x2
      | _ => false
    | _ => false
  | _ => false

theorem sameEnd_sound {P : Program} {fn : Func} {n res a b too : Nat} {F : AnyF} {cs : List Code} (h : sameEnd F res a b too cs = true) (hS : SameIs P F.same) (hres : resTmp fn = some res) {σ : Fm} {w : World} {R : Value → World → Prop} {va vb : Value} {S : Nat → Prop} {la lb : List UInt8}
    (ha : σ a = va) (hb : σ b = vb) (ht : σ too = .bool true) (hoa : OctIs w S la va) (hob : OctIs w S lb vb) (hSb : ∀ k, S k → k < w.heap.size) (hla : la.length ≤ 4611686018427387904) (hlb : lb.length ≤ 4611686018427387904) (hR : ∀ w', Ch (fun _ => False) w w' → R (.bool (la == lb)) w') : CWL P n cs σ w (Ends fn R) := by
  unfold sameEnd at h
  split at h
  · rename_i id ops
    split at h
    · rename_i x1 s1 ty1 p1 f1 x2 s2 ty2 p2 f2 x3 s3 ty3 p3 f3 x4 s4 ty4 p4 f4 x5 o ty5 p5 f5 x6 s6 s7 ty6 p6 f6 x7 s8 ty7 p7 f7 hops
      split at h
      · rename_i f s9 s10 ho
        simp only [Bool.and_eq_true, beq_iff_eq, bne_iff_ne, ne_eq] at h
        obtain ⟨⟨⟨⟨⟨⟨⟨⟨⟨⟨⟨⟨⟨⟨⟨⟨⟨⟨⟨⟨rfl, rfl⟩, rfl⟩, rfl⟩, rfl⟩, rfl⟩, rfl⟩, rfl⟩, rfl⟩, rfl⟩, rfl⟩, h1a⟩, h1b⟩, h2a⟩, h2b⟩, h21⟩, h3b⟩, h32⟩, h43⟩, h42⟩, h52⟩ := h
        have hopsA := arr_of_list hops
        refine CWL.cons (CW.region ?_)
        rw [hops]
        have hy : ∀ (τ : Fm), τ s6 = .bool true → yv ops τ 1 = some true := by
          intro τ hτ
          subst hopsA
          simp [yv, hτ]
        refine RW.c rfl (OpK.move ?_)
        refine RW.c rfl (OpK.move ?_)
        refine RW.want (by unfold wantedB; simp only; rw [hy _ (by simp [ht])]; rfl) (OpK.move ?_)
        refine RW.want (by unfold wantedB; simp only; rw [hy _ (by rw [upd_ne _ _ (Ne.symm h32)]; simp [ht])]; rfl) (OpK.move ?_)
        refine RW.want (by unfold wantedB; simp only; rw [hy _ (by rw [upd_ne _ _ (Ne.symm h42), upd_ne _ _ (Ne.symm h32)]; simp [ht])]; rfl) (OpK.asCall ho hS.1 rfl ?_)
        simp only [List.map_cons, List.map_nil, ev_tmp]
        have e9 : upd (upd (upd (upd σ (some s2) (σ s1)) (some s6) (upd σ (some s2) (σ s1) s2)) (some s9) (upd (upd σ (some s2) (σ s1)) (some s6) (upd σ (some s2) (σ s1) s2) s3)) (some s10)
            (upd (upd (upd σ (some s2) (σ s1)) (some s6) (upd σ (some s2) (σ s1) s2)) (some s9) (upd (upd σ (some s2) (σ s1)) (some s6) (upd σ (some s2) (σ s1) s2) s3) s4) s9 = va := by
          rw [upd_ne _ _ (Ne.symm h43), upd_same, upd_ne _ _ (Ne.symm h2a), upd_ne _ _ (Ne.symm h1a)]; exact ha
        have e10 : upd (upd (upd (upd σ (some s2) (σ s1)) (some s6) (upd σ (some s2) (σ s1) s2)) (some s9) (upd (upd σ (some s2) (σ s1)) (some s6) (upd σ (some s2) (σ s1) s2) s3)) (some s10)
            (upd (upd (upd σ (some s2) (σ s1)) (some s6) (upd σ (some s2) (σ s1) s2)) (some s9) (upd (upd σ (some s2) (σ s1)) (some s6) (upd σ (some s2) (σ s1) s2) s3) s4) s10 = vb := by
          rw [upd_same, upd_ne _ _ (Ne.symm h3b), upd_ne _ _ (Ne.symm h2b), upd_ne _ _ (Ne.symm h1b)]; exact hb
        rw [e9, e10]
        refine (hS.2 w S la lb va vb hoa hob hSb hla hlb).mono fun en w' ⟨he, hc⟩ => ⟨_, he, ?_⟩
        refine RW.c rfl (OpK.pick (b := true) (by
          simp only [ev_tmp]
          rw [upd_ne _ _ (Ne.symm h52), upd_ne _ _ (Ne.symm h42), upd_ne _ _ (Ne.symm h32), upd_same, upd_same, ht]) ?_)
        simp only [if_true, ev_tmp, upd_same]
        refine RW.c rfl (OpK.assign ?_)
        refine RW.z ?_
        refine CWL.ret ?_
        simp only [Ends]
        unfold resTmp at hres
        split at hres
        · rename_i t htt
          simp only [Option.some.injEq] at hres
          subst hres
          refine ⟨_, by simp only [resOf, htt]; rfl, ?_⟩
          simp only [ev_tmp, upd_same]
          exact hR w' hc
        · cases hres
      · cases h
    · cases h
  · cases h
end Go.Kx

/- The law 'Any' as a whole. -/
namespace Go.Kx
open Go.RowKit
set_option linter.unusedSimpArgs false
set_option linter.unusedVariables false

/-- A question in a region, and a return where it holds. -/
def lenGt (P : Program) (L : List Nat) (m : Int) (c : Code) : Option Nat :=
  match canR c with
  | some ⟨[(o, _), (.binOp .gtr _ (.tmp 1) (.const (.int .i64 m')) _, _)], (t, 3) :: b⟩ => match asLen o with
    | some (.tmp 2, tt) => if m' == m && (elemSize P tt).isSome && free L ((t, 3) :: b) then some t else none
    | _ => none
  | _ => none
theorem lenGt_sound {P : Program} {n : Nat} {L : List Nat} {m : Int} {c : Code} {t : Nat} (h : lenGt P L m c = some t) {rest : List Code} {σ : Fm} {w : World} {Q : Exit → Fm → World → Prop} {a : Option Addr} {k cc : Nat} (h1 : σ 1 = .slice a k cc)
    (hk : ∀ σ', (∀ t ∈ L, σ' t = σ t) → σ' t = .bool (decide ((k : Int) > m)) → CWL P n rest σ' w Q) : CWL P n (c :: rest) σ w Q := by
  unfold lenGt at h
  split at h
  · rename_i o ty1 u1 m' u2 ty2 t' b hc
    split at h
    · rename_i tt ho
      split at h
      · rename_i hh
        simp only [Option.some.injEq] at h
        subst h
        simp only [Bool.and_eq_true, beq_iff_eq] at hh
        obtain ⟨⟨rfl, hs⟩, hfree⟩ := hh
        obtain ⟨es, hes⟩ := Option.isSome_iff_exists.1 hs
        refine CWL.reg hc (OpK.asLen ho hes (by simp only [ev_tmp]; exact (enF_two σ 1).trans h1) ?_)
        refine OpK.cmp (op := .gtr) (k := .i64) (a := (k : Int)) (b := m') rfl (by simp [upd]) rfl ?_
        simp only [RC]
        refine hk _ (fun t ht => ?_) (by rw [outF_head]; simp [upd])
        rw [outF_free hfree ht, upd_odd _ _ _ _ (by omega), upd_odd _ _ _ _ (by omega), enF_two]
      · cases h
    · cases h
  · cases h

/-- A version, and the thin package's answer at it. -/
def verAg (F : AnyF) (L : List Nat) (mo src : Nat) (c : Code) : Option (Nat × Nat) :=
  match canR c with
  | some ⟨[(o1, _), (o2, _), (.extract (.tmp 3) 0, _), (.extract (.tmp 3) 1, _)], (ok, 7) :: (a, 5) :: b⟩ => match asCall o1, asCall o2 with
    | some (f1, [.tmp 0, .tmp m2]), some (f2, [.tmp 1, .tmp s2]) => if f1 == F.vf && f2 == F.ag && m2 == 2 * mo && s2 == 2 * src && ok != a && free L ((ok, 7) :: (a, 5) :: b) then some (a, ok) else none
    | _, _ => none
  | _ => none
theorem verAg_sound {P : Program} {n : Nat} {F : AnyF} {L : List Nat} {mo src : Nat} {c : Code} {a ok : Nat} (h : verAg F L mo src c = some (a, ok)) (hv : VerIs P F.vf) (hag : Callable P F.ag) {rest : List Code} {σ : Fm} {w : World} {Q : Exit → Fm → World → Prop} {k most : Nat} {vs : Value} {R : Value → Bool → World → Prop}
    (h0 : σ 0 = .int .u8 (k : Int)) (hk : k < 256) (hm : σ mo = .int .i64 (most : Int)) (hm2 : most < 1000) (hs : σ src = vs)
    (hc : Calls P F.ag #[.int .i64 ((k % (most + 1) : Nat) : Int), vs] w fun en w' => ∃ x b, en = .returned (.tuple #[x, .bool b]) ∧ R x b w')
    (hn : ∀ σ' w' x b, R x b w' → (∀ t ∈ L, σ' t = σ t) → σ' a = x → σ' ok = .bool b → CWL P n rest σ' w' Q) : CWL P n (c :: rest) σ w Q := by
  unfold verAg at h
  split at h
  · rename_i o1 ty1 o2 ty2 ty3 ty4 ok' a' b hcan
    split at h
    · rename_i f1 m2 f2 s2 ho1 ho2
      split at h
      · rename_i hh
        simp only [Option.some.injEq, Prod.mk.injEq] at h
        obtain ⟨rfl, rfl⟩ := h
        simp only [Bool.and_eq_true, beq_iff_eq, bne_iff_ne, ne_eq] at hh
        obtain ⟨⟨⟨⟨⟨rfl, rfl⟩, rfl⟩, rfl⟩, hne⟩, hfree⟩ := hh
        refine CWL.reg hcan (OpK.asCall ho1 hv.1 rfl ?_)
        simp only [List.map_cons, List.map_nil, ev_tmp]
        rw [show enF σ 0 = .int .u8 (k : Int) from (enF_two σ 0).trans h0, enF_two, hm]
        refine (hv.2 w k most hk hm2).mono fun en w1 ⟨v, he, hv1, hw⟩ => ⟨v, he, ?_⟩
        subst hw
        subst hv1
        refine OpK.asCall ho2 hag rfl ?_
        simp only [List.map_cons, List.map_nil, ev_tmp]
        rw [show upd (enF σ) (some (2 * 0 + 1)) (Value.int .i64 ((k % (most + 1) : Nat) : Int)) 1 = .int .i64 ((k % (most + 1) : Nat) : Int) from rfl, upd_odd _ _ _ _ (by omega), enF_two, hs]
        refine hc.mono fun en w2 ⟨x, b', he, hR⟩ => ⟨_, he, ?_⟩
        refine OpK.extract (vs := #[x, .bool b']) (v := x) (by simp [upd]) rfl ?_
        refine OpK.extract (vs := #[x, .bool b']) (v := .bool b') (by simp [upd]) rfl ?_
        simp only [RC]
        refine hn _ w2 x b' hR (fun t ht => ?_) ?_ ?_
        · rw [outF_free hfree ht, upd_odd _ _ _ _ (by omega), upd_odd _ _ _ _ (by omega), upd_odd _ _ _ _ (by omega), upd_odd _ _ _ _ (by omega), enF_two]
        · simp [outF, look, hne, upd]
        · rw [outF_head]; simp [upd]
      · cases h
    · cases h
  · cases h

def chkAny (P : Program) (fn : Func) (F : AnyF) : Bool :=
  match fn.body, resTmp fn with
  | some c, some res => fits fn.ntmps c && Nat.ble 2 fn.ntmps && match flat c with
    | [c0, c1, .cond (.tmp t1) A1 B1, c2, c3, .cond (.tmp t3) A3 B3, c4, .cond (.tmp t4) A4 B4, c5, c6, .cond (.tmp t6) A6 B6, c7, c8, c9] => isIdle [0, 1] c0 && match lenGt P [0, 1] 2147483647 c1, canR c2, canR c3 with
      | some t1', some ⟨[(o2, _)], (mo, 1) :: b2⟩, some ⟨[(.binOp .lss _ (.tmp m2) (.const (.int .i64 0)) _, _)], (t3', 1) :: b3⟩ => match asCall o2, lenGt P [0, 1, mo] 1000 c4, verAg F [0, 1, mo] mo 1 c5 with
        | some (f2, []), some t4', some (a, ok) => match canR c6, verAg F [a] mo a c7 with
          | some ⟨[(.unOp .not _ (.tmp ok2), _)], (t6', 1) :: b6⟩, some (b, too) => f2 == F.mx && m2 == 2 * mo && ok2 == 2 * ok && t1 == t1' && t3 == t3' && t4 == t4' && t6 == t6' && (flat B1).isEmpty && (flat B3).isEmpty && (flat B4).isEmpty && (flat B6).isEmpty &&
              retB res true (flat A1) && retB res false (flat A3) && retB res true (flat A4) && retB res true (flat A6) && free [0, 1] ((mo, 1) :: b2) && free [0, 1, mo] ((t3', 1) :: b3) && free [0, mo, a] ((t6', 1) :: b6) && sameEnd F res a b too [c8, c9]
          | _, _ => false
        | _, _, _ => false
      | _, _, _ => false
    | _ => false
  | _, _ => false

/-- THE LAW: whatever the octets. -/
theorem chkAny_calls {P : Program} {e : TypeId} {full : Bool} {tR : TypeId} {gE : Nat} {T : Ty} {s : Sch} {ff : Option Int} {tab : List (Nat × Rf)} {tabW : List (Nat × Ap)} {Fa : AgF} {rf : FuncId} {ps ps' : List (Nat × V)} {most : Nat}
    (M : Msg P e full tR gE T s ff tab tabW Fa rf ps ps' (most : Int)) {F : AnyF} {f : FuncId} {fn fag : Func} (hf : P.funcs[f]? = some fn) (h : chkAny P fn F = true) (hv : VerIs P F.vf) (hmx : MaxIs P F.mx most) (hm1000 : most < 1000) (hsame : SameIs P F.same)
    (hag1 : P.funcs[F.ag]? = some fag) (hag2 : chkAg P e fag Fa = true) (hag3 : Callable P F.ag) {w : World} {S : Nat → Prop} {n : Nat} {src : Value} {l : List UInt8} {tE : TypeId} {vE : Value}
    (hn : n < 256) (hsrc : OctIs w S l src) (hS : ∀ k, S k → k < w.heap.size) (herr : w.cell? ⟨gE, 0, none⟩ = some (.iface tE vE)) (hgE : gE < w.heap.size) :
    Calls P f #[.int .u8 (n : Int), src] w fun en w' => en = .returned (.bool true) ∧ Ch (fun _ => False) w w' := by
  unfold chkAny at h
  split at h
  · rename_i c res hbody hres
    simp only [Bool.and_eq_true] at h
    obtain ⟨⟨hfit, hnt⟩, h⟩ := h
    split at h
    · rename_i c0 c1 t1 A1 B1 c2 c3 t3 A3 B3 c4 t4 A4 B4 c5 c6 t6 A6 B6 c7 c8 c9 hflat
      simp only [Bool.and_eq_true] at h
      obtain ⟨h0, h⟩ := h
      split at h
      · rename_i t1' o2 ty2 mo b2 u3 m2 u4 ty3 t3' b3 hg1 hc2 hc3
        split at h
        · rename_i f2 t4' a ok ho2 hg4 hva
          split at h
          · rename_i u6 ok2 ty6 t6' b6 b too hc6 hvb
            simp only [Bool.and_eq_true, beq_iff_eq, List.isEmpty_iff] at h
            obtain ⟨⟨⟨⟨⟨⟨⟨⟨⟨⟨⟨⟨⟨⟨⟨⟨⟨⟨rfl, rfl⟩, rfl⟩, rfl⟩, rfl⟩, rfl⟩, rfl⟩, hB1⟩, hB3⟩, hB4⟩, hB6⟩, hA1⟩, hA3⟩, hA4⟩, hA6⟩, hf2⟩, hf3⟩, hf6⟩, hend⟩ := h
            refine (Calls.of_CW hf hbody hfit (by simpa using hnt) (CW.of_flat ?_) (R := fun x w' => x = .bool true ∧ Ch (fun _ => False) w w')).mono fun en w' ⟨x, he, hx, hR⟩ => ⟨by rw [he, hx], hR⟩
            rw [hflat]
            obtain ⟨ad, cc, hsl⟩ : ∃ a c, src = .slice a l.length c := by
              rcases hsrc with ⟨h1, h2⟩ | ⟨a, c, h1, _⟩
              · exact ⟨none, 0, by rw [h1, h2]; rfl⟩
              · exact ⟨some a, c, h1⟩
            refine CWL.idle h0 fun σ0 he0 => ?_
            have e0 : σ0 0 = .int .u8 (n : Int) := (he0 0 (by simp)).trans rfl
            have e1 : σ0 1 = src := (he0 1 (by simp)).trans rfl
            refine lenGt_sound hg1 (e1.trans hsl) fun σ1 k1 ht1 => ?_
            by_cases hbig : ((l.length : Int) > 2147483647)
            · refine CWL.condT (by simp only [ev_tmp, ht1]; simp [hbig]) (CWL.append ?_)
              exact retB_sound hA1 hres (fun _ _ h => h) ⟨rfl, Ch.refl _ _⟩
            refine CWL.condF (by simp only [ev_tmp, ht1]; simp [hbig]) ?_
            rw [hB1, List.nil_append]
            refine CWL.regG hc2 (OpK.asCall ho2 hmx.1 rfl ?_)
            simp only [List.map_nil]
            refine (hmx.2 w).mono fun en w1 ⟨he, hch1⟩ => ⟨_, he, ?_⟩
            simp only [RC]
            intro σ2 hσ2
            have k2m : σ2 mo = .int .i64 (most : Int) := by rw [hσ2, outF_head]; simp
            have k2 : ∀ t ∈ [0, 1], σ2 t = σ0 t := fun t ht => by rw [hσ2, outF_free hf2 ht, upd_odd _ _ _ _ (by omega), enF_two]; exact k1 t ht
            refine CWL.regG hc3 (OpK.cmp (op := .lss) (k := .i64) (a := (most : Int)) (b := 0) rfl (by simp only [ev_tmp, enF_two]; exact k2m) rfl ?_)
            simp only [RC]
            intro σ3 hσ3
            have k3 : ∀ t ∈ [0, 1, mo], σ3 t = σ2 t := fun t ht => by rw [hσ3, outF_free hf3 ht, upd_odd _ _ _ _ (by omega), enF_two]
            refine CWL.condF (by simp only [ev_tmp]; rw [hσ3, outF_head]; simp [upd]) ?_
            rw [hB3, List.nil_append]
            have e31 : σ3 1 = src := (k3 1 (by simp)).trans ((k2 1 (by simp)).trans e1)
            refine lenGt_sound hg4 (e31.trans hsl) fun σ4 k4 ht4 => ?_
            by_cases hbig2 : ((l.length : Int) > 1000)
            · refine CWL.condT (by simp only [ev_tmp, ht4]; simp [hbig2]) (CWL.append ?_)
              exact retB_sound hA4 hres (fun _ _ h => h) ⟨rfl, hch1⟩
            refine CWL.condF (by simp only [ev_tmp, ht4]; simp [hbig2]) ?_
            rw [hB4, List.nil_append]
            have e40 : σ4 0 = .int .u8 (n : Int) := (k4 0 (by simp)).trans ((k3 0 (by simp)).trans ((k2 0 (by simp)).trans e0))
            have e41 : σ4 1 = src := (k4 1 (by simp)).trans e31
            have e4m : σ4 mo = .int .i64 (most : Int) := (k4 mo (by simp)).trans ((k3 mo (by simp)).trans k2m)
            -- the version
            have hver0 : (0 : Int) ≤ ((n % (most + 1) : Nat) : Int) := by omega
            have hverm : ((n % (most + 1) : Nat) : Int) ≤ (most : Int) := by have := Nat.mod_lt n (show 0 < most + 1 by omega); omega
            generalize hvd : ((n % (most + 1) : Nat) : Int) = ver at hver0 hverm
            have hsrc1 : OctIs w1 S l src := hsrc.keep fun k hk => hch1.block k (hS k hk) fun h => h
            have herr1 : w1.cell? ⟨gE, 0, none⟩ = some (.iface tE vE) := (ch_cell hch1 (a := ⟨gE, 0, none⟩) hgE (fun h => h) rfl).trans herr
            have hs1 := hch1.size
            refine verAg_sound hva hv hag3 (R := fun x b w' => Ch (fun _ => False) w1 w' ∧ AgIs w1 w' ((dec ver (flexAt ff ver) s (V0 T ps ps' ver) l).map fun y => enc ver (flexAt ff ver) s y.1) x b) (k := n) (most := most) (vs := src) e40 hn e4m hm1000 e41 (by rw [hvd]; exact chkAg_calls M hag1 hag2 (ver := ver) hver0 hverm hsrc1 (fun k hk => Nat.lt_of_lt_of_le (hS k hk) hs1) (by omega) herr1 (by omega)) fun σ5 w5 x b' ⟨hch5, hag5⟩ k5 h5a h5k => ?_
            have hch05 : Ch (fun _ => False) w w5 := hch1.trans' hch5
            refine CWL.regG hc6 (OpK.not (b := b') (by simp only [ev_tmp, enF_two]; exact h5k) ?_)
            simp only [RC]
            intro σ6 hσ6
            have k6 : ∀ t ∈ [0, mo, a], σ6 t = σ5 t := fun t ht => by rw [hσ6, outF_free hf6 ht, upd_odd _ _ _ _ (by omega), enF_two]
            have ht6 : σ6 t6 = .bool (!b') := by rw [hσ6, outF_head]; simp [upd]
            cases hd : dec ver (flexAt ff ver) s (V0 T ps ps' ver) l with
            | none =>
              rw [hd] at hag5
              obtain ⟨rfl, _⟩ := hag5
              refine CWL.condT (by simp only [ev_tmp, ht6]; rfl) (CWL.append ?_)
              exact retB_sound hA6 hres (fun _ _ h => h) ⟨rfl, hch05⟩
            | some y =>
              rw [hd] at hag5
              obtain ⟨rfl, hoct⟩ := hag5
              refine CWL.condF (by simp only [ev_tmp, ht6]; rfl) ?_
              rw [hB6, List.nil_append]
              -- what was read is read again
              have hok := M.ok ver hver0 hverm
              obtain ⟨hgood, hlen, _⟩ := dec_good s hok (M.start ver) (by omega) hd
              obtain ⟨v', hd2, henc, _⟩ := dec_enc s [] hok (M.start ver) hgood
              rw [List.append_nil] at hd2
              have herr5 : w5.cell? ⟨gE, 0, none⟩ = some (.iface tE vE) := (ch_cell hch05 (a := ⟨gE, 0, none⟩) hgE (fun h => h) rfl).trans herr
              have hs5 := hch05.size
              refine verAg_sound hvb hv hag3 (R := fun x' b w' => Ch (fun _ => False) w5 w' ∧ AgIs w5 w' ((dec ver (flexAt ff ver) s (V0 T ps ps' ver) (enc ver (flexAt ff ver) s y.1)).map fun y => enc ver (flexAt ff ver) s y.1) x' b) (k := n) (most := most) (vs := x) ((k6 0 (by simp)).trans ((k5 0 (by simp)).trans e40)) hn ((k6 mo (by simp)).trans ((k5 mo (by simp)).trans e4m)) hm1000 ((k6 a (by simp)).trans h5a)
                (by rw [hvd]; exact chkAg_calls M hag1 hag2 (ver := ver) hver0 hverm hoct (fun k hk => hk.2) (by omega) herr5 (by omega)) fun σ7 w7 x2 b2' ⟨hch7, hag7⟩ k7 h7b h7t => ?_
              have hd3 : dec ver (flexAt ff ver) s (V0 T ps ps' ver) (enc ver (flexAt ff ver) s y.1) = some (v', []) := hd2
              rw [hd3] at hag7
              simp only [Option.map_some, AgIs] at hag7
              obtain ⟨rfl, hoct7⟩ := hag7
              rw [henc] at hoct7
              have hoct7a : OctIs w7 (fun k => k < w7.heap.size) (enc ver (flexAt ff ver) s y.1) x := by
                have := hoct.keep (w' := w7) fun k hk => hch7.block k hk.2 fun h => h
                rcases this with h | ⟨a1, c1, h1, h2, h3, h4⟩
                · exact .inl h
                · exact .inr ⟨a1, c1, h1, h2, Nat.lt_of_lt_of_le h3.2 hch7.size, h4⟩
              have hoct7b : OctIs w7 (fun k => k < w7.heap.size) (enc ver (flexAt ff ver) s y.1) x2 := by
                rcases hoct7 with h | ⟨a1, c1, h1, h2, h3, h4⟩
                · exact .inl h
                · exact .inr ⟨a1, c1, h1, h2, h3.2, h4⟩
              refine sameEnd_sound hend hsame hres (va := x) (vb := x2) ((k7 a (by simp)).trans ((k6 a (by simp)).trans h5a)) h7b h7t hoct7a hoct7b (fun k hk => hk) (by omega) (by omega) fun w' hc' => ⟨by simp, (hch05.trans' hch7).trans' hc'⟩
          · cases h
        · cases h
      · cases h
    · cases h
  · cases h
end Go.Kx
namespace Go.Kx
theorem CWL.gen {P : Program} {n : Nat} {cs : List Code} {σ : Fm} {w : World} {Q : Exit → Fm → World → Prop} (h : ∀ σ', σ' = σ → CWL P n cs σ' w Q) : CWL P n cs σ w Q := h σ rfl
end Go.Kx

/- From a walk to a statement: laws over an octet and a list of octets. -/
namespace Go.Kx
open Go.ChangeShapes Go.WideShapes Go.ChangeAt Go.RowKit
set_option linter.unusedSimpArgs false
set_option linter.unusedVariables false

theorem rfAt_all {tab : List (Nat × Rf)} {p : Nat → Rf → Prop} (h : ∀ x ∈ tab, p x.1 x.2) : ∀ f a, rfAt tab f = some a → p f a := by
  intro f a hf
  unfold rfAt at hf
  simp only [Option.map_eq_some_iff] at hf
  obtain ⟨x, hx, rfl⟩ := hf
  have h1 := List.find?_some hx
  simp only [beq_iff_eq] at h1
  rw [← h1]
  exact h x (List.mem_of_find?_eq_some hx)
theorem okAll {ff : Option Int} {s : Sch} (m : Nat) (h : ((List.range (m + 1)).all fun k => okB (k : Int) (flexAt ff (k : Int)) s) = true) : ∀ ver : Int, 0 ≤ ver → ver ≤ (m : Int) → okB ver (flexAt ff ver) s = true := by
  intro ver h0 hm
  have := List.all_eq_true.1 h ver.toNat (List.mem_range.2 (by omega))
  rwa [show ((ver.toNat : Nat) : Int) = ver by omega] at this

/-- The error that the row lists: what the walk reads of it. -/
theorem errAt {P : Program} {W : World} {name nm : String} {d : DataW Unit} {rest : List (String × DataW Unit)} {g : Nat} {t : TypeId} {ms : Array (String × TypeId)} (hg : P.globalNamed name = some g) (hty : (P.globals[g]?).map (·.type) = some t) (ht : P.underlying t = some (.interface ms))
    (h : laidMet P ((name, .iface nm d) :: rest) W) : ∃ tE vE, W.cell? ⟨g, 0, none⟩ = some (.iface tE vE) ∧ g < W.heap.size := by
  obtain ⟨ps, ⟨g', t', cs, fuel, p, q, hg', ht', hvar, hd, _, _⟩, _⟩ := h
  obtain rfl := Option.some.inj (hg.symm.trans hg')
  obtain rfl := Option.some.inj (hty.symm.trans ht')
  obtain ⟨fuel', u, v, hcs, _, _⟩ := iface_of_trod ht hd
  have hc := World.var?_cell hg hvar 0
  have e0 : cs[0]? = some (.iface u v) := by
    rw [← Array.getElem?_toList, hcs]; rfl
  rw [e0] at hc
  refine ⟨u, v, hc, ?_⟩
  exact Nat.lt_of_not_le fun hn => by
    rw [World.cell?, Array.getElem?_eq_none hn] at hc
    cases hc

/-- A list of octets that comes in. -/
theorem src_open {H : Type} {enc : TypeId × Value → H} {P : Program} {w : World} {t e : TypeId} {base : Nat} {v : Value} {d : DataW H} {ps : List MemPlace} (ht : P.underlying t = some (.slice e)) (he : P.underlying e = some (.int .u8)) (hc : P.cellsOf e = 1)
    (hval : Value.okWide P w .any base t v) (hd : DataW.Trod enc P w 0 (fun _ => true) true t v d ps) : ∃ l, OctIs w (fun k => k < w.heap.size) l v := by
  obtain ⟨a0, n0, c0, rfl⟩ := okWide_slice ht hval
  obtain ⟨fuel, hf⟩ := hd
  rcases open_ints ht he hc hf with ⟨hcs, hx⟩ | ⟨a, len, cap, zs, hcs, _, hl, hm, hz, hx, hcell, hwz⟩
  · exact ⟨[], .inl ⟨by simpa [Value.cells] using hcs, rfl⟩⟩
  · simp [Value.cells] at hcs
    obtain ⟨rfl, rfl, rfl⟩ := hcs
    simp only [if_true] at hz
    have hblk : a.block < w.heap.size := by
      simp only [Value.okWide, ht, Cell.okWide, Cell.ok] at hval
      obtain ⟨_, _, _, _, row, cells, hsh, _⟩ := hval
      exact Nat.lt_of_not_le fun hn => by
        simp [World.shape?, Array.getElem?_eq_none hn] at hsh
    refine ⟨(zs.take n0).map fun z => UInt8.ofNat z.toNat, .inr ⟨a, c0, by simp [hz]; omega, by simp; omega, hblk, fun i u hu => ?_⟩⟩
    simp only [List.getElem?_map, Option.map_eq_some_iff] at hu
    obtain ⟨z, hzi, rfl⟩ := hu
    have hi : i < zs.length ∧ zs[i]? = some z := by
      rw [List.getElem?_take] at hzi
      split at hzi
      · exact ⟨(List.getElem?_eq_some_iff.1 hzi).1, hzi⟩
      · cases hzi
    rw [hcell i hi.1]
    have hb : 0 ≤ z ∧ z ≤ 255 := by
      have h5 := hwz z (List.mem_of_getElem? hi.2)
      have e1 : IntKind.u8.min = 0 := rfl
      have e2 : IntKind.u8.max = 255 := rfl
      simpa [Lit.wf, e1, e2] using h5
    have e3 : zs.getD i 0 = z := by simp [List.getD, hi.2]
    rw [e3, bv]
    congr 2
    simp
    omega

theorem oct_contract {H : Type} {enc : TypeId × Value → H} {P : Program} {f : FuncId} {fn : Func} {u8 sl bo : TypeId} {s : ChangeSpec} {W : World} {base : Nat} {args : Array Value} {ds gs : List (DataW H)} {before : List MemPlace}
    (hpar : fn.params = #[u8, sl]) (hres : fn.resultTypes = #[bo]) (h8 : P.underlying u8 = some (.int .u8)) (hsl : P.underlying sl = some (.slice u8)) (hc : P.cellsOf u8 = 1) (hb : P.underlying bo = some .bool)
    (hlo : laidOutB P = true) (hrr : P.readableRec sl = true) (hlt : sl < P.types.size) (hvars : s.vars = []) (hs : ∀ d1 d2, s.fn H [d1, d2] = { results := [.lit (.bool true)], args := [d1, d2] })
    (hval : ∀ (j : Nat) t v, fn.params[j]? = some t → args[j]? = some v → Value.okWide P W .any base t v)
    (hW : DataW.Whole enc P fn.params.toList s.vars false W args.toList ds gs before)
    (walk : ∀ (n : Nat) src l, n < 256 → OctIs W (fun k => k < W.heap.size) l src → Calls P f #[.int .u8 (n : Int), src] W fun e w' => e = .returned (.bool true) ∧ Ch (fun _ => False) W w') :
    Calls P f args W fun e W' => ∃ v, e = .returned v ∧ s.post enc P fn false true false false W args v W' := by
  have hW' := hW
  obtain ⟨p, q, hA0, hV, rfl, hfz, hnd⟩ := hW
  have hA : DataW.TrodAll enc P W 0 (fun _ => true) true fn.params.toList args.toList ds p := hA0
  rw [hpar] at hA hval
  obtain ⟨v0, vs0, d0, ds0, p0, q0, hargs, rfl, rfl, h0, r0⟩ := trodAll_cons hA
  obtain ⟨v1, vs1, d1, ds1, p1, q1, hargs1, rfl, rfl, h1, r1⟩ := trodAll_cons r0
  obtain ⟨rfl, rfl, rfl⟩ := trodAll_nil r1
  subst hargs1
  obtain rfl : args = #[v0, v1] := by cases args; simp_all
  rw [hvars] at hV
  obtain ⟨rfl, rfl⟩ := trodVars_none hV
  obtain ⟨a0, rfl, rfl, rfl, w0⟩ := open_int h8 (hval 0 u8 v0 rfl rfl) h0
  obtain ⟨l, hl⟩ := src_open hsl h8 hc (hval 1 sl v1 rfl rfl) h1
  have hx : 0 ≤ a0 ∧ a0 ≤ 255 := by simpa [Lit.wf, IntKind.min, IntKind.max, IntKind.signed, IntKind.bits] using w0
  obtain ⟨n, rfl⟩ := Int.eq_ofNat_of_zero_le hx.1
  simp only [List.append_nil, List.nil_append] at hW'
  have hlt1 : ∀ x ∈ p1, x.block < W.heap.size := fun x hx => by simpa using hW'.lt x hx
  refine (walk n v1 l (by omega) hl).mono fun e W' ⟨he, hg⟩ => ?_
  subst he
  have hbel : Below W.heap.size W W' := hg.below (Nat.le_refl _) fun _ _ h => h
  have hsp := hs (.lit (.int .u8 (n : Int))) d1
  refine ⟨_, rfl, _, _, _, [], p1, [], hW', ?_, ?_, ?_, hbel.frame _, fun h => by cases h⟩
  · rw [show ([.lit (.int .u8 (n : Int)), d1] ++ [] : List (DataW H)) = [.lit (.int .u8 (n : Int)), d1] from rfl, hsp, hres]
    exact trodAll_mk1 (shut_bool hb _)
  · rw [show ([.lit (.int .u8 (n : Int)), d1] ++ [] : List (DataW H)) = [.lit (.int .u8 (n : Int)), d1] from rfl, hsp, hpar]
    exact trodAll_cons_mk (p := []) (shut_int h8 w0) (trodAll_mk1 (Below.trod hlo hrr hlt h1 hbel hlt1))
  · rw [show ([.lit (.int .u8 (n : Int)), d1] ++ [] : List (DataW H)) = [.lit (.int .u8 (n : Int)), d1] from rfl, hsp, hvars]
    rfl
end Go.Kx
