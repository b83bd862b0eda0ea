/- The check of all fields of a part, and of a function that writes a message. -/
import Derived.Test.YtlmelgjepdbakaaDoorRKxApp3
import Derived.Test.YtlmelgjepdbakaaDoorRKxBytes
namespace Go.Kx
open Go.RowKit
set_option linter.unusedSimpArgs false
set_option linter.unusedVariables false

/-! ### The head of a round: the place, the thing at that place -/
def idxOf (L : List Nat) (ix : Nat) (c : Code) : Option Nat :=
  match canR c with
  | some ⟨[], (i, s) :: b⟩ => if s == 2 * ix && free L ((i, s) :: b) then some i else none
  | _ => none
def elemLoad (P : Program) (L : List Nat) (v i : Nat) (ty : Ty) (c : Code) : Option Nat :=
  match canR c with
  | some ⟨[(.indexAddr t (.tmp v2) (.tmp i2), _), (.load lt (.tmp 1), _)], (u, 3) :: b⟩ => if v2 == 2 * v && i2 == 2 * i && elemSize P t == some ty.size && loadOk P lt ty && free L ((u, 3) :: b) then some u else none
  | _ => none
def elemAddr (P : Program) (L : List Nat) (v i sz : Nat) (c : Code) : Option Nat :=
  match canR c with
  | some ⟨[(.indexAddr t (.tmp v2) (.tmp i2), _)], (u, 1) :: b⟩ => if v2 == 2 * v && i2 == 2 * i && elemSize P t == some sz && free L ((u, 1) :: b) then some u else none
  | _ => none

section
variable {P : Program} {n : Nat} {L : List Nat} {σ : Fm} {w : World} {Q : Exit → Fm → World → Prop} {rest : List Code} {c : Code}

theorem idxOf_sound {ix i : Nat} (h : idxOf L ix c = some i) (hk : ∀ σ', (∀ t ∈ L, σ' t = σ t) → σ' i = σ ix → CWL P n rest σ' w Q) : CWL P n (c :: rest) σ w Q := by
  unfold idxOf at h
  split at h
  · rename_i i' s b hc
    split at h
    · rename_i hh
      simp only [Option.some.injEq] at h
      subst h
      simp only [Bool.and_eq_true, beq_iff_eq] at hh
      obtain ⟨rfl, hfree⟩ := hh
      refine CWL.reg hc ?_
      simp only [RC]
      exact hk _ (fun t ht => by rw [outF_free hfree ht, enF_two]) (by rw [outF_head, enF_two])
    · cases h
  · cases h

theorem elemLoad_sound {v i u : Nat} {ty : Ty} (h : elemLoad P L v i ty c = some u) {S : Nat → Prop} {g N cc j : Nat} {x : V} (hv : σ v = .slice (some ⟨g, 0, none⟩) N cc) (hi : σ i = .int .i64 (j : Int)) (hj : j < N)
    (hx : Is w S g (j * ty.size) ty x) (hk : ∀ σ', (∀ t ∈ L, σ' t = σ t) → (∃ cs, Rep w S ty x cs ∧ σ' u = ldv ty cs) → CWL P n rest σ' w Q) : CWL P n (c :: rest) σ w Q := by
  unfold elemLoad at h
  split at h
  · rename_i t v2 i2 ty1 lt ty2 u' b hc
    split at h
    · rename_i hh
      simp only [Option.some.injEq] at h
      subst h
      simp only [Bool.and_eq_true, beq_iff_eq] at hh
      obtain ⟨⟨⟨⟨rfl, rfl⟩, hs⟩, hlo⟩, hfree⟩ := hh
      refine CWL.reg hc (OpK.indexAddr hs (k := .i64) (j := j) (by simp only [ev_tmp, enF_two]; exact hv) (by simp only [ev_tmp, enF_two]; exact hi) hj ?_)
      refine OpK.loadKind hlo (S := S) (g := g) (o := j * ty.size) (v := x) (by simp [upd, add_at]) hx fun cs hr => ?_
      refine hk _ (fun t ht => ?_) ⟨cs, hr, by rw [outF_head]; simp [upd]⟩
      rw [outF_free hfree ht, upd_odd _ _ _ _ (by omega), upd_odd _ _ _ _ (by omega), enF_two]
    · cases h
  · cases h

theorem elemAddr_sound {v i u sz : Nat} (h : elemAddr P L v i sz c = some u) {g N cc j : Nat} (hv : σ v = .slice (some ⟨g, 0, none⟩) N cc) (hi : σ i = .int .i64 (j : Int)) (hj : j < N)
    (hk : ∀ σ', (∀ t ∈ L, σ' t = σ t) → σ' u = .pointer (some ⟨g, j * sz, none⟩) → CWL P n rest σ' w Q) : CWL P n (c :: rest) σ w Q := by
  unfold elemAddr at h
  split at h
  · rename_i t v2 i2 ty1 u' b hc
    split at h
    · rename_i hh
      simp only [Option.some.injEq] at h
      subst h
      simp only [Bool.and_eq_true, beq_iff_eq] at hh
      obtain ⟨⟨⟨rfl, rfl⟩, hs⟩, hfree⟩ := hh
      refine CWL.reg hc (OpK.indexAddr hs (k := .i64) (j := j) (by simp only [ev_tmp, enF_two]; exact hv) (by simp only [ev_tmp, enF_two]; exact hi) hj ?_)
      simp only [RC]
      refine hk _ (fun t ht => ?_) (by rw [outF_head]; simp [upd, add_at])
      rw [outF_free hfree ht, upd_odd _ _ _ _ (by omega), enF_two]
    · cases h
  · cases h
end

/-! ### One octet is written -/
def isOct (P : Program) (e t : TypeId) : Bool := match P.underlying t with | some (.slice e') => e' == e | _ => false
theorem isOct_spec {P : Program} {e t : TypeId} (h : isOct P e t = true) : P.underlying t = some (.slice e) := by
  unfold isOct at h
  split at h
  · rename_i e' he
    rw [he, beq_iff_eq.1 h]
  · cases h

theorem asApp_spec {op : Op} {x y : Operand} {t u : TypeId} (h : asApp op = some (x, y, t, u)) : op = .call ⟨.builtin .append, #[x, y], #[t, u]⟩ := by
  unfold asApp at h
  split at h
  · rename_i args ats
    split at h
    · rename_i x' y' t' u' h1 h2
      simp only [Option.some.injEq, Prod.mk.injEq] at h
      obtain ⟨rfl, rfl, rfl, rfl⟩ := h
      rw [arr_of_list h1, arr_of_list h2]
    · cases h
  · cases h

def octOf (P : Program) (e : TypeId) (L : List Nat) (dst : Nat) (m : UInt8) (c : Code) : Bool :=
  match canR c with
  | some ⟨[(.buildSlice t 1 parts, _), (o2, _)], (d, 3) :: b⟩ => match asApp o2, parts.toList with
    | some (.tmp d2, .tmp 1, t1, t2), [(0, .const (.int .u8 m'))] => d2 == 2 * dst && d == dst && m' == (m.toNat : Int) && isOct P e t && isOct P e t1 && t1 == t2 && free L ((d, 3) :: b)
    | _, _ => false
  | _ => false

theorem octOf_step {P : Program} {n : Nat} {e : TypeId} {w0 : World} {d0 : Value} {L : List Nat} {dst : Nat} {m : UInt8} {c : Code} {rest : List Code} {Pre : Fm → Prop} (he : U8 P e) (h : octOf P e L dst m c = true) :
    Step P n e w0 d0 dst L Pre (c :: rest) rest [m] := by
  intro σ w bs Q hp hg hl hk
  unfold octOf at h
  split at h
  · rename_i t parts ty1 o2 ty2 d b hcan
    split at h
    · rename_i d2 t1 t2 m' happ hparts
      simp only [Bool.and_eq_true, beq_iff_eq] at h
      obtain ⟨⟨⟨⟨⟨⟨rfl, rfl⟩, rfl⟩, ht⟩, ht1⟩, rfl⟩, hfree⟩ := h
      have hsl := isOct_spec ht
      have hsl1 := isOct_spec ht1
      obtain rfl := asApp_spec happ
      obtain rfl := arr_of_list hparts
      refine CWL.reg hcan (OpK.buildS (by simp only [List.map_toArray, List.map_cons, List.map_nil, ev_const]; exact run_bs1 (P := P) (w := w) hsl he (m.toNat : Int)) ?_)
      obtain ⟨v', w', hr, hg'⟩ := append_lit (ty := ty2) hsl1 he hg.own [m] hl
      refine OpK.run rfl (v := v') (w' := w') ?_ ?_
      · simp only [ev_tmp, upd_odd _ _ _ _ (show (2 * 0 + 1) % 2 = 1 by omega), enF_two]
        simpa [upd, bv] using hr
      · refine hk _ w' ?_ fun t ht => ?_
        · rw [outF_head]; simpa [upd] using hg.trans hg'
        · rw [outF_free hfree ht]
          show upd _ (some 3) _ (2 * t) = _
          rw [upd_odd _ _ _ _ (by omega)]
          show upd _ (some 1) _ (2 * t) = _
          rw [upd_odd _ _ _ _ (by omega), enF_two]
    · cases h
  · cases h

/-! ### Is a part null? -/
def isPtr (P : Program) (t : TypeId) : Bool := match P.underlying t with | some (.pointer _) => true | _ => false
theorem isPtr_spec {P : Program} {t : TypeId} (h : isPtr P t = true) : ∃ e, P.underlying t = some (.pointer e) := by
  unfold isPtr at h
  split at h
  · rename_i e he; exact ⟨e, he⟩
  · cases h

def nilOf (P : Program) (L : List Nat) (v : Nat) (cs : List Code) : Option (Code × Code × List Code) :=
  match cs with
  | c :: .cond (.tmp tc') A B :: rest => match canR c with
    | some ⟨[(.binOp .eql t (.tmp v2) (.const (.pointer none)) _, _)], (tc, 1) :: b⟩ => if v2 == 2 * v && tc == tc' && isPtr P t && free L ((tc, 1) :: b) then some (A, B, rest) else none
    | _ => none
  | _ => none

theorem nilOf_sound {P : Program} {n : Nat} {L : List Nat} {v : Nat} {cs rest : List Code} {A B : Code} (h : nilOf P L v cs = some (A, B, rest)) {σ : Fm} {w : World} {Q : Exit → Fm → World → Prop} {a : Option Addr}
    (hv : σ v = .pointer a) (hk : ∀ σ', (∀ t ∈ L, σ' t = σ t) → CWL P n (flat (if a.isNone then A else B)) σ' w (Then (fun σ' w' => CWL P n rest σ' w' Q) Q)) : CWL P n cs σ w Q := by
  unfold nilOf at h
  split at h
  · rename_i c tc' A' B' rest'
    split at h
    · rename_i t v2 u ty tc b hcan
      split at h
      · rename_i hh
        simp only [Option.some.injEq, Prod.mk.injEq] at h
        obtain ⟨rfl, rfl, rfl⟩ := h
        simp only [Bool.and_eq_true, beq_iff_eq] at hh
        obtain ⟨⟨⟨rfl, rfl⟩, ht⟩, hfree⟩ := hh
        obtain ⟨e, he⟩ := isPtr_spec ht
        refine CWL.reg hcan (OpK.eqNilPtr he (by simp only [ev_tmp, enF_two]; exact hv) rfl ?_)
        simp only [RC]
        refine CWL.cons (CW.cond (t := a.isNone) (by simp only [ev_tmp, outF_head]; simp [upd]) (CW.of_flat (hk _ fun t ht => ?_)))
        rw [outF_free hfree ht, upd_odd _ _ _ _ (by omega), enF_two]
      · cases h
    · cases h
  · cases h

/-! ### Tags -/
def isU32 (P : Program) (t : TypeId) : Bool := match P.underlying t with | some (.int .u32) => true | _ => false
theorem isU32_spec {P : Program} {t : TypeId} (h : isU32 P t = true) : P.underlying t = some (.int .u32) := by
  unfold isU32 at h
  split at h
  · assumption
  · cases h

def tagLen (P : Program) (tab : List (Nat × Ap)) (L : List Nat) (dst p : Nat) (T : Ty) (k : Nat) (c : Code) : Bool :=
  match canR c, T.fld k with
  | some ⟨[(.nilCheck (.tmp p2), _), (.fieldAddr tid (.tmp 1) k', _), (o1, _), (.convert st dt (.tmp 5), _), (.binOp .add _ (.const (.int .u32 0)) (.tmp 7) _, _), (o2, _)], (d, 11) :: b⟩, some (.tags, off) =>
    match asCall o1, asCall o2 with
    | some (f1, [.tmp 3]), some (f2, [.tmp d2, .tmp 9]) => p2 == 2 * p && fieldOff P tid k' == some off && d2 == 2 * dst && d == dst && (P.underlying st).isSome && isU32 P dt && apAt tab f1 == some .tlen && apAt tab f2 == some .uv && free L ((d, 11) :: b)
    | _, _ => false
  | _, _ => false

def tagEach (P : Program) (tab : List (Nat × Ap)) (L : List Nat) (dst p : Nat) (T : Ty) (k : Nat) (c : Code) : Bool :=
  match canR c, T.fld k with
  | some ⟨[(.nilCheck (.tmp p2), _), (.fieldAddr tid (.tmp 1) k', _), (o1, _)], (d, 5) :: b⟩, some (.tags, off) =>
    match asCall o1 with
    | some (f1, [.tmp 3, .tmp d2]) => p2 == 2 * p && fieldOff P tid k' == some off && d2 == 2 * dst && d == dst && apAt tab f1 == some .teach && free L ((d, 5) :: b)
    | _ => false
  | _, _ => false

section
variable {P : Program} {n : Nat} {e : TypeId} {w0 : World} {d0 : Value} {S : Nat → Prop} {full : Bool} {tab : List (Nat × Ap)} {L : List Nat} {dst p : Nat} {T : Ty} {k g o : Nat} {v : V} {c : Code} {rest : List Code}

theorem tagLen_step (hft : full = true ∨ (v.fld k).tagsOf = []) (hs : Sound P e full tab) (hS : Clear w0 S d0) (hi : Is w0 S g o T v) (hg : S g) (h : tagLen P tab L dst p T k c = true) :
    Step P n e w0 d0 dst L (fun σ => σ p = .pointer (some ⟨g, o, none⟩)) (c :: rest) rest (uvar (word (v.fld k).tagsOf.length)) := by
  intro σ w bs Q hp hgr hl hk
  unfold tagLen at h
  split at h
  · rename_i p2 ty1 tid k' ty2 o1 ty3 st dt ty4 t5 t6 ty5 o2 ty6 d b off hcan hf
    split at h
    · rename_i f1 f2 d2 h1 h2
      simp only [Bool.and_eq_true, beq_iff_eq] at h
      obtain ⟨⟨⟨⟨⟨⟨⟨⟨rfl, hoff⟩, rfl⟩, rfl⟩, hst⟩, hdt⟩, hf1⟩, hf2⟩, hfree⟩ := h
      obtain ⟨hc1, ho1⟩ := hs.ok _ _ hf1
      obtain ⟨hc2, ho2⟩ := hs.ok _ _ hf2
      have hi' := (hi.fld hf).keep (hS.keep hgr) hg
      refine CWL.reg hcan ?_
      refine OpK.nilCheck (a := ⟨g, o, none⟩) (by simp only [ev_tmp, enF_two]; exact hp) ?_
      refine OpK.fieldAddr hoff (a := ⟨g, o, none⟩) (by simp [upd]) ?_
      refine OpK.asCall h1 hc1 rfl ?_
      have hcall := ho1 w S g (o + off) (v.fld k) hft hi'
      simp only [List.map_cons, List.map_nil, ev_tmp, upd_same, add_at, Nat.mul_zero, Nat.zero_add, Nat.mul_one, Nat.reduceAdd]
      refine hcall.mono fun en w1 ⟨he, hw⟩ => ⟨_, he, ?_⟩
      subst hw
      refine OpK.convInt (k := .i64) (n := ((v.fld k).tagsOf.length : Int)) hst (isU32_spec hdt) (by simp [upd]) ?_
      refine OpK.arith (op := .add) (k := .u32) (a := 0) (b := IntKind.u32.wrap ((v.fld k).tagsOf.length : Int)) rfl rfl (by simp [upd]) ?_
      refine OpK.asCall h2 hc2 rfl ?_
      have hw0 : IntKind.u32.wrap (0 + IntKind.u32.wrap ((v.fld k).tagsOf.length : Int)) = (word (v.fld k).tagsOf.length : Int) := by
        rw [IntKind.wrap_u32, IntKind.wrap_u32]
        unfold word
        omega
      have hcall2 := ho2 w1 (word (v.fld k).tagsOf.length) (σ d) bs (by unfold word; omega) hgr.own hl
      simp only [List.map_cons, List.map_nil, ev_tmp, hw0]
      have hd : ∀ (ρ : Fm), (∀ t, ρ (2 * t) = σ t) → ρ (2 * d) = σ d := fun ρ h => h d
      have harg : upd (upd (upd (upd (upd (enF σ) (some 1) (Value.pointer (some ⟨g, o, none⟩))) (some 3) (Value.pointer (some ⟨g, o + off, none⟩))) (some 5) (Value.int IntKind.i64 ↑(v.fld k).tagsOf.length))
          (some 7) (Value.int IntKind.u32 (IntKind.u32.wrap ↑(v.fld k).tagsOf.length))) (some 9) (Value.int IntKind.u32 ↑(word (v.fld k).tagsOf.length)) (2 * d) = σ d := by
        rw [upd_odd _ _ _ _ (by omega), upd_odd _ _ _ _ (by omega), upd_odd _ _ _ _ (by omega), upd_odd _ _ _ _ (by omega), upd_odd _ _ _ _ (by omega), enF_two]
      simp only [Nat.mul_zero, Nat.zero_add, Nat.mul_one, Nat.reduceAdd, Nat.reduceMul] at harg ⊢
      rw [harg, upd_same]
      refine hcall2.mono fun en w2 ⟨d', he2, hg2⟩ => ⟨d', he2, hk _ w2 ?_ fun t ht => ?_⟩
      · rw [outF_head, upd_same]
        exact hgr.trans hg2
      · rw [outF_free hfree ht, upd_odd _ _ _ _ (by omega), upd_odd _ _ _ _ (by omega), upd_odd _ _ _ _ (by omega), upd_odd _ _ _ _ (by omega), upd_odd _ _ _ _ (by omega), upd_odd _ _ _ _ (by omega), enF_two]
    · cases h
  · cases h

theorem tagEach_step (hft : full = true ∨ (v.fld k).tagsOf = []) (hs : Sound P e full tab) (hS : Clear w0 S d0) (hi : Is w0 S g o T v) (hg : S g) (h : tagEach P tab L dst p T k c = true) :
    Step P n e w0 d0 dst L (fun σ => σ p = .pointer (some ⟨g, o, none⟩)) (c :: rest) rest (encEach (v.fld k).tagsOf) := by
  intro σ w bs Q hp hgr hl hk
  unfold tagEach at h
  split at h
  · rename_i p2 ty1 tid k' ty2 o1 ty3 d b off hcan hf
    split at h
    · rename_i f1 d2 h1
      simp only [Bool.and_eq_true, beq_iff_eq] at h
      obtain ⟨⟨⟨⟨⟨rfl, hoff⟩, rfl⟩, rfl⟩, hf1⟩, hfree⟩ := h
      obtain ⟨hc1, ho1⟩ := hs.ok _ _ hf1
      have hi' := (hi.fld hf).keep (hS.keep hgr) hg
      refine CWL.reg hcan ?_
      refine OpK.nilCheck (a := ⟨g, o, none⟩) (by simp only [ev_tmp, enF_two]; exact hp) ?_
      refine OpK.fieldAddr hoff (a := ⟨g, o, none⟩) (by simp [upd]) ?_
      refine OpK.asCall h1 hc1 rfl ?_
      have hcall := ho1 w S g (o + off) (v.fld k) (σ d) bs hft hi' hg hgr.own (hS.step hgr) hl
      simp only [List.map_cons, List.map_nil, ev_tmp, upd_same, add_at, Nat.mul_zero, Nat.zero_add, Nat.mul_one, Nat.reduceAdd]
      rw [show upd (upd (enF σ) (some 1) (Value.pointer (some ⟨g, o, none⟩))) (some 3) (Value.pointer (some ⟨g, o + off, none⟩)) (2 * d) = σ d by
        rw [upd_odd _ _ _ _ (by omega), upd_odd _ _ _ _ (by omega), enF_two]]
      refine hcall.mono fun en w2 ⟨d', he2, hg2⟩ => ⟨d', he2, hk _ w2 ?_ fun t ht => ?_⟩
      · rw [outF_head, upd_same]
        exact hgr.trans hg2
      · rw [outF_free hfree ht, upd_odd _ _ _ _ (by omega), upd_odd _ _ _ _ (by omega), upd_odd _ _ _ _ (by omega), enF_two]
    · cases h
  · cases h
end

end Go.Kx
