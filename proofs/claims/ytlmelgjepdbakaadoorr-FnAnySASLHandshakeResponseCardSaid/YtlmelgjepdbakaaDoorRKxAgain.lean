/- What the thin package does with a message: a new one, its version, read, written. -/
import Derived.Test.YtlmelgjepdbakaaDoorRKxTg
namespace Go.Kx
open Go.RowKit
set_option linter.unusedSimpArgs false
set_option linter.unusedVariables false

/-! ### A store where no reader is near -/
theorem storeB_sound {P : Program} {n : Nat} {L : List Nat} {p k vs : Nat} {T ty : Ty} {c : Code} (h : storeOf P L p T k ty c = some vs) {rest : List Code} {σ : Fm} {w : World} {Q : Exit → Fm → World → Prop} {S : Nat → Prop} {g o : Nat} {tG : TypeId} {v : V} {cells : List Value}
    (hp : σ p = .pointer (some ⟨g, o, none⟩)) (hb : Blk w g tG cells) (hr : Rep w S T v ((cells.drop o).take T.size)) (hl : o + T.size ≤ cells.length) (hg : ¬ S g) {u : V} {cu : List Value} (hu : Rep w S ty u cu) (hv : Sv cu (σ vs))
    (hk : ∀ σ' w' c', Blk w' g tG (spl cells o c') → Rep w' S T (v.put k u) c' → Ch (fun k => k = g) w w' → (∀ t ∈ L, σ' t = σ t) → CWL P n rest σ' w' Q) : CWL P n (c :: rest) σ w Q := by
  unfold storeOf at h
  split at h
  · rename_i p2 ty1 tid k' ty2 st v2 ty3 b hc
    split at h
    · rename_i ty' off hf
      split at h
      · rename_i hh
        simp only [Option.some.injEq] at h
        subst h
        simp only [Bool.and_eq_true, beq_iff_eq, decide_eq_true_eq] at hh
        obtain ⟨⟨⟨⟨⟨rfl, hoff⟩, rfl⟩, h2⟩, hst⟩, hfree⟩ := hh
        obtain ⟨vs, rfl⟩ : ∃ vs, v2 = 2 * vs := ⟨v2 / 2, by have := Nat.div_add_mod v2 2; rw [h2] at this; exact this.symm⟩
        have hvs : 2 * vs / 2 = vs := Nat.mul_div_cancel_left vs (by decide)
        rw [hvs] at hv
        obtain ⟨_, _, _, _, hbd⟩ := hr.fld hf
        have hsz := hr.size
        have hcu := hu.size
        refine CWL.reg hc ?_
        refine OpK.nilCheck (a := ⟨g, o, none⟩) (by simp only [ev_tmp, enF_two]; exact hp) ?_
        refine OpK.fieldAddr hoff (a := ⟨g, o, none⟩) (by simp [upd]) ?_
        refine OpK.storeV (c := cu) (v := σ vs) (g := g) (o := o + off) (tG := tG) (cells := cells) (by rw [hst, hcu]) (by simp [upd, add_at]) ?_ hv (rep_one hu) hb (by omega) ?_
        · simp only [ev_tmp, Nat.mul_zero, Nat.zero_add, Nat.mul_one, Nat.reduceAdd, Nat.reduceMul]
          rw [upd_odd _ _ _ _ (by omega), upd_odd _ _ _ _ (by omega), enF_two]
        · simp only [RC]
          have hb2 := hb.setCells cu (o + off) (by omega)
          have hk2 : ∀ k, S k → (w.setCells g (o + off) cu).heap[k]? = w.heap[k]? := fun k hS => setCells_heap g _ _ _ _ fun e => hg (e ▸ hS)
          refine hk _ _ (spl ((cells.drop o).take T.size) off cu) ?_ ((hr.put hf hu).keep hk2) (setCells_ch _ _ _ _) fun t ht => ?_
          · have e : spl cells o (spl ((cells.drop o).take T.size) off cu) = spl cells (o + off) cu := by
              have hl2 : (spl ((cells.drop o).take T.size) off cu).length = T.size := by rw [spl_len (by omega)]; exact hsz
              apply List.ext_getElem?
              intro i
              rw [spl_get (by omega), spl_get (by omega), spl_get (by omega), hl2, List.getElem?_take, List.getElem?_drop]
              by_cases h1 : i < o
              · rw [if_pos h1, if_pos (show i < o + off by omega)]
              · rw [if_neg h1]
                by_cases h3 : i < o + T.size
                · rw [if_pos h3]
                  by_cases h4 : i - o < off
                  · rw [if_pos h4, if_pos (show i - o < T.size by omega), if_pos (show i < o + off by omega)]
                    congr 1; omega
                  · rw [if_neg h4, if_neg (show ¬ i < o + off by omega)]
                    by_cases h5 : i - o < off + cu.length
                    · rw [if_pos h5, if_pos (show i < o + off + cu.length by omega)]
                      congr 1; omega
                    · rw [if_neg h5, if_neg (show ¬ i < o + off + cu.length by omega), if_pos (show i - o < T.size by omega)]
                      congr 1; omega
                · rw [if_neg h3, if_neg (show ¬ i < o + off by omega), if_neg (show ¬ i < o + off + cu.length by omega)]
            rw [e]
            exact hb2
          · rw [outF_free hfree ht, upd_odd _ _ _ _ (by omega), upd_odd _ _ _ _ (by omega), upd_odd _ _ _ _ (by omega), enF_two]
      · cases h
    · cases h
  · cases h
end Go.Kx
namespace Go.Kx
open Go.RowKit
set_option linter.unusedSimpArgs false
set_option linter.unusedVariables false

/-! ### A new message -/
def allocOf (P : Program) (T : Ty) (c : Code) : Option (Nat × TypeId) :=
  match canR c with
  | some ⟨[(.alloc t, _)], (a, 1) :: _⟩ => match P.info? t with
    | some i => match i.zero with
      | some z => if cellsEq z.cells.toList (zeroC T) then some (a, t) else none
      | none => none
    | none => none
  | _ => none
theorem allocOf_sound {P : Program} {n : Nat} {T : Ty} {c : Code} {a : Nat} {t : TypeId} (h : allocOf P T c = some (a, t)) {rest : List Code} {σ : Fm} {w : World} {Q : Exit → Fm → World → Prop}
    (hk : ∀ σ', σ' a = .pointer (some ⟨w.heap.size, 0, none⟩) → CWL P n rest σ' (w.alloc (.cells (zeroC T).toArray t)) Q) : CWL P n (c :: rest) σ w Q := by
  unfold allocOf at h
  split at h
  · rename_i t' ty a' b hc
    split at h
    · rename_i i hi
      split at h
      · rename_i z hz
        split at h
        · rename_i hcells
          simp only [Option.some.injEq, Prod.mk.injEq] at h
          obtain ⟨rfl, rfl⟩ := h
          have hzc : z.cells = (zeroC T).toArray := by apply Array.ext'; rw [cellsEq_eq hcells]
          refine CWL.reg hc (OpK.allocArr hi hz ?_)
          rw [hzc]
          exact hk _ (by rw [outF_head]; simp [upd])
        · cases h
      · cases h
    · cases h
  · cases h

/-- 'v.Default()', where no reader is near. -/
def dfltB (P : Program) (tab : List (Nat × Rf)) (L : List Nat) (u : Nat) (T : Ty) (c : Code) : Option (List (Nat × V)) := dfltOf ⟨P, 0, tab, 0, .nilIface, 0, ⟨0, none, 0⟩, 0⟩ L u T c
theorem dfltB_sound {P : Program} {n : Nat} {tab : List (Nat × Rf)} {gE : Nat} {eV : Value} (hX : ∀ f a, rfAt tab f = some a → Callable P f ∧ RfOk P gE eV f a) {L : List Nat} {u : Nat} {T : Ty} {ps : List (Nat × V)} {c : Code} (h : dfltB P tab L u T c = some ps)
    {rest : List Code} {σ : Fm} {w : World} {Q : Exit → Fm → World → Prop} {S : Nat → Prop} {g o : Nat} {tG : TypeId} {v : V} {cells : List Value}
    (hu : σ u = .pointer (some ⟨g, o, none⟩)) (hb : Blk w g tG cells) (hr : Rep w S T v ((cells.drop o).take T.size)) (hl : o + T.size ≤ cells.length) (hg : ¬ S g)
    (hk : ∀ σ' w' c', Blk w' g tG (spl cells o c') → Rep w' S T (v.puts ps) c' → Ch (fun k => k = g) w w' → (∀ t ∈ L, σ' t = σ t) → CWL P n rest σ' w' Q) : CWL P n (c :: rest) σ w Q := by
  unfold dfltB dfltOf at h
  split at h
  · rename_i op ty b hc
    split at h
    · rename_i f u2 hop
      split at h
      · rename_i T' ps' htab
        split at h
        · rename_i hh
          simp only [Option.some.injEq] at h
          subst h
          simp only [Bool.and_eq_true, beq_iff_eq, decide_eq_true_eq] at hh
          obtain ⟨⟨rfl, rfl⟩, hfree⟩ := hh
          obtain ⟨hcall, hrf⟩ := hX f _ htab
          refine CWL.reg hc (OpK.asCall hop hcall rfl ?_)
          simp only [List.map_cons, List.map_nil, ev_tmp, enF_two, hu]
          refine (hrf w S g o tG cells v hb hr hl hg).mono fun en w' ⟨he, c', hb', hr', hc'⟩ => ⟨_, he, ?_⟩
          refine hk _ w' c' hb' hr' hc' fun t ht => ?_
          rw [outF_free hfree ht, upd_odd _ _ _ _ (by omega), enF_two]
        · cases h
      · cases h
    · cases h
  · cases h

def chkNp (P : Program) (tab : List (Nat × Rf)) (fn : Func) (T : Ty) : Option (TypeId × List (Nat × V)) :=
  match fn.body, resTmp fn with
  | some c, some res => if fits fn.ntmps c && wfT T then match flat c with
    | [c0, c1, c2, c3, .ret] => if isIdle [] c0 then match allocOf P T c1 with
      | some (a, t) => match dfltB P tab [a] a T c2, canR c3 with
        | some ps, some ⟨[], (r', s) :: _⟩ => if r' == res && s == 2 * a then some (t, ps) else none
        | _, _ => none
      | none => none
      else none
    | _ => none
    else none
  | _, _ => none

theorem chkNp_calls {P : Program} {tab : List (Nat × Rf)} {gE : Nat} {eV : Value} (hX : ∀ f a, rfAt tab f = some a → Callable P f ∧ RfOk P gE eV f a) {f : FuncId} {fn : Func} {T : Ty} {t : TypeId} {ps : List (Nat × V)} (hf : P.funcs[f]? = some fn) (h : chkNp P tab fn T = some (t, ps)) (w : World) :
    Calls P f #[] w fun en w' => ∃ cells, en = .returned (.pointer (some ⟨w.heap.size, 0, none⟩)) ∧ Blk w' w.heap.size t cells ∧ cells.length = T.size ∧ Rep w' (fun _ => False) T ((zeroV T).puts ps) cells ∧ Ch (fun _ => False) w w' := by
  unfold chkNp at h
  split at h
  · rename_i c res hbody hres
    split at h
    · rename_i hh
      simp only [Bool.and_eq_true] at hh
      split at h
      · rename_i c0 c1 c2 c3 hflat
        split at h
        · rename_i h0
          split at h
          · rename_i a t' hal
            split at h
            · rename_i ps' r' s b hdf hc3
              split at h
              · rename_i hrs
                simp only [Option.some.injEq, Prod.mk.injEq] at h
                obtain ⟨rfl, rfl⟩ := h
                simp only [Bool.and_eq_true, beq_iff_eq] at hrs
                obtain ⟨rfl, rfl⟩ := hrs
                refine (Calls.of_CW hf hbody hh.1 (by simp) (CW.of_flat ?_) (R := fun x w' => ∃ cells, x = .pointer (some ⟨w.heap.size, 0, none⟩) ∧ Blk w' w.heap.size t' cells ∧ cells.length = T.size ∧ Rep w' (fun _ => False) T ((zeroV T).puts ps') cells ∧ Ch (fun _ => False) w w')).mono fun en w' ⟨x, he, cells, hx, hR⟩ => ⟨cells, by rw [he, hx], hR⟩
                rw [hflat]
                refine CWL.idle h0 fun σ0 he0 => ?_
                refine allocOf_sound hal fun σ1 ha1 => ?_
                have hb1 := Blk.new w t' (zeroC T)
                have hlz := zeroC_len T
                refine dfltB_sound hX hdf (S := fun _ => False) (v := zeroV T) (o := 0) ha1 hb1 (by rw [List.drop_zero, List.take_of_length_le (by omega)]; exact rep_zero _ _ _ hh.2) (by omega) (fun h => h) fun σ2 w2 c' hb2 hr2 hc2 he2 => ?_
                refine CWL.reg hc3 ?_
                simp only [RC]
                refine CWL.ret ?_
                simp only [Ends]
                unfold resTmp at hres
                split at hres
                · rename_i t ht
                  simp only [Option.some.injEq] at hres
                  subst hres
                  have hcl := hr2.size
                  refine ⟨_, by simp only [resOf, ht]; rfl, c', ?_, ?_, hcl, hr2, ?_⟩
                  · rw [outF_head, enF_two, he2 a (by simp), ha1]
                  · rw [← splice_all (cs := zeroC T) (c := c') (by omega)]
                    exact hb2
                  · exact (Ch.alloc (fun _ => False) w _).trans hc2 fun i hi e => by omega
                · cases hres
              · cases h
            · cases h
          · cases h
        · cases h
      · cases h
    · cases h
  · cases h

/-! ### Its version -/
def chkSv (P : Program) (fn : Func) (T : Ty) : Bool :=
  match fn.body with
  | some c => fits fn.ntmps c && Nat.ble 2 fn.ntmps && fn.results.toList.isEmpty && match flat c with
    | [c0] => storeOf P [] 0 T 0 (.int .i16) c0 == some 1
    | _ => false
  | none => false
theorem chkSv_calls {P : Program} {f : FuncId} {fn : Func} {T : Ty} (hf : P.funcs[f]? = some fn) (h : chkSv P fn T = true) {w : World} {S : Nat → Prop} {g o : Nat} {tG : TypeId} {v : V} {cells : List Value} {ver : Int}
    (hb : Blk w g tG cells) (hr : Rep w S T v ((cells.drop o).take T.size)) (hl : o + T.size ≤ cells.length) (hg : ¬ S g) (hw : IntKind.i16.wrap ver = ver) :
    Calls P f #[.pointer (some ⟨g, o, none⟩), .int .i16 ver] w fun en w' => en = .returned (.tuple #[]) ∧ ∃ c', Blk w' g tG (spl cells o c') ∧ Rep w' S T (v.put 0 (.i ver)) c' ∧ Ch (fun k => k = g) w w' := by
  unfold chkSv at h
  split at h
  · rename_i c hbody
    simp only [Bool.and_eq_true, List.isEmpty_iff] at h
    obtain ⟨⟨⟨hfit, hn⟩, hres⟩, h⟩ := h
    split at h
    · rename_i c0 hflat
      rw [beq_iff_eq] at h
      refine (Calls.of_CW hf hbody hfit (by simpa using hn) (CW.of_flat ?_) (R := fun x w' => x = .tuple #[] ∧ ∃ c', Blk w' g tG (spl cells o c') ∧ Rep w' S T (v.put 0 (.i ver)) c' ∧ Ch (fun k => k = g) w w')).mono fun en w' ⟨x, he, hx, hR⟩ => ⟨by rw [he, hx], hR⟩
      rw [hflat]
      refine storeB_sound h rfl hb hr hl hg (u := .i ver) (cu := [.int .i16 ver]) ⟨rfl, hw⟩ (.inr rfl) fun σ' w' c' h1 h2 h3 _ => ?_
      refine CWL.nil_ ?_
      simp only [Ends]
      exact ⟨.tuple #[], by unfold resOf; rw [hres], rfl, c', h1, h2, h3⟩
    · cases h
  · cases h

/-! ### It is read -/
def chkRF (fn : Func) (rf : FuncId) : Bool :=
  match fn.body, resTmp fn with
  | some c, some res => fits fn.ntmps c && Nat.ble 2 fn.ntmps && match flat c with
    | [c0, c1, .ret] => isIdle [0, 1] c0 && match canR c1 with
      | some ⟨[(op, _)], (r', 1) :: _⟩ => match asCall op with
        | some (f, [.tmp 0, .tmp 2, .const (.bool false)]) => f == rf && r' == res
        | _ => false
      | _ => false
    | _ => false
  | _, _ => false
theorem chkRF_calls {P : Program} {f rf : FuncId} {fn : Func} (hf : P.funcs[f]? = some fn) (h : chkRF fn rf = true) (hc : Callable P rf) {w : World} {p src : Value} {R : Value → World → Prop}
    (hr : Calls P rf #[p, src, .bool false] w fun en w' => ∃ x, en = .returned x ∧ R x w') : Calls P f #[p, src] w fun en w' => ∃ x, en = .returned x ∧ R x w' := by
  unfold chkRF at h
  split at h
  · rename_i c res hbody hres
    simp only [Bool.and_eq_true] at h
    obtain ⟨⟨hfit, hn⟩, h⟩ := h
    split at h
    · rename_i c0 c1 hflat
      simp only [Bool.and_eq_true] at h
      obtain ⟨h0, h⟩ := h
      split at h
      · rename_i op ty r' b hcan
        split at h
        · rename_i f' hop
          simp only [Bool.and_eq_true, beq_iff_eq] at h
          obtain ⟨rfl, rfl⟩ := h
          refine Calls.of_CW hf hbody hfit (by simpa using hn) (CW.of_flat ?_)
          rw [hflat]
          refine CWL.idle h0 fun σ0 he0 => ?_
          have e0 : σ0 0 = p := (he0 0 (by simp)).trans rfl
          have e1 : σ0 1 = src := (he0 1 (by simp)).trans rfl
          refine CWL.reg hcan (OpK.asCall hop hc rfl ?_)
          simp only [List.map_cons, List.map_nil, ev_tmp, ev_const]
          rw [show enF σ0 0 = p from (enF_two σ0 0).trans e0, show enF σ0 2 = src from (enF_two σ0 1).trans e1]
          refine hr.mono fun en w' ⟨x, he, hR⟩ => ⟨x, he, ?_⟩
          refine CWL.ret ?_
          simp only [Ends]
          unfold resTmp at hres
          split at hres
          · rename_i t ht
            simp only [Option.some.injEq] at hres
            subst hres
            refine ⟨_, by simp only [resOf, ht]; rfl, ?_⟩
            rw [outF_head]
            simpa [upd] using hR
          · cases hres
        · cases h
      · cases h
    · cases h
  · cases h
end Go.Kx
namespace Go.Kx
open Go.RowKit
set_option linter.unusedSimpArgs false
set_option linter.unusedVariables false
theorem run_eqIn_nilIface {P : Program} {t : TypeId} {ms : Array (String × TypeId)} (w : World) (d : Nat) (ht : P.underlying t = some (.interface ms)) : (Op.equalIn (d + 1) t .nilIface .nilIface).run P w = .ok true w := by
  simp [Op.equalIn, run_underlying ht]
theorem run_eqIn_iface {P : Program} {t : TypeId} {ms : Array (String × TypeId)} (w : World) (d : Nat) (ht : P.underlying t = some (.interface ms)) (t' : TypeId) (y : Value) : (Op.equalIn (d + 1) t (.iface t' y) .nilIface).run P w = .ok false w := by
  simp [Op.equalIn, run_underlying ht]
theorem OpK.neqNilIface {P : Program} {ρ : Operand → Value} {w : World} {K : Value → World → Prop} {d : Option Tmp} {ty : TypeId} {pos : String} {af : Array Edge} {gd : Option (Nat × Bool)} {x : Operand} {t u : TypeId} {v : Value} {b : Bool} {ms : Array (String × TypeId)}
    (ht : P.underlying t = some (.interface ms)) (hx : ρ x = v) (hn : ρ (.const .nilIface) = .nilIface) (hv : (v = .nilIface ∧ b = false) ∨ (∃ t y, v = .iface t y) ∧ b = true) (h : K (.bool b) w) : OpK P ρ ⟨d, .binOp .neq t x (.const .nilIface) u, ty, pos, af, gd⟩ w K := by
  rcases hv with ⟨rfl, rfl⟩ | ⟨⟨t', y, rfl⟩, rfl⟩
  · have hr : (Op.equal t .nilIface .nilIface).run P w = .ok true w := run_eqIn_nilIface w 9999 ht
    simp [OpK, execOp, hx, hn, eqGuard, binOp, hr, After]
    exact h
  · have hr : (Op.equal t (.iface t' y) .nilIface).run P w = .ok false w := run_eqIn_iface w 9999 ht t' y
    simp [OpK, execOp, hx, hn, eqGuard, binOp, hr, After]
    exact h
end Go.Kx
