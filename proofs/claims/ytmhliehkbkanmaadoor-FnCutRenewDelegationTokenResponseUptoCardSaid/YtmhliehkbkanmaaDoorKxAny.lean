/- Library texts Again Again2 Any, joined. -/
import Derived.Test.YtmhliehkbkanmaaDoorKxTg
/- What the thin package does with a message: a new one, its version, read, written. -/
namespace Go.Kx
open Go.RowKit
set_option linter.unusedSimpArgs false
set_option linter.unusedVariables false

/-! ### A store where no reader is near -/
theorem storeB_sound {P : Program} {n : Nat} {L : List Nat} {p k vs : Nat} {T ty : Ty} {c : Code} (h : storeOf P L p T k ty c = some vs) {rest : List Code} {σ : Fm} {w : World} {Q : Exit → Fm → World → Prop} {S : Nat → Prop} {g o : Nat} {tG : TypeId} {v : V} {cells : List Value}
    (hp : σ p = .pointer (some ⟨g, o, none⟩)) (hb : Blk w g tG cells) (hr : Rep w S T v ((cells.drop o).take T.size)) (hl : o + T.size ≤ cells.length) (hg : ¬ S g) {u : V} {cu : List Value} (hu : Rep w S ty u cu) (hv : Sv cu (σ vs))
    (hk : ∀ σ' w' c', Blk w' g tG (spl cells o c') → Rep w' S T (v.put k u) c' → Ch (fun k => k = g) w w' → (∀ t ∈ L, σ' t = σ t) → CWL P n rest σ' w' Q) : CWL P n (c :: rest) σ w Q := by
  unfold storeOf at h
  split at h
  · rename_i p2 ty1 tid k' ty2 st v2 ty3 b hc
    split at h
    · rename_i ty' off hf
      split at h
      · rename_i hh
        simp only [Option.some.injEq] at h
        subst h
        simp only [Bool.and_eq_true, beq_iff_eq, decide_eq_true_eq] at hh
        obtain ⟨⟨⟨⟨⟨rfl, hoff⟩, rfl⟩, h2⟩, hst⟩, hfree⟩ := hh
        obtain ⟨vs, rfl⟩ : ∃ vs, v2 = 2 * vs := ⟨v2 / 2, by have := Nat.div_add_mod v2 2; rw [h2] at this; exact this.symm⟩
        have hvs : 2 * vs / 2 = vs := Nat.mul_div_cancel_left vs (by decide)
        rw [hvs] at hv
        obtain ⟨_, _, _, _, hbd⟩ := hr.fld hf
        have hsz := hr.size
        have hcu := hu.size
        refine CWL.reg hc ?_
        refine OpK.nilCheck (a := ⟨g, o, none⟩) (by simp only [ev_tmp, enF_two]; exact hp) ?_
        refine OpK.fieldAddr hoff (a := ⟨g, o, none⟩) (by simp [upd]) ?_
        refine OpK.storeV (c := cu) (v := σ vs) (g := g) (o := o + off) (tG := tG) (cells := cells) (by rw [hst, hcu]) (by simp [upd, add_at]) ?_ hv (rep_one hu) hb (by omega) ?_
        · simp only [ev_tmp, Nat.mul_zero, Nat.zero_add, Nat.mul_one, Nat.reduceAdd, Nat.reduceMul]
          rw [upd_odd _ _ _ _ (by omega), upd_odd _ _ _ _ (by omega), enF_two]
        · simp only [RC]
          have hb2 := hb.setCells cu (o + off) (by omega)
          have hk2 : ∀ k, S k → (w.setCells g (o + off) cu).heap[k]? = w.heap[k]? := fun k hS => setCells_heap g _ _ _ _ fun e => hg (e ▸ hS)
          refine hk _ _ (spl ((cells.drop o).take T.size) off cu) ?_ ((hr.put hf hu).keep hk2) (setCells_ch _ _ _ _) fun t ht => ?_
          · have e : spl cells o (spl ((cells.drop o).take T.size) off cu) = spl cells (o + off) cu := by
              have hl2 : (spl ((cells.drop o).take T.size) off cu).length = T.size := by rw [spl_len (by omega)]; exact hsz
              apply List.ext_getElem?
              intro i
              rw [spl_get (by omega), spl_get (by omega), spl_get (by omega), hl2, List.getElem?_take, List.getElem?_drop]
              by_cases h1 : i < o
              · rw [if_pos h1, if_pos (show i < o + off by omega)]
              · rw [if_neg h1]
                by_cases h3 : i < o + T.size
                · rw [if_pos h3]
                  by_cases h4 : i - o < off
                  · rw [if_pos h4, if_pos (show i - o < T.size by omega), if_pos (show i < o + off by omega)]
                    congr 1; omega
                  · rw [if_neg h4, if_neg (show ¬ i < o + off by omega)]
                    by_cases h5 : i - o < off + cu.length
                    · rw [if_pos h5, if_pos (show i < o + off + cu.length by omega)]
                      congr 1; omega
                    · rw [if_neg h5, if_neg (show ¬ i < o + off + cu.length by omega), if_pos (show i - o < T.size by omega)]
                      congr 1; omega
                · rw [if_neg h3, if_neg (show ¬ i < o + off by omega), if_neg (show ¬ i < o + off + cu.length by omega)]
            rw [e]
            exact hb2
          · rw [outF_free hfree ht, upd_odd _ _ _ _ (by omega), upd_odd _ _ _ _ (by omega), upd_odd _ _ _ _ (by omega), enF_two]
      · cases h
    · cases h
  · cases h
end Go.Kx
namespace Go.Kx
open Go.RowKit
set_option linter.unusedSimpArgs false
set_option linter.unusedVariables false

/-! ### A new message -/
def allocOf (P : Program) (T : Ty) (c : Code) : Option (Nat × TypeId) :=
  match canR c with
  | some ⟨[(.alloc t, _)], (a, 1) :: _⟩ => match P.info? t with
    | some i => match i.zero with
      | some z => if cellsEq z.cells.toList (zeroC T) then some (a, t) else none
      | none => none
    | none => none
  | _ => none
theorem allocOf_sound {P : Program} {n : Nat} {T : Ty} {c : Code} {a : Nat} {t : TypeId} (h : allocOf P T c = some (a, t)) {rest : List Code} {σ : Fm} {w : World} {Q : Exit → Fm → World → Prop}
    (hk : ∀ σ', σ' a = .pointer (some ⟨w.heap.size, 0, none⟩) → CWL P n rest σ' (w.alloc (.cells (zeroC T).toArray t)) Q) : CWL P n (c :: rest) σ w Q := by
  unfold allocOf at h
  split at h
  · rename_i t' ty a' b hc
    split at h
    · rename_i i hi
      split at h
      · rename_i z hz
        split at h
        · rename_i hcells
          simp only [Option.some.injEq, Prod.mk.injEq] at h
          obtain ⟨rfl, rfl⟩ := h
          have hzc : z.cells = (zeroC T).toArray := by apply Array.ext'; rw [cellsEq_eq hcells]
          refine CWL.reg hc (OpK.allocArr hi hz ?_)
          rw [hzc]
          exact hk _ (by rw [outF_head]; simp [upd])
        · cases h
      · cases h
    · cases h
  · cases h

/-- 'v.Default()', where no reader is near. -/
def dfltB (P : Program) (tab : List (Nat × Rf)) (L : List Nat) (u : Nat) (T : Ty) (c : Code) : Option (List (Nat × V)) := dfltOf ⟨P, 0, tab, 0, .nilIface, 0, ⟨0, none, 0⟩, 0⟩ L u T c
theorem dfltB_sound {P : Program} {n : Nat} {tab : List (Nat × Rf)} {gE : Nat} {eV : Value} (hX : ∀ f a, rfAt tab f = some a → Callable P f ∧ RfOk P gE eV f a) {L : List Nat} {u : Nat} {T : Ty} {ps : List (Nat × V)} {c : Code} (h : dfltB P tab L u T c = some ps)
    {rest : List Code} {σ : Fm} {w : World} {Q : Exit → Fm → World → Prop} {S : Nat → Prop} {g o : Nat} {tG : TypeId} {v : V} {cells : List Value}
    (hu : σ u = .pointer (some ⟨g, o, none⟩)) (hb : Blk w g tG cells) (hr : Rep w S T v ((cells.drop o).take T.size)) (hl : o + T.size ≤ cells.length) (hg : ¬ S g)
    (hk : ∀ σ' w' c', Blk w' g tG (spl cells o c') → Rep w' S T (v.puts ps) c' → Ch (fun k => k = g) w w' → (∀ t ∈ L, σ' t = σ t) → CWL P n rest σ' w' Q) : CWL P n (c :: rest) σ w Q := by
  unfold dfltB dfltOf at h
  split at h
  · rename_i op ty b hc
    split at h
    · rename_i f u2 hop
      split at h
      · rename_i T' ps' htab
        split at h
        · rename_i hh
          simp only [Option.some.injEq] at h
          subst h
          simp only [Bool.and_eq_true, beq_iff_eq, decide_eq_true_eq] at hh
          obtain ⟨⟨rfl, rfl⟩, hfree⟩ := hh
          obtain ⟨hcall, hrf⟩ := hX f _ htab
          refine CWL.reg hc (OpK.asCall hop hcall rfl ?_)
          simp only [List.map_cons, List.map_nil, ev_tmp, enF_two, hu]
          refine (hrf w S g o tG cells v hb hr hl hg).mono fun en w' ⟨he, c', hb', hr', hc'⟩ => ⟨_, he, ?_⟩
          refine hk _ w' c' hb' hr' hc' fun t ht => ?_
          rw [outF_free hfree ht, upd_odd _ _ _ _ (by omega), enF_two]
        · cases h
      · cases h
    · cases h
  · cases h

def chkNp (P : Program) (tab : List (Nat × Rf)) (fn : Func) (T : Ty) : Option (TypeId × List (Nat × V)) :=
  match fn.body, resTmp fn with
  | some c, some res => if fits fn.ntmps c && wfT T then match flat c with
    | [c0, c1, c2, c3, .ret] => if isIdle [] c0 then match allocOf P T c1 with
      | some (a, t) => match dfltB P tab [a] a T c2, canR c3 with
        | some ps, some ⟨[], (r', s) :: _⟩ => if r' == res && s == 2 * a then some (t, ps) else none
        | _, _ => none
      | none => none
      else none
    | _ => none
    else none
  | _, _ => none

theorem chkNp_calls {P : Program} {tab : List (Nat × Rf)} {gE : Nat} {eV : Value} (hX : ∀ f a, rfAt tab f = some a → Callable P f ∧ RfOk P gE eV f a) {f : FuncId} {fn : Func} {T : Ty} {t : TypeId} {ps : List (Nat × V)} (hf : P.funcs[f]? = some fn) (h : chkNp P tab fn T = some (t, ps)) (w : World) :
    Calls P f #[] w fun en w' => ∃ cells, en = .returned (.pointer (some ⟨w.heap.size, 0, none⟩)) ∧ Blk w' w.heap.size t cells ∧ cells.length = T.size ∧ Rep w' (fun _ => False) T ((zeroV T).puts ps) cells ∧ Ch (fun _ => False) w w' := by
  unfold chkNp at h
  split at h
  · rename_i c res hbody hres
    split at h
    · rename_i hh
      simp only [Bool.and_eq_true] at hh
      split at h
      · rename_i c0 c1 c2 c3 hflat
        split at h
        · rename_i h0
          split at h
          · rename_i a t' hal
            split at h
            · rename_i ps' r' s b hdf hc3
              split at h
              · rename_i hrs
                simp only [Option.some.injEq, Prod.mk.injEq] at h
                obtain ⟨rfl, rfl⟩ := h
                simp only [Bool.and_eq_true, beq_iff_eq] at hrs
                obtain ⟨rfl, rfl⟩ := hrs
                refine (Calls.of_CW hf hbody hh.1 (by simp) (CW.of_flat ?_) (R := fun x w' => ∃ cells, x = .pointer (some ⟨w.heap.size, 0, none⟩) ∧ Blk w' w.heap.size t' cells ∧ cells.length = T.size ∧ Rep w' (fun _ => False) T ((zeroV T).puts ps') cells ∧ Ch (fun _ => False) w w')).mono fun en w' ⟨x, he, cells, hx, hR⟩ => ⟨cells, by rw [he, hx], hR⟩
                rw [hflat]
                refine CWL.idle h0 fun σ0 he0 => ?_
                refine allocOf_sound hal fun σ1 ha1 => ?_
                have hb1 := Blk.new w t' (zeroC T)
                have hlz := zeroC_len T
                refine dfltB_sound hX hdf (S := fun _ => False) (v := zeroV T) (o := 0) ha1 hb1 (by rw [List.drop_zero, List.take_of_length_le (by omega)]; exact rep_zero _ _ _ hh.2) (by omega) (fun h => h) fun σ2 w2 c' hb2 hr2 hc2 he2 => ?_
                refine CWL.reg hc3 ?_
                simp only [RC]
                refine CWL.ret ?_
                simp only [Ends]
                unfold resTmp at hres
                split at hres
                · rename_i t ht
                  simp only [Option.some.injEq] at hres
                  subst hres
                  have hcl := hr2.size
                  refine ⟨_, by simp only [resOf, ht]; rfl, c', ?_, ?_, hcl, hr2, ?_⟩
                  · rw [outF_head, enF_two, he2 a (by simp), ha1]
                  · rw [← splice_all (cs := zeroC T) (c := c') (by omega)]
                    exact hb2
                  · exact (Ch.alloc (fun _ => False) w _).trans hc2 fun i hi e => by omega
                · cases hres
              · cases h
            · cases h
          · cases h
        · cases h
      · cases h
    · cases h
  · cases h

/-! ### Its version -/
def chkSv (P : Program) (fn : Func) (T : Ty) : Bool :=
  match fn.body with
  | some c => fits fn.ntmps c && Nat.ble 2 fn.ntmps && fn.results.toList.isEmpty && match flat c with
    | [c0] => storeOf P [] 0 T 0 (.int .i16) c0 == some 1
    | _ => false
  | none => false
theorem chkSv_calls {P : Program} {f : FuncId} {fn : Func} {T : Ty} (hf : P.funcs[f]? = some fn) (h : chkSv P fn T = true) {w : World} {S : Nat → Prop} {g o : Nat} {tG : TypeId} {v : V} {cells : List Value} {ver : Int}
    (hb : Blk w g tG cells) (hr : Rep w S T v ((cells.drop o).take T.size)) (hl : o + T.size ≤ cells.length) (hg : ¬ S g) (hw : IntKind.i16.wrap ver = ver) :
    Calls P f #[.pointer (some ⟨g, o, none⟩), .int .i16 ver] w fun en w' => en = .returned (.tuple #[]) ∧ ∃ c', Blk w' g tG (spl cells o c') ∧ Rep w' S T (v.put 0 (.i ver)) c' ∧ Ch (fun k => k = g) w w' := by
  unfold chkSv at h
  split at h
  · rename_i c hbody
    simp only [Bool.and_eq_true, List.isEmpty_iff] at h
    obtain ⟨⟨⟨hfit, hn⟩, hres⟩, h⟩ := h
    split at h
    · rename_i c0 hflat
      rw [beq_iff_eq] at h
      refine (Calls.of_CW hf hbody hfit (by simpa using hn) (CW.of_flat ?_) (R := fun x w' => x = .tuple #[] ∧ ∃ c', Blk w' g tG (spl cells o c') ∧ Rep w' S T (v.put 0 (.i ver)) c' ∧ Ch (fun k => k = g) w w')).mono fun en w' ⟨x, he, hx, hR⟩ => ⟨by rw [he, hx], hR⟩
      rw [hflat]
      refine storeB_sound h rfl hb hr hl hg (u := .i ver) (cu := [.int .i16 ver]) ⟨rfl, hw⟩ (.inr rfl) fun σ' w' c' h1 h2 h3 _ => ?_
      refine CWL.nil_ ?_
      simp only [Ends]
      exact ⟨.tuple #[], by unfold resOf; rw [hres], rfl, c', h1, h2, h3⟩
    · cases h
  · cases h

/-! ### It is read -/
def chkRF (fn : Func) (rf : FuncId) : Bool :=
  match fn.body, resTmp fn with
  | some c, some res => fits fn.ntmps c && Nat.ble 2 fn.ntmps && match flat c with
    | [c0, c1, .ret] => isIdle [0, 1] c0 && match canR c1 with
      | some ⟨[(op, _)], (r', 1) :: _⟩ => match asCall op with
        | some (f, [.tmp 0, .tmp 2, .const (.bool false)]) => f == rf && r' == res
        | _ => false
      | _ => false
    | _ => false
  | _, _ => false
theorem chkRF_calls {P : Program} {f rf : FuncId} {fn : Func} (hf : P.funcs[f]? = some fn) (h : chkRF fn rf = true) (hc : Callable P rf) {w : World} {p src : Value} {R : Value → World → Prop}
    (hr : Calls P rf #[p, src, .bool false] w fun en w' => ∃ x, en = .returned x ∧ R x w') : Calls P f #[p, src] w fun en w' => ∃ x, en = .returned x ∧ R x w' := by
  unfold chkRF at h
  split at h
  · rename_i c res hbody hres
    simp only [Bool.and_eq_true] at h
    obtain ⟨⟨hfit, hn⟩, h⟩ := h
    split at h
    · rename_i c0 c1 hflat
      simp only [Bool.and_eq_true] at h
      obtain ⟨h0, h⟩ := h
      split at h
      · rename_i op ty r' b hcan
        split at h
        · rename_i f' hop
          simp only [Bool.and_eq_true, beq_iff_eq] at h
          obtain ⟨rfl, rfl⟩ := h
          refine Calls.of_CW hf hbody hfit (by simpa using hn) (CW.of_flat ?_)
          rw [hflat]
          refine CWL.idle h0 fun σ0 he0 => ?_
          have e0 : σ0 0 = p := (he0 0 (by simp)).trans rfl
          have e1 : σ0 1 = src := (he0 1 (by simp)).trans rfl
          refine CWL.reg hcan (OpK.asCall hop hc rfl ?_)
          simp only [List.map_cons, List.map_nil, ev_tmp, ev_const]
          rw [show enF σ0 0 = p from (enF_two σ0 0).trans e0, show enF σ0 2 = src from (enF_two σ0 1).trans e1]
          refine hr.mono fun en w' ⟨x, he, hR⟩ => ⟨x, he, ?_⟩
          refine CWL.ret ?_
          simp only [Ends]
          unfold resTmp at hres
          split at hres
          · rename_i t ht
            simp only [Option.some.injEq] at hres
            subst hres
            refine ⟨_, by simp only [resOf, ht]; rfl, ?_⟩
            rw [outF_head]
            simpa [upd] using hR
          · cases hres
        · cases h
      · cases h
    · cases h
  · cases h
end Go.Kx
namespace Go.Kx
open Go.RowKit
set_option linter.unusedSimpArgs false
set_option linter.unusedVariables false
theorem run_eqIn_nilIface {P : Program} {t : TypeId} {ms : Array (String × TypeId)} (w : World) (d : Nat) (ht : P.underlying t = some (.interface ms)) : (Op.equalIn (d + 1) t .nilIface .nilIface).run P w = .ok true w := by
  simp [Op.equalIn, run_underlying ht]
theorem run_eqIn_iface {P : Program} {t : TypeId} {ms : Array (String × TypeId)} (w : World) (d : Nat) (ht : P.underlying t = some (.interface ms)) (t' : TypeId) (y : Value) : (Op.equalIn (d + 1) t (.iface t' y) .nilIface).run P w = .ok false w := by
  simp [Op.equalIn, run_underlying ht]
theorem OpK.neqNilIface {P : Program} {ρ : Operand → Value} {w : World} {K : Value → World → Prop} {d : Option Tmp} {ty : TypeId} {pos : String} {af : Array Edge} {gd : Option (Nat × Bool)} {x : Operand} {t u : TypeId} {v : Value} {b : Bool} {ms : Array (String × TypeId)}
    (ht : P.underlying t = some (.interface ms)) (hx : ρ x = v) (hn : ρ (.const .nilIface) = .nilIface) (hv : (v = .nilIface ∧ b = false) ∨ (∃ t y, v = .iface t y) ∧ b = true) (h : K (.bool b) w) : OpK P ρ ⟨d, .binOp .neq t x (.const .nilIface) u, ty, pos, af, gd⟩ w K := by
  rcases hv with ⟨rfl, rfl⟩ | ⟨⟨t', y, rfl⟩, rfl⟩
  · have hr : (Op.equal t .nilIface .nilIface).run P w = .ok true w := run_eqIn_nilIface w 9999 ht
    simp [OpK, execOp, hx, hn, eqGuard, binOp, hr, After]
    exact h
  · have hr : (Op.equal t (.iface t' y) .nilIface).run P w = .ok false w := run_eqIn_iface w 9999 ht t' y
    simp [OpK, execOp, hx, hn, eqGuard, binOp, hr, After]
    exact h
end Go.Kx

/- A message is read and written again: what the thin package answers. -/
namespace Go.Kx
open Go.RowKit
set_option linter.unusedSimpArgs false
set_option linter.unusedVariables false

def isIface (P : Program) (t : TypeId) : Bool := match P.underlying t with | some (.interface _) => true | _ => false
theorem isIface_spec {P : Program} {t : TypeId} (h : isIface P t = true) : ∃ ms, P.underlying t = some (.interface ms) := by
  unfold isIface at h
  split at h
  · exact ⟨_, by assumption⟩
  · cases h
def isI16 (P : Program) (t : TypeId) : Bool := match P.underlying t with | some (.int .i16) => true | _ => false
theorem isI16_spec {P : Program} {t : TypeId} (h : isI16 P t = true) : P.underlying t = some (.int .i16) := by
  unfold isI16 at h
  split at h
  · assumption
  · cases h

structure AgF where
  np : FuncId
  sv : FuncId
  rf : FuncId
  at_ : FuncId

def resTwo (fn : Func) : Option (Nat × Nat) := match fn.results.toList with | [.tmp a, .tmp b] => some (a, b) | _ => none
/-- 'return nil, false' -/
def nilFalse (r : Nat × Nat) (cs : List Code) : Bool :=
  match cs with
  | [c, .ret] => match canR c with
    | some ⟨[(.assign (.const (.slice none 0 0)), _), (.assign (.const (.bool false)), _)], (r2, 3) :: (r1, 1) :: _⟩ => r1 == r.1 && r2 == r.2 && r1 != r2
    | _ => false
  | _ => false

def chkAg (P : Program) (e : TypeId) (fn : Func) (F : AgF) : Bool :=
  match fn.body, resTwo fn with
  | some c, some r => fits fn.ntmps c && Nat.ble 2 fn.ntmps && match flat c with
    | [c0, c1, c2, c3, .cond (.tmp t') A B, c4, .ret] => isIdle [0, 1] c0 && match canR c1, canR c2, canR c3, canR c4 with
      | some ⟨[(o1, _)], (v, 1) :: b1⟩, some ⟨[(.convert s16 t16 (.tmp 0), _), (o2, _)], b2⟩, some ⟨[(o3, _), (o4, _), (.binOp .neq ti (.tmp 3) (.const .nilIface) _, _)], (t, 5) :: b3⟩, some ⟨[(o5, _), (.assign (.const (.bool true)), _)], (r2, 3) :: (r1, 1) :: _⟩ =>
        match asCall o1, asCall o2, asApp o3, asCall o4, asCall o5 with
        | some (f1, []), some (f2, [.tmp v2, .tmp 1]), some (.const (.slice none 0 0), .tmp 2, ta, tb), some (f4, [.tmp v4, .tmp 1]), some (f5, [.tmp v5, .const (.slice none 0 0)]) =>
          f1 == F.np && f2 == F.sv && f4 == F.rf && f5 == F.at_ && v2 == 2 * v && v4 == 2 * v && v5 == 2 * v && (P.underlying s16).isSome && isI16 P t16 && isOct P e ta && ta == tb && isIface P ti && t == t' && nilFalse r (flat A) && (flat B).isEmpty &&
            r1 == r.1 && r2 == r.2 && r1 != r2 && free [0, 1] ((v, 1) :: b1) && free [1, v] b2 && free [v] ((t, 5) :: b3)
        | _, _, _, _, _ => false
      | _, _, _, _ => false
    | _ => false
  | _, _ => false

theorem own_src {e : TypeId} {w : World} {v : Value} {bs : List UInt8} (h : Own e w v bs) (hl : bs.length ≤ 4294967296) : SrcIs w (fun k => v.ownBlock = some k) bs v := by
  rcases h.2 with ⟨rfl, hn⟩ | ⟨g, cap, cur, rfl, hb, hg, hnc, hcm, hcs, htake⟩
  · exact .inl ⟨rfl, List.eq_nil_of_length_eq_zero hn⟩
  · refine .inr ⟨⟨g, 0, none⟩, cap, rfl, hnc, ⟨?_, hl⟩, rfl, fun i u hu => ?_⟩
    · simp only [maxLen] at hcm; omega
    · exact World.ownsRow.cells h (g := g) rfl i (bv u) (by simp [hu])
theorem own_oct {e : TypeId} {w : World} {v : Value} {bs : List UInt8} (h : Own e w v bs) : OctIs w (fun k => v.ownBlock = some k) bs v := by
  rcases h.2 with ⟨rfl, hn⟩ | ⟨g, cap, cur, rfl, hb, hg, hnc, hcm, hcs, htake⟩
  · exact .inl ⟨rfl, List.eq_nil_of_length_eq_zero hn⟩
  · refine .inr ⟨⟨g, 0, none⟩, cap, rfl, hnc, rfl, fun i u hu => ?_⟩
    exact World.ownsRow.cells h (g := g) rfl i (bv u) (by simp [hu])

/-- What is known of a message: its fields, its functions. -/
structure Msg (P : Program) (e : TypeId) (full : Bool) (tR : TypeId) (gE : Nat) (T : Ty) (s : Sch) (ff : Option Int) (tab : List (Nat × Rf)) (tabW : List (Nat × Ap)) (F : AgF) (rf : FuncId) (ps ps' : List (Nat × V)) (most : Int) : Prop where
  rdT : RdT P tR
  rd : ∀ eV f a, rfAt tab f = some a → Callable P f ∧ RfOk P gE eV f a
  wr : Sound P e full tabW
  full : full = true ∨ ∀ v, noTags s v
  np : ∃ fn t, P.funcs[F.np]? = some fn ∧ chkNp P tab fn T = some (t, ps) ∧ Callable P F.np
  sv : ∃ fn, P.funcs[F.sv]? = some fn ∧ chkSv P fn T = true ∧ Callable P F.sv
  rfn : ∃ fn, P.funcs[F.rf]? = some fn ∧ chkRF fn rf = true ∧ Callable P F.rf ∧ Callable P rf
  read : ∃ fn, P.funcs[rf]? = some fn ∧ ∀ eV fx, (fx = true → ff.isSome = true) → chkRd P tab gE eV tR fn T s ff fx = some ps'
  at_ : ∃ fn, P.funcs[F.at_]? = some fn ∧ chkApp P tabW e fn T s ff = true ∧ Callable P F.at_
  ok : ∀ ver, 0 ≤ ver → ver ≤ most → okB ver (flexAt ff ver) s = true
  start : ∀ ver, startB s ((((zeroV T).puts ps).put 0 (.i ver)).puts ps') = true
  ver : ∀ ver, ((((zeroV T).puts ps).put 0 (.i ver)).puts ps').fld 0 = .i ver
  key : s.keys.contains 0 = false
  most : most < 32768

/-- Where reading a message begins. -/
def V0 (T : Ty) (ps ps' : List (Nat × V)) (ver : Int) : V := (((zeroV T).puts ps).put 0 (.i ver)).puts ps'

/-- What reading and writing again answers. -/
def AgIs (w w' : World) (res : Option (List UInt8)) (x : Value) (b : Bool) : Prop :=
  match res with
  | some l => b = true ∧ OctIs w' (fun k => w.heap.size ≤ k ∧ k < w'.heap.size) l x
  | none => b = false ∧ x = .slice none 0 0

theorem chkAg_calls {P : Program} {e : TypeId} {full : Bool} {tR : TypeId} {gE : Nat} {T : Ty} {s : Sch} {ff : Option Int} {tab : List (Nat × Rf)} {tabW : List (Nat × Ap)} {F : AgF} {rf : FuncId} {ps ps' : List (Nat × V)} {most : Int}
    (M : Msg P e full tR gE T s ff tab tabW F rf ps ps' most) {f : FuncId} {fn : Func} (hf : P.funcs[f]? = some fn) (h : chkAg P e fn F = true) {w : World} {S : Nat → Prop} {ver : Int} {src : Value} {l : List UInt8} {tE : TypeId} {vE : Value}
    (hv0 : 0 ≤ ver) (hvm : ver ≤ most) (hsrc : OctIs w S l src) (hS : ∀ k, S k → k < w.heap.size) (hl : l.length < 1073741824) (herr : w.cell? ⟨gE, 0, none⟩ = some (.iface tE vE)) (hgE : gE < w.heap.size) :
    Calls P f #[.int .i64 ver, src] w fun en w' => ∃ x b, en = .returned (.tuple #[x, .bool b]) ∧ Ch (fun _ => False) w w' ∧ AgIs w w' ((dec ver (flexAt ff ver) s (V0 T ps ps' ver) l).map fun y => enc ver (flexAt ff ver) s y.1) x b := by
  have hi16 : IntKind.i16.wrap ver = ver := by
    have := M.most
    have := i16_len (n := ver.toNat) (by omega)
    rw [show ((ver.toNat : Nat) : Int) = ver by omega] at this
    exact this
  unfold chkAg at h
  split at h
  · rename_i c r hbody hres
    simp only [Bool.and_eq_true] at h
    obtain ⟨⟨hfit, hn⟩, h⟩ := h
    split at h
    · rename_i c0 c1 c2 c3 t' A B c4 hflat
      simp only [Bool.and_eq_true] at h
      obtain ⟨h0, h⟩ := h
      split at h
      · rename_i o1 ty1 v b1 s16 t16 ty2 o2 ty3 b2 o3 ty4 o4 ty5 ti u1 ty6 t b3 o5 ty7 ty8 r2 r1 b4 hc1 hc2 hc3 hc4
        split at h
        · rename_i f1 f2 v2 ta tb f4 v4 f5 v5 ho1 ho2 ho3 ho4 ho5
          simp only [Bool.and_eq_true, beq_iff_eq, bne_iff_ne, ne_eq, List.isEmpty_iff] at h
          obtain ⟨⟨⟨⟨⟨⟨⟨⟨⟨⟨⟨⟨⟨⟨⟨⟨⟨⟨⟨⟨rfl, rfl⟩, rfl⟩, rfl⟩, rfl⟩, rfl⟩, rfl⟩, hs16⟩, ht16⟩, hoct⟩, rfl⟩, hif⟩, rfl⟩, hA⟩, hB⟩, hr1⟩, hr2⟩, hr12⟩, hf1⟩, hf2⟩, hf3⟩ := h
          refine (Calls.of_CW hf hbody hfit (by simpa using hn) (CW.of_flat ?_) (R := fun y w' => ∃ x b, y = .tuple #[x, .bool b] ∧ Ch (fun _ => False) w w' ∧ AgIs w w' ((dec ver (flexAt ff ver) s (V0 T ps ps' ver) l).map fun y => enc ver (flexAt ff ver) s y.1) x b)).mono fun en w' ⟨y, he, x, b, hy, hR⟩ => ⟨x, b, by rw [he, hy], hR⟩
          rw [hflat]
          refine CWL.idle h0 fun σ0 he0 => ?_
          have e0 : σ0 0 = .int .i64 ver := (he0 0 (by simp)).trans rfl
          have e1 : σ0 1 = src := (he0 1 (by simp)).trans rfl
          -- a new message
          obtain ⟨fnp, tG, hnp1, hnp2, hnp3⟩ := M.np
          refine CWL.regG hc1 (OpK.asCall ho1 hnp3 rfl ?_)
          simp only [List.map_nil]
          refine (chkNp_calls (M.rd (.iface tE vE)) hnp1 hnp2 w).mono fun en w1 ⟨cells, he, hb1, hcl, hrep1, hch1⟩ => ⟨_, he, ?_⟩
          simp only [RC]
          intro σ1 hσ1
          have k1v : σ1 v = .pointer (some ⟨w.heap.size, 0, none⟩) := by rw [hσ1, outF_head]; simp
          have k1 : ∀ t ∈ [0, 1], σ1 t = σ0 t := fun t ht => by rw [hσ1, outF_free hf1 ht, upd_odd _ _ _ _ (by omega), enF_two]
          -- its version
          obtain ⟨fsv, hsv1, hsv2, hsv3⟩ := M.sv
          have htk : (cells.drop 0).take T.size = cells := by rw [List.drop_zero, List.take_of_length_le (by omega)]
          refine CWL.regG hc2 (OpK.convInt hs16 (isI16_spec ht16) (by simp only [ev_tmp]; exact (enF_two σ1 0).trans ((k1 0 (by simp)).trans e0)) ?_)
          rw [hi16]
          refine OpK.asCall ho2 hsv3 rfl ?_
          simp only [List.map_cons, List.map_nil, ev_tmp]
          rw [show upd (enF σ1) (some (2 * 0 + 1)) (Value.int .i16 ver) (2 * v) = .pointer (some ⟨w.heap.size, 0, none⟩) by rw [upd_odd _ _ _ _ (by omega), enF_two, k1v], show upd (enF σ1) (some (2 * 0 + 1)) (Value.int .i16 ver) 1 = .int .i16 ver from rfl]
          refine (chkSv_calls hsv1 hsv2 (S := fun _ => False) (v := (zeroV T).puts ps) hb1 (by rw [htk]; exact hrep1) (by omega) (fun h => h) hi16).mono fun en w2 ⟨he, c2', hb2, hrep2, hch2⟩ => ⟨_, he, ?_⟩
          simp only [RC]
          intro σ2 hσ2
          have k2 : ∀ t ∈ [1, v], σ2 t = σ1 t := fun t ht => by rw [hσ2, outF_free hf2 ht, upd_odd _ _ _ _ (by omega), upd_odd _ _ _ _ (by omega), enF_two]
          have hc2l := hrep2.size
          rw [splice_all (by omega)] at hb2
          have k2v : σ2 v = .pointer (some ⟨w.heap.size, 0, none⟩) := (k2 v (by simp)).trans k1v
          have k21 : σ2 1 = src := (k2 1 (by simp)).trans ((k1 1 (by simp)).trans e1)
          have hch12 : Ch (fun _ => False) w w2 := hch1.trans hch2 fun i hi e => by omega
          have hgs := hb2.lt
          -- a copy of the octets
          obtain rfl := asApp_spec ho3
          have hsrc2 : OctIs w2 S l src := hsrc.keep fun k hk => hch12.block k (hS k hk) fun h => h
          obtain ⟨a, cc, hsl, hnil, hO⟩ : ∃ a c, src = .slice a l.length c ∧ (a = none → l = []) ∧ ∀ a', a = some a' → Oct w2 a' l := by
            rcases hsrc2 with ⟨h1, h2⟩ | ⟨a, c, h1, h2, h3, h4⟩
            · exact ⟨none, 0, by rw [h1, h2]; rfl, fun _ => h2, fun _ h => by cases h⟩
            · exact ⟨some a, c, h1, (fun h => by cases h), fun a' h => by cases h; exact h4⟩
          have happ := run_append_oct (P := P) (w := w2) (t := ta) (ty := ty4) M.wr.u8 (isOct_spec hoct) (Own.nil e w2) (a := a) (l := l) (c := cc) hnil hO (by simp only [List.length_nil, Lim]; omega)
          obtain ⟨d, w3, hrun, hgrew⟩ := happ
          rw [List.nil_append] at hgrew
          refine CWL.regG hc3 (OpK.run rfl (v := d) (w' := w3) ?_ ?_)
          · simp only [ev_tmp, ev_const]
            rw [show enF σ2 2 = src from (enF_two σ2 1).trans k21, hsl]
            exact hrun
          have hch3 : Ch (fun _ => False) w2 w3 := hgrew.ch.mono fun k _ hk => by simp [Value.ownBlock] at hk
          have hch13 : Ch (fun _ => False) w w3 := hch12.trans' hch3
          have hb3 := hb2.keep (hch3.block _ hgs fun h => h)
          have hdnew : ∀ k, d.ownBlock = some k → w2.heap.size ≤ k ∧ k < w3.heap.size := fun k hk => by
            refine ⟨?_, hgrew.own.lt hk⟩
            rcases hgrew.blk k hk with h' | h'
            · simp [Value.ownBlock] at h'
            · exact h'
          -- it is read
          obtain ⟨frf, hrf1, hrf2, hrf3, hrf4⟩ := M.rfn
          obtain ⟨frd, hrd1, hrd2⟩ := M.read
          refine OpK.asCall ho4 hrf3 rfl ?_
          simp only [List.map_cons, List.map_nil, ev_tmp]
          rw [show upd (enF σ2) (some (2 * 0 + 1)) d (2 * v) = .pointer (some ⟨w.heap.size, 0, none⟩) by rw [upd_odd _ _ _ _ (by omega), enF_two, k2v], show upd (enF σ2) (some (2 * 0 + 1)) d 1 = d from rfl]
          have hrep3 : Rep w3 (fun k => k < w3.heap.size ∧ k ≠ w.heap.size) T ((((zeroV T).puts ps).put 0 (.i ver))) ((c2'.drop 0).take T.size) := by
            rw [List.drop_zero, List.take_of_length_le (by omega)]
            exact hrep2.keepMono (fun _ h => h.elim) fun _ h => h.elim
          have herr3 : w3.cell? ⟨gE, 0, none⟩ = some (.iface tE vE) := (ch_cell hch13 (a := ⟨gE, 0, none⟩) hgE (fun h => h) rfl).trans herr
          have hsz3 := hch13.size
          have hread := chkRd_calls M.rdT (M.rd (.iface tE vE)) hrd1 (hrd2 (.iface tE vE) (flexAt ff ver) (fun h => by cases ff <;> first | rfl | cases h)) (S := fun k => d.ownBlock = some k) (v0 := ((zeroV T).puts ps).put 0 (.i ver)) (ver := ver) (o := 0) hb3 hrep3 (by omega) herr3 ⟨by omega, by omega⟩
            (own_src hgrew.own (by omega)) (fun k hk => ⟨(hdnew k hk).2, by have := (hdnew k hk).1; omega⟩) (M.ver ver) hv0 rfl (M.ok ver hv0 hvm) (M.start ver)
          refine (chkRF_calls hrf1 hrf2 hrf4 hread).mono fun en w4 ⟨x, he, hto⟩ => ⟨x, he, ?_⟩
          obtain ⟨hch4, hto⟩ := hto
          have hch14 : Ch (fun _ => False) w w4 := hch13.trans hch4 fun i hi e => by omega
          obtain ⟨ms, hms⟩ := isIface_spec hif
          change match dec ver (flexAt ff ver) s (V0 T ps ps' ver) l with | some y => _ | none => _ at hto
          cases hd : dec ver (flexAt ff ver) s (V0 T ps ps' ver) l with
          | none =>
            rw [hd] at hto
            refine OpK.neqNilIface (b := true) hms (v := x) (by simp [upd]) rfl (.inr ⟨⟨tE, vE, hto⟩, rfl⟩) ?_
            simp only [RC]
            intro σ3 hσ3
            refine CWL.condT (by simp only [ev_tmp]; rw [hσ3, outF_head]; simp [upd]) (CWL.append ?_)
            unfold nilFalse at hA
            split at hA
            · rename_i cA hfA
              split at hA
              · rename_i ty9 ty10 q2 q1 b5 hcA
                simp only [Bool.and_eq_true, beq_iff_eq, bne_iff_ne, ne_eq] at hA
                obtain ⟨⟨rfl, rfl⟩, hq12⟩ := hA
                rw [hfA]
                refine CWL.reg hcA (OpK.assign (OpK.assign ?_))
                simp only [RC, ev_const]
                refine CWL.ret ?_
                simp only [Then, Ends]
                unfold resTwo at hres
                split at hres
                · rename_i a1 a2 hrs
                  simp only [Option.some.injEq] at hres
                  subst hres
                  refine ⟨_, by simp only [resOf, hrs]; rfl, .slice none 0 0, false, ?_, hch14, rfl, rfl⟩
                  simp only at hq12 ⊢
                  rw [outF_head]
                  simp [outF, look, Ne.symm hq12, upd]
                · cases hres
              · cases hA
            · cases hA
          | some y =>
            rw [hd] at hto
            obtain ⟨hx, cells4, hb4, hl4, hrep4⟩ := hto
            refine OpK.neqNilIface (b := false) hms (v := x) (by simp [upd]) rfl (.inl ⟨hx, rfl⟩) ?_
            simp only [RC]
            intro σ3 hσ3
            have k3v : σ3 v = .pointer (some ⟨w.heap.size, 0, none⟩) := by
              rw [hσ3, outF_free hf3 (by simp), upd_odd _ _ _ _ (by omega), upd_odd _ _ _ _ (by omega), upd_odd _ _ _ _ (by omega), enF_two, k2v]
            refine CWL.condF (by simp only [ev_tmp]; rw [hσ3, outF_head]; simp [upd]) ?_
            rw [hB, List.nil_append]
            -- it is written
            obtain ⟨fat, hat1, hat2, hat3⟩ := M.at_
            obtain ⟨hgood, hlen, hkeep⟩ := dec_good s (M.ok ver hv0 hvm) (M.start ver) hl hd
            have hver : y.1.fld 0 = .i ver := by
              rw [hkeep 0 (by have := M.key; rw [List.contains_eq_mem, decide_eq_false_iff_not] at this; exact this)]
              exact M.ver ver
            have his : Is w4 (fun k => k < w4.heap.size) w.heap.size 0 T y.1 := by
              refine ⟨_, hrep4.mono fun k hk => hk.1, fun i u hu => ?_⟩
              rw [List.getElem?_take] at hu
              split at hu
              · rw [List.getElem?_drop] at hu
                rw [hb4.cell]
                exact hu
              · cases hu
            refine CWL.regG hc4 (OpK.asCall ho5 hat3 rfl ?_)
            simp only [List.map_cons, List.map_nil, ev_tmp, ev_const]
            rw [show enF σ3 (2 * v) = .pointer (some ⟨w.heap.size, 0, none⟩) by rw [enF_two, k3v]]
            have hcall := chkApp_calls M.wr hat1 hat2 (w := w4) (S := fun k => k < w4.heap.size) (g := w.heap.size) (o := 0) (v := y.1) (ver := ver) (d := .slice none 0 0) (bs := []) (M.full.imp id fun h => h y.1) his hb4.lt hver (Own.nil e w4) (fun k hk => ⟨hk, by simp [Value.ownBlock]⟩) (by simp only [List.length_nil, Lim]; omega)
            rw [List.nil_append] at hcall
            refine hcall.mono fun en w5 ⟨d', he5, hg5⟩ => ⟨d', he5, ?_⟩
            refine OpK.assign ?_
            simp only [RC, ev_const]
            intro σ5 hσ5
            refine CWL.ret ?_
            simp only [Ends]
            unfold resTwo at hres
            split at hres
            · rename_i a1 a2 hrs
              simp only [Option.some.injEq] at hres
              subst hres
              have hch5 : Ch (fun _ => False) w4 w5 := hg5.ch.mono fun k _ hk => by simp [Value.ownBlock] at hk
              refine ⟨_, by simp only [resOf, hrs]; rfl, d', true, ?_, hch14.trans' hch5, rfl, ?_⟩
              · simp only at hr1 hr2
                subst hr1
                subst hr2
                rw [hσ5, outF_head]
                simp [outF, look, Ne.symm hr12, upd]
              · rcases own_oct hg5.own with h | ⟨a, c, h1, h2, h3, h4⟩
                · exact .inl h
                · refine .inr ⟨a, c, h1, h2, ?_, h4⟩
                  refine ⟨?_, hg5.own.lt h3⟩
                  rcases hg5.blk _ h3 with h' | h'
                  · simp [Value.ownBlock] at h'
                  · have := hch14.size; omega
            · cases hres
        · cases h
      · cases h
    · cases h
  · cases h
end Go.Kx

/- The law: what is read of any octets is written as octets that are read again, and written as the same. -/
namespace Go.Kx
open Go.RowKit
set_option linter.unusedSimpArgs false
set_option linter.unusedVariables false

def VerIs (P : Program) (ver : FuncId) : Prop := Callable P ver ∧ ∀ (w : World) (n k : Nat), n < 256 → k < 1000 → Calls P ver #[.int .u8 (n : Int), .int .i64 (k : Int)] w fun e w' => ∃ v, e = .returned v ∧ v = .int .i64 ((n % (k + 1) : Nat) : Int) ∧ w' = w
def MaxIs (P : Program) (mx : FuncId) (most : Nat) : Prop := Callable P mx ∧ ∀ (w : World), Calls P mx #[] w fun en w' => en = .returned (.int .i64 (most : Int)) ∧ Ch (fun _ => False) w w'
def SameIs (P : Program) (same : FuncId) : Prop := Callable P same ∧ ∀ (w : World) (S : Nat → Prop) (l1 l2 : List UInt8) (v1 v2 : Value), OctIs w S l1 v1 → OctIs w S l2 v2 → (∀ k, S k → k < w.heap.size) → l1.length ≤ 4611686018427387904 → l2.length ≤ 4611686018427387904 → Calls P same #[v1, v2] w fun en w' => en = .returned (.bool (l1 == l2)) ∧ Ch (fun _ => False) w w'

/-! ### The highest version -/
def chkMax (P : Program) (fn : Func) (np mv : FuncId) : Bool :=
  match fn.body, resTmp fn with
  | some c, some res => fits fn.ntmps c && match flat c with
    | [c0, c1, .ret] => isIdle [] c0 && match canR c1 with
      | some ⟨[(o1, _), (o2, _), (.convert s t (.tmp 3), _)], (r', 5) :: _⟩ => match asCall o1, asCall o2 with
        | some (f1, []), some (f2, [.tmp 1]) => f1 == np && f2 == mv && (P.underlying s).isSome && (match P.underlying t with | some (.int .i64) => true | _ => false) && r' == res
        | _, _ => false
      | _ => false
    | _ => false
  | _, _ => false
def chkMv (fn : Func) (most : Nat) : Bool :=
  match fn.body, resTmp fn with
  | some c, some res => fits fn.ntmps c && Nat.ble 1 fn.ntmps && match flat c with
    | [c0, c1, .ret] => isIdle [] c0 && match canR c1 with
      | some ⟨[(.assign (.const (.int .i16 m)), _)], (r', 1) :: _⟩ => m == (most : Int) && r' == res
      | _ => false
    | _ => false
  | _, _ => false
theorem chkMv_calls {P : Program} {f : FuncId} {fn : Func} {most : Nat} (hf : P.funcs[f]? = some fn) (h : chkMv fn most = true) (w : World) (p : Value) : Calls P f #[p] w fun en w' => en = .returned (.int .i16 (most : Int)) ∧ w' = w := by
  unfold chkMv at h
  split at h
  · rename_i c res hbody hres
    simp only [Bool.and_eq_true] at h
    obtain ⟨⟨hfit, hn⟩, h⟩ := h
    split at h
    · rename_i c0 c1 hflat
      simp only [Bool.and_eq_true] at h
      obtain ⟨h0, h⟩ := h
      split at h
      · rename_i m ty r' b hc
        simp only [Bool.and_eq_true, beq_iff_eq] at h
        obtain ⟨rfl, rfl⟩ := h
        refine (Calls.of_CW hf hbody hfit (by simpa using hn) (CW.of_flat ?_) (R := fun x w' => x = .int .i16 (most : Int) ∧ w' = w)).mono fun en w' ⟨x, he, hx, hw⟩ => ⟨by rw [he, hx], hw⟩
        rw [hflat]
        refine CWL.idle h0 fun σ0 he0 => ?_
        refine CWL.reg hc (OpK.assign ?_)
        simp only [RC, ev_const]
        refine CWL.ret ?_
        simp only [Ends]
        unfold resTmp at hres
        split at hres
        · rename_i t ht
          simp only [Option.some.injEq] at hres
          subst hres
          refine ⟨_, by simp only [resOf, ht]; rfl, ?_, by trivial⟩
          rw [outF_head]
          simp [upd]
        · cases hres
      · cases h
    · cases h
  · cases h
theorem chkMax_is {P : Program} {tab : List (Nat × Rf)} {gE : Nat} {eV : Value} (hX : ∀ f a, rfAt tab f = some a → Callable P f ∧ RfOk P gE eV f a) {f np mv : FuncId} {fn fnp fmv : Func} {T : Ty} {t : TypeId} {ps : List (Nat × V)} {most : Nat} (hf : P.funcs[f]? = some fn) (h : chkMax P fn np mv = true) (hc : Callable P f)
    (hnp : P.funcs[np]? = some fnp) (hnp2 : chkNp P tab fnp T = some (t, ps)) (hnp3 : Callable P np) (hmv : P.funcs[mv]? = some fmv) (hmv2 : chkMv fmv most = true) (hmv3 : Callable P mv) (hm : most < 1000) : MaxIs P f most := by
  refine ⟨hc, fun w => ?_⟩
  unfold chkMax at h
  split at h
  · rename_i c res hbody hres
    simp only [Bool.and_eq_true] at h
    obtain ⟨hfit, h⟩ := h
    split at h
    · rename_i c0 c1 hflat
      simp only [Bool.and_eq_true] at h
      obtain ⟨h0, h⟩ := h
      split at h
      · rename_i o1 ty1 o2 ty2 s' t' ty3 r' b hcan
        split at h
        · rename_i f1 f2 ho1 ho2
          simp only [Bool.and_eq_true, beq_iff_eq] at h
          obtain ⟨⟨⟨⟨rfl, rfl⟩, hs⟩, ht⟩, rfl⟩ := h
          have ht' : P.underlying t' = some (.int .i64) := by
            split at ht
            · assumption
            · cases ht
          refine (Calls.of_CW hf hbody hfit (by simp) (CW.of_flat ?_) (R := fun x w' => x = .int .i64 (most : Int) ∧ Ch (fun _ => False) w w')).mono fun en w' ⟨x, he, hx, hw⟩ => ⟨by rw [he, hx], hw⟩
          rw [hflat]
          refine CWL.idle h0 fun σ0 he0 => ?_
          refine CWL.reg hcan (OpK.asCall ho1 hnp3 rfl ?_)
          simp only [List.map_nil]
          refine (chkNp_calls hX hnp hnp2 w).mono fun en w1 ⟨cells, he, _, _, _, hch⟩ => ⟨_, he, ?_⟩
          refine OpK.asCall ho2 hmv3 rfl ?_
          simp only [List.map_cons, List.map_nil]
          refine (chkMv_calls hmv hmv2 w1 _).mono fun en w2 ⟨he, hw⟩ => ⟨_, he, ?_⟩
          subst hw
          refine OpK.convInt (k := .i16) (k' := .i64) (n := (most : Int)) hs ht' (by simp [upd]) ?_
          simp only [RC]
          refine CWL.ret ?_
          simp only [Ends]
          unfold resTmp at hres
          split at hres
          · rename_i t ht
            simp only [Option.some.injEq] at hres
            subst hres
            refine ⟨_, by simp only [resOf, ht]; rfl, ?_, hch⟩
            rw [outF_head]
            simp only [upd_same]
            rw [i64_nat most (by omega)]
          · cases hres
        · cases h
      · cases h
    · cases h
  · cases h

/-! ### The law -/
/-- 'if X { return b }', where X is asked in one region. -/
def retB (res : Nat) (b : Bool) (cs : List Code) : Bool :=
  match cs with
  | [c, .ret] => match canR c with
    | some ⟨[(.assign (.const (.bool b')), _)], (d, 1) :: _⟩ => b' == b && d == res
    | _ => false
  | _ => false
theorem retB_sound {P : Program} {fn : Func} {n res : Nat} {b : Bool} {cs : List Code} (h : retB res b cs = true) (hres : resTmp fn = some res) {σ : Fm} {w : World} {R : Value → World → Prop} {Q : Exit → Fm → World → Prop} (hQ : ∀ σ w, Ends fn R .ret σ w → Q .ret σ w) (hR : R (.bool b) w) : CWL P n cs σ w Q := by
  unfold retB at h
  split at h
  · rename_i c
    split at h
    · rename_i b' ty d bb hc
      simp only [Bool.and_eq_true, beq_iff_eq] at h
      obtain ⟨rfl, rfl⟩ := h
      refine CWL.reg hc (OpK.assign ?_)
      simp only [RC, ev_const]
      refine CWL.ret (hQ _ _ ?_)
      simp only [Ends]
      unfold resTmp at hres
      split at hres
      · rename_i t ht
        simp only [Option.some.injEq] at hres
        subst hres
        refine ⟨_, by simp only [resOf, ht]; rfl, ?_⟩
        rw [outF_head]
        simpa [upd] using hR
      · cases hres
    · cases h
  · cases h

structure AnyF where
  mx : FuncId
  vf : FuncId
  ag : FuncId
  same : FuncId

/-- The end of the law: both were read, and are the same. -/
def sameEnd (F : AnyF) (res a b too : Nat) (cs : List Code) : Bool :=
  match cs with
  | [.region _ ops false, .ret] => match ops.toList with
    | [⟨some x1, .move (.tmp s1), _, _, _, none⟩, ⟨some x2, .move (.tmp s2), _, _, _, none⟩, ⟨some x3, .move (.tmp s3), _, _, _, some (1, true)⟩, ⟨some x4, .move (.tmp s4), _, _, _, some (1, true)⟩, ⟨some x5, o, _, _, _, some (1, true)⟩, ⟨some x6, .pick (.tmp s6) (.tmp s7) (.const (.bool false)), _, _, _, none⟩, ⟨some x7, .assign (.tmp s8), _, _, _, none⟩] =>
      match asCall o with
      | some (f, [.tmp s9, .tmp s10]) => f == F.same && s1 == too && s2 == x1 && s3 == a && s4 == b && s9 == x3 && s10 == x4 && s6 == x2 && s7 == x5 && s8 == x6 && x7 == res && x1 != a && x1 != b && x2 != a && x2 != b && x2 != x1 && x3 != b && x3 != x2 && x4 != x3 && x4 != x2 && x5 != x2
      | _ => false
    | _ => false
  | _ => false

theorem sameEnd_sound {P : Program} {fn : Func} {n res a b too : Nat} {F : AnyF} {cs : List Code} (h : sameEnd F res a b too cs = true) (hS : SameIs P F.same) (hres : resTmp fn = some res) {σ : Fm} {w : World} {R : Value → World → Prop} {va vb : Value} {S : Nat → Prop} {la lb : List UInt8}
    (ha : σ a = va) (hb : σ b = vb) (ht : σ too = .bool true) (hoa : OctIs w S la va) (hob : OctIs w S lb vb) (hSb : ∀ k, S k → k < w.heap.size) (hla : la.length ≤ 4611686018427387904) (hlb : lb.length ≤ 4611686018427387904) (hR : ∀ w', Ch (fun _ => False) w w' → R (.bool (la == lb)) w') : CWL P n cs σ w (Ends fn R) := by
  unfold sameEnd at h
  split at h
  · rename_i id ops
    split at h
    · rename_i x1 s1 ty1 p1 f1 x2 s2 ty2 p2 f2 x3 s3 ty3 p3 f3 x4 s4 ty4 p4 f4 x5 o ty5 p5 f5 x6 s6 s7 ty6 p6 f6 x7 s8 ty7 p7 f7 hops
      split at h
      · rename_i f s9 s10 ho
        simp only [Bool.and_eq_true, beq_iff_eq, bne_iff_ne, ne_eq] at h
        obtain ⟨⟨⟨⟨⟨⟨⟨⟨⟨⟨⟨⟨⟨⟨⟨⟨⟨⟨⟨⟨rfl, rfl⟩, rfl⟩, rfl⟩, rfl⟩, rfl⟩, rfl⟩, rfl⟩, rfl⟩, rfl⟩, rfl⟩, h1a⟩, h1b⟩, h2a⟩, h2b⟩, h21⟩, h3b⟩, h32⟩, h43⟩, h42⟩, h52⟩ := h
        have hopsA := arr_of_list hops
        refine CWL.cons (CW.region ?_)
        rw [hops]
        have hy : ∀ (τ : Fm), τ s6 = .bool true → yv ops τ 1 = some true := by
          intro τ hτ
          subst hopsA
          simp [yv, hτ]
        refine RW.c rfl (OpK.move ?_)
        refine RW.c rfl (OpK.move ?_)
        refine RW.want (by unfold wantedB; simp only; rw [hy _ (by simp [ht])]; rfl) (OpK.move ?_)
        refine RW.want (by unfold wantedB; simp only; rw [hy _ (by rw [upd_ne _ _ (Ne.symm h32)]; simp [ht])]; rfl) (OpK.move ?_)
        refine RW.want (by unfold wantedB; simp only; rw [hy _ (by rw [upd_ne _ _ (Ne.symm h42), upd_ne _ _ (Ne.symm h32)]; simp [ht])]; rfl) (OpK.asCall ho hS.1 rfl ?_)
        simp only [List.map_cons, List.map_nil, ev_tmp]
        have e9 : upd (upd (upd (upd σ (some s2) (σ s1)) (some s6) (upd σ (some s2) (σ s1) s2)) (some s9) (upd (upd σ (some s2) (σ s1)) (some s6) (upd σ (some s2) (σ s1) s2) s3)) (some s10)
            (upd (upd (upd σ (some s2) (σ s1)) (some s6) (upd σ (some s2) (σ s1) s2)) (some s9) (upd (upd σ (some s2) (σ s1)) (some s6) (upd σ (some s2) (σ s1) s2) s3) s4) s9 = va := by
          rw [upd_ne _ _ (Ne.symm h43), upd_same, upd_ne _ _ (Ne.symm h2a), upd_ne _ _ (Ne.symm h1a)]; exact ha
        have e10 : upd (upd (upd (upd σ (some s2) (σ s1)) (some s6) (upd σ (some s2) (σ s1) s2)) (some s9) (upd (upd σ (some s2) (σ s1)) (some s6) (upd σ (some s2) (σ s1) s2) s3)) (some s10)
            (upd (upd (upd σ (some s2) (σ s1)) (some s6) (upd σ (some s2) (σ s1) s2)) (some s9) (upd (upd σ (some s2) (σ s1)) (some s6) (upd σ (some s2) (σ s1) s2) s3) s4) s10 = vb := by
          rw [upd_same, upd_ne _ _ (Ne.symm h3b), upd_ne _ _ (Ne.symm h2b), upd_ne _ _ (Ne.symm h1b)]; exact hb
        rw [e9, e10]
        refine (hS.2 w S la lb va vb hoa hob hSb hla hlb).mono fun en w' ⟨he, hc⟩ => ⟨_, he, ?_⟩
        refine RW.c rfl (OpK.pick (b := true) (by
          simp only [ev_tmp]
          rw [upd_ne _ _ (Ne.symm h52), upd_ne _ _ (Ne.symm h42), upd_ne _ _ (Ne.symm h32), upd_same, upd_same, ht]) ?_)
        simp only [if_true, ev_tmp, upd_same]
        refine RW.c rfl (OpK.assign ?_)
        refine RW.z ?_
        refine CWL.ret ?_
        simp only [Ends]
        unfold resTmp at hres
        split at hres
        · rename_i t htt
          simp only [Option.some.injEq] at hres
          subst hres
          refine ⟨_, by simp only [resOf, htt]; rfl, ?_⟩
          simp only [ev_tmp, upd_same]
          exact hR w' hc
        · cases hres
      · cases h
    · cases h
  · cases h
end Go.Kx
