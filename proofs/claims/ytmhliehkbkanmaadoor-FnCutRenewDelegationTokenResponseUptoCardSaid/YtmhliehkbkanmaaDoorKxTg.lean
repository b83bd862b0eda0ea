/- Library texts Df Rd2 Tg, joined. -/
import Derived.Test.YtmhliehkbkanmaaDoorKxRx9
import Derived.Test.YtmhliehkbkanmaaDoorKxDraw
import Derived.Laws.IdiomStrings
import Derived.Laws.BytesArg
import Derived.Laws.IdiomCopy
import Derived.ScopeJumps
import Derived.WalkSpells
/- The functions that lay the defaults of a part. -/
namespace Go.Kx
open Go.RowKit
set_option linter.unusedSimpArgs false
set_option linter.unusedVariables false

def dfOne (P : Program) (T : Ty) (c : Code) : Option (Nat × V) :=
  match canR c with
  | some ⟨[(.nilCheck (.tmp 0), _), (.fieldAddr tid (.tmp 1) k, _), (.store st (.tmp 3) (.const (.int kk z)), _)], b⟩ =>
    match T.fld k with
    | some (ty, off) => if decide (ty = .int kk) && fieldOff P tid k == some off && (P.info? st).map (·.size) == some 1 && kk.wrap z == z && free [0] b then some (k, .i z) else none
    | none => none
  | _ => none
/-- A field's address, of no use; or nothing. -/
def dfSkip (P : Program) (c : Code) : Bool :=
  isIdle [0] c || match canR c with
  | some ⟨[(.nilCheck (.tmp 0), _), (.fieldAddr tid (.tmp 1) k, _)], b⟩ => (fieldOff P tid k).isSome && free [0] b
  | _ => false
def dfS (P : Program) (T : Ty) : List Code → Option (List (Nat × V))
  | [] => some []
  | c :: cs => if dfSkip P c then dfS P T cs else match dfOne P T c, dfS P T cs with
    | some x, some l => some (x :: l)
    | _, _ => none
theorem dfSkip_sound {P : Program} {n : Nat} {c : Code} {a : Addr} (h : dfSkip P c = true) {cs : List Code} {σ : Fm} {w : World} {Q : Exit → Fm → World → Prop} (hp : σ 0 = .pointer (some a)) (hk : ∀ σ', σ' 0 = σ 0 → CWL P n cs σ' w Q) : CWL P n (c :: cs) σ w Q := by
  unfold dfSkip at h
  rw [Bool.or_eq_true] at h
  rcases h with h | h
  · exact CWL.idle h fun σ' he => hk σ' (he 0 (by simp))
  · split at h
    · rename_i ty1 tid k ty2 b hc
      simp only [Bool.and_eq_true] at h
      obtain ⟨h1, hfree⟩ := h
      obtain ⟨off, hoff⟩ := Option.isSome_iff_exists.1 h1
      refine CWL.reg hc ?_
      refine OpK.nilCheck (a := a) (by simp only [ev_tmp]; exact (enF_two σ 0).trans hp) ?_
      refine OpK.fieldAddr hoff (a := a) (by simp [upd]) ?_
      simp only [RC]
      refine hk _ ?_
      rw [outF_free hfree (by simp), upd_odd _ _ _ _ (by omega), upd_odd _ _ _ _ (by omega), enF_two]
    · cases h
def chkDf (P : Program) (fn : Func) (T : Ty) : Option (List (Nat × V)) :=
  match fn.body with
  | some c => if fits fn.ntmps c && Nat.ble 1 fn.ntmps && fn.results.toList.isEmpty then dfS P T (flat c) else none
  | none => none

theorem dfS_sound {P : Program} {n : Nat} {T : Ty} {g o : Nat} {t : TypeId} {S : Nat → Prop} (hg : ¬ S g) : ∀ (cs : List Code) {ps : List (Nat × V)} {σ : Fm} {w : World} {cells : List Value} {v : V} {Q : Exit → Fm → World → Prop}, dfS P T cs = some ps → σ 0 = .pointer (some ⟨g, o, none⟩) → Blk w g t cells →
    Rep w S T v ((cells.drop o).take T.size) → o + T.size ≤ cells.length →
    (∀ σ' w' c', Blk w' g t (spl cells o c') → Rep w' S T (v.puts ps) c' → Ch (fun k => k = g) w w' → Q .normal σ' w') → CWL P n cs σ w Q
  | [], ps, σ, w, cells, v, Q, h, hp, hb, hr, hl, hk => by
    simp only [dfS, Option.some.injEq] at h
    subst h
    have hsz := hr.size
    refine hk σ w _ ?_ hr (Ch.refl _ _)
    have : spl cells o ((cells.drop o).take T.size) = cells := by
      apply List.ext_getElem?
      intro i
      rw [spl_get (by omega), hsz, List.getElem?_take, List.getElem?_drop]
      by_cases h1 : i < o
      · rw [if_pos h1]
      · rw [if_neg h1]
        by_cases h2 : i < o + T.size
        · rw [if_pos h2, if_pos (by omega)]
          congr 1
          omega
        · rw [if_neg h2]
    rw [this]
    exact hb
  | c :: cs, ps, σ, w, cells, v, Q, h, hp, hb, hr, hl, hk => by
    simp only [dfS] at h
    split at h
    · rename_i hsk
      exact dfSkip_sound hsk hp fun σ' he => dfS_sound hg cs h (he.trans hp) hb hr hl hk
    split at h
    · rename_i x l hx hrest
      simp only [Option.some.injEq] at h
      subst h
      unfold dfOne at hx
      split at hx
      · rename_i ty1 tid k ty2 st kk z ty3 b hc
        split at hx
        · rename_i ty off hf
          split at hx
          · rename_i hh
            simp only [Option.some.injEq] at hx
            subst hx
            simp only [Bool.and_eq_true, beq_iff_eq, decide_eq_true_eq] at hh
            obtain ⟨⟨⟨⟨rfl, hoff⟩, hst⟩, hw⟩, hfree⟩ := hh
            have hu : Rep w S (.int kk) (.i z) [.int kk z] := ⟨rfl, hw⟩
            obtain ⟨_, _, _, _, hbd⟩ := hr.fld hf
            have hsz := hr.size
            simp only [Ty.size] at hbd
            refine CWL.reg hc ?_
            refine OpK.nilCheck (a := ⟨g, o, none⟩) (by simp only [ev_tmp]; exact (enF_two σ 0).trans hp) ?_
            refine OpK.fieldAddr hoff (a := ⟨g, o, none⟩) (by simp [upd]) ?_
            refine OpK.storeV (c := [.int kk z]) (v := .int kk z) (g := g) (o := o + off) (tG := t) (cells := cells) (by rw [hst]; rfl) (by simp [upd, add_at]) rfl (.inr rfl) (fun u hu => by simp at hu; subst hu; rfl) hb (by simp only [List.length_cons, List.length_nil]; omega) ?_
            simp only [RC]
            have hb2 := hb.setCells [.int kk z] (o + off) (by simp only [List.length_cons, List.length_nil]; omega)
            have hc2 := setCells_ch g [.int kk z] (o + off) w
            have hk2 : ∀ k, S k → (w.setCells g (o + off) [.int kk z]).heap[k]? = w.heap[k]? := fun k hS => setCells_heap g _ _ _ _ fun e => hg (e ▸ hS)
            have hr2 : Rep (w.setCells g (o + off) [.int kk z]) S T (v.put k (.i z)) (((spl cells (o + off) [.int kk z]).drop o).take T.size) := by
              rw [spl_sub (by simp only [List.length_cons, List.length_nil]; omega) hl]
              exact (hr.put hf hu).keep hk2
            have hl2 : o + T.size ≤ (spl cells (o + off) [.int kk z]).length := by rw [spl_len (by simp only [List.length_cons, List.length_nil]; omega)]; exact hl
            refine dfS_sound hg cs hrest ?_ hb2 hr2 hl2 fun σ' w' c' hb3 hr3 hc3 => hk σ' w' c' ?_ hr3 (hc2.trans' hc3)
            · rw [outF_free hfree (by simp), upd_odd _ _ _ _ (by omega), upd_odd _ _ _ _ (by omega), upd_odd _ _ _ _ (by omega), enF_two]
              exact hp
            · have hc'l := hr3.size
              have hl1 : off + 1 ≤ T.size := by omega
              have : spl (spl cells (o + off) [.int kk z]) o c' = spl cells o c' := by
                apply List.ext_getElem?
                intro i
                rw [spl_get (by omega), spl_get (by simp only [List.length_cons, List.length_nil]; omega), spl_get (by omega)]
                by_cases h1 : i < o
                · rw [if_pos h1, if_pos h1, if_pos (by omega)]
                · rw [if_neg h1, if_neg h1]
                  by_cases h2 : i < o + c'.length
                  · rw [if_pos h2, if_pos h2]
                  · rw [if_neg h2, if_neg h2, if_neg (by omega), if_neg (by simp only [List.length_cons, List.length_nil]; omega)]
              rw [this] at hb3
              exact hb3
          · cases hx
        · cases hx
      · cases hx
    · cases h

theorem chkDf_ok {P : Program} {gE : Nat} {eV : Value} {f : FuncId} {fn : Func} {T : Ty} {ps : List (Nat × V)} (hf : P.funcs[f]? = some fn) (h : chkDf P fn T = some ps) : RfOk P gE eV f (.dflt T ps) := by
  intro w S g o t cells v hb hr hl hg
  unfold chkDf at h
  split at h
  · rename_i c hbody
    split at h
    · rename_i hh
      simp only [Bool.and_eq_true, List.isEmpty_iff] at hh
      refine (Calls.of_CW hf hbody hh.1.1 (by simpa using hh.1.2) (CW.of_flat ?_) (R := fun x w' => x = .tuple #[] ∧ ∃ c', Blk w' g t (spl cells o c') ∧ Rep w' S T (v.puts ps) c' ∧ Ch (fun k => k = g) w w')).mono fun en w' ⟨x, he, hx, hR⟩ => ⟨by rw [he, hx], hR⟩
      refine dfS_sound hg (flat c) h rfl hb hr hl fun σ' w' c' h1 h2 h3 => ?_
      simp only [Ends]
      exact ⟨.tuple #[], by unfold resOf; rw [hh.2], rfl, c', h1, h2, h3⟩
    · cases h
  · cases h
end Go.Kx

/- Rules and plain lemmas that the reading functions of a seat want. -/
namespace Go.Kx
open Go.RowKit
set_option linter.unusedSimpArgs false
set_option linter.unusedVariables false

theorem NN.of_step {w : World} {g : Nat} {t : TypeId} {v0 b : Value} (hb : Blk w g t [v0, b]) (a : Addr) (c j n m : Nat) : NN (w.setCell ⟨g, 0, none⟩ (.slice (if c = j then some a else (some a).map (·.add j)) n m)) g := by
  have := (hb.set 0 (.slice (if c = j then some a else (some a).map (·.add j)) n m)).cell 0
  by_cases hc : c = j
  · rw [if_pos hc] at this ⊢
    exact ⟨a, n, m, this⟩
  · rw [if_neg hc] at this ⊢
    exact ⟨a.add j, n, m, this⟩

theorem Got.bind {α β : Type} {s s1 s2 : Rs} {d1 : Dc α} {a : α} {d2 : α → Dc β} {b : β} (h1 : Got s.o d1 a s1) (h2 : Got s1.o (d2 a) b s2) : Got s.o (fun l => (d1 l).bind fun x => d2 x.1 x.2) b s2 := by
  cases ho : s.o with
  | none =>
    rw [Got, ho] at h1
    have hb : s1.bad = true := h1
    rw [Got, show s1.o = none by unfold Rs.o; rw [hb]; rfl] at h2
    exact h2
  | some l =>
    rw [Got, ho] at h1
    simp only [Option.bind_some] at h1
    cases hd : d1 l with
    | none =>
      rw [hd] at h1
      have hb : s1.bad = true := h1
      rw [Got, show s1.o = none by unfold Rs.o; rw [hb]; rfl] at h2
      show (match ((d1 l).bind fun x => d2 x.1 x.2) with | some x => b = x.1 ∧ s2 = ⟨x.2, false⟩ | none => s2.bad = true)
      rw [hd]
      exact h2
    | some x =>
      rw [hd] at h1
      obtain ⟨rfl, rfl⟩ := h1
      rw [Got, show (⟨x.2, false⟩ : Rs).o = some x.2 from rfl] at h2
      simp only [Option.bind_some] at h2
      show (match ((d1 l).bind fun x => d2 x.1 x.2) with | some x => b = x.1 ∧ s2 = ⟨x.2, false⟩ | none => s2.bad = true)
      rw [hd]
      exact h2
theorem Got.map {α β : Type} {s s1 : Rs} {d : Dc α} {a : α} (h : Got s.o d a s1) (f : α → β) : Got s.o (fun l => (d l).map fun x => (f x.1, x.2)) (f a) s1 := by
  cases ho : s.o with
  | none => rw [Got, ho] at h; exact h
  | some l =>
    rw [Got, ho] at h
    simp only [Option.bind_some] at h
    show (match ((d l).map fun x => (f x.1, x.2)) with | some x => f a = x.1 ∧ s1 = ⟨x.2, false⟩ | none => s1.bad = true)
    cases hd : d l with
    | none => rw [hd] at h; exact h
    | some x => rw [hd] at h; exact ⟨by rw [h.1], h.2⟩
theorem Got.pure {α : Type} {s : Rs} (a : α) : Got s.o (fun l => some (a, l)) a s := by
  obtain ⟨r, b⟩ := s
  cases b
  · exact ⟨rfl, rfl⟩
  · rfl
theorem Got.of {α : Type} {s s1 : Rs} {d : Dc α} {a : α} (hb : s.bad = true → s1.bad = true) (hg : s.bad = false → match d s.rest with | some x => a = x.1 ∧ s1 = ⟨x.2, false⟩ | none => s1.bad = true) : Got s.o d a s1 := by
  obtain ⟨r, b⟩ := s
  cases b
  · exact hg rfl
  · exact hb rfl
/-- Where the reader is well, what was got was there. -/
theorem Got.o_some {α : Type} {s s1 : Rs} {d : Dc α} {a : α} (h : Got s.o d a s1) (hb : s1.bad = false) : ∃ l, s.o = some l ∧ d l = some (a, s1.rest) := by
  cases ho : s.o with
  | none => rw [Got, ho] at h; rw [show s1.bad = true from h] at hb; cases hb
  | some l =>
    rw [Got, ho] at h
    simp only [Option.bind_some] at h
    cases hd : d l with
    | none => rw [hd] at h; rw [show s1.bad = true from h] at hb; cases hb
    | some x => rw [hd] at h; exact ⟨l, rfl, by rw [hd, h.1, h.2]⟩

theorem got_int (k : IntKind) (n : Nat) (s : Rs) : Got s.o (decInt k n) (rdInt k n s).1 (rdInt k n s).2 := by
  unfold rdInt rdN
  by_cases h : s.rest.length < n
  · rw [if_pos h]
    exact Got.of (fun _ => rfl) fun _ => by unfold decInt; rw [if_pos h]; rfl
  · rw [if_neg h]
    exact Got.of (fun hb => hb) fun hb => by unfold decInt; rw [if_neg h]; exact ⟨rfl, by rw [← hb]⟩
theorem rdInt_in (k : IntKind) (n : Nat) (s : Rs) : k.wrap (rdInt k n s).1 = (rdInt k n s).1 := by
  unfold rdInt
  split
  · exact wrap_in _ _
  · cases k <;> rfl
theorem got_len (s : Rs) : Got s.o (decLen false) (rdLen s).1 (rdLen s).2 := by
  have h := got_int .i32 4 s
  unfold rdLen
  refine Got.of (fun hb => ?_) fun hb => ?_
  · split
    · rfl
    · have : s.o = none := by unfold Rs.o; rw [hb]; rfl
      rw [Got, this] at h
      exact h
  · have : s.o = some s.rest := by unfold Rs.o; rw [hb]; rfl
    rw [Got, this] at h
    simp only [Option.bind_some] at h
    unfold decLen decCnt
    simp only [Bool.false_eq_true, if_false]
    cases hd : decInt .i32 4 s.rest with
    | none =>
      rw [hd] at h
      simp only [Option.bind_none]
      split
      · rfl
      · exact h
    | some x =>
      rw [hd] at h
      obtain ⟨h1, h2⟩ := h
      simp only [Option.bind_some]
      rw [h2, h1]
      by_cases hlt : (x.2.length : Int) < x.1
      · rw [if_pos hlt, if_pos hlt]; rfl
      · rw [if_neg hlt, if_neg hlt]; exact ⟨h1, h2⟩
theorem rdLen_in (s : Rs) : -2147483648 ≤ (rdLen s).1 ∧ (rdLen s).1 < 2147483648 := by
  unfold rdLen
  split
  · exact ⟨by simp, by simp⟩
  · exact rdInt_i32 s

/-- What is left of a reader that is asked for n octets. -/
theorem got_span (n : Int) (s : Rs) : Got s.o (decSpan n) ((rdSpan n s).1.getD []) (rdSpan n s).2 := by
  unfold rdSpan rdN
  by_cases h0 : n < 0
  · rw [if_pos h0]
    exact Got.of (fun _ => rfl) fun _ => by unfold decSpan; rw [if_pos (.inl h0)]; rfl
  · rw [if_neg h0]
    by_cases h : s.rest.length < n.toNat
    · rw [if_pos h]
      exact Got.of (fun _ => rfl) fun _ => by unfold decSpan; rw [if_pos (.inr (by omega))]; rfl
    · rw [if_neg h]
      exact Got.of (fun hb => hb) fun hb => by unfold decSpan; rw [if_neg (by omega)]; exact ⟨rfl, by rw [← hb]⟩

section
variable {P : Program} {ρ : Operand → Value} {w : World} {K : Value → World → Prop} {d : Option Tmp} {ty : TypeId} {pos : String} {af : Array Edge} {g : Option (Nat × Bool)}
theorem OpK.bytesStr {x : Operand} {s t e : TypeId} {S : Nat → Prop} {l : List UInt8} {v : Value} (hs : P.underlying s = some (.slice e)) (he : P.underlying e = some (.int .u8)) (ht : P.underlying t = some .string) (hx : ρ x = v) (hv : SrcIs w S l v) (h : K (strV l) w) :
    OpK P ρ ⟨d, .convert s t x, ty, pos, af, g⟩ w K := by
  rcases hv with ⟨rfl, rfl⟩ | ⟨a, c, rfl, _, _, _, hO⟩
  · have hr := run_convert_bytes_nil (P := P) (w := w) s e hs he 0 0 t ht
    simp only [OpK, execOp, hx, Sem.run_bind, hr, Result.andThen_ok, Sem.run_pure, After]
    exact h
  · have hr := run_convert_bytes_back (P := P) w s t e a c l hs he ht fun j hj => by
      have := hO j l[j] (by rw [List.getElem?_eq_getElem hj])
      rw [this]
      rfl
    simp only [OpK, execOp, hx, Sem.run_bind, hr, Result.andThen_ok, Sem.run_pure, After]
    exact h
theorem OpK.buildS0 {t e : TypeId} (ht : P.underlying t = some (.slice e)) (hi : (P.info? e).map (fun i => (i.size, i.zero.isSome)) = some (1, true)) (h : K (.slice (some ⟨w.heap.size, 0, none⟩) 0 0) (w.alloc (.cells #[] e))) : OpK P ρ ⟨d, .buildSlice t 0 #[], ty, pos, af, g⟩ w K := by
  obtain ⟨i, hi, hh⟩ := Option.map_eq_some_iff.1 hi
  simp only [Prod.mk.injEq] at hh
  obtain ⟨z, hz⟩ := Option.isSome_iff_exists.1 hh.2
  refine OpK.buildS (v := .slice (some ⟨w.heap.size, 0, none⟩) 0 0) (w' := w.alloc (.cells #[] e)) ?_ h
  simp [Instr.buildSlice, run_underlying ht, sizeOf, typeInfo, hi, hh.1, hz, zeroValue, Instr.fill, newRow]
  exact congrArg (fun c => w.alloc (.cells c e)) (Array.ext' (by simp))
end

/-! ### A scope that is left ahead, to a label -/
def JumpTo (l : Nat) (J : Fm → World → Prop) (Q : Exit → Fm → World → Prop) : Exit → Fm → World → Prop
  | .goto l', σ, w => l' = l ∧ J σ w
  | e, σ, w => Q e σ w
theorem CW.scope {P : Program} {n : Nat} {σ : Fm} {w : World} {Q : Exit → Fm → World → Prop} {c rest : Code} (l : Nat) (hf : findLabel c l = some rest) (hs1 : fits n c = true) (hs2 : fits n rest = true) (J : Fm → World → Prop)
    (first : CW P n c σ w (JumpTo l J Q)) (pass : ∀ σ w, J σ w → CW P n rest σ w (JumpTo l (fun _ _ => False) Q)) : CW P n (.scope c) σ w Q := by
  intro _ a ha
  refine wp_scope_jumps l (fun a w => ∃ σ, Fr n a σ ∧ J σ w) (fun _ _ => 0) hf (wp_mono (first hs1 a ha) fun e a' w' ⟨σ', hfr, hQ⟩ => ?_) fun a w ⟨σ, hfr, hJ⟩ => wp_mono (pass σ w hJ hs2 a hfr) fun e a' w' ⟨σ', hfr', hQ⟩ => ?_
  · cases e with
    | goto l' => exact ⟨hQ.1, σ', hfr, hQ.2⟩
    | _ => exact ⟨σ', hfr, hQ⟩
  · cases e with
    | goto l' => exact hQ.2.elim
    | _ => exact ⟨σ', hfr', hQ⟩
theorem CW.goto_ {P : Program} {n : Nat} {σ : Fm} {w : World} {Q : Exit → Fm → World → Prop} {l : Nat} (h : Q (.goto l) σ w) : CW P n (.goto l) σ w Q := fun _ a ha => wp_goto ⟨σ, ha, h⟩
theorem CW.label_ {P : Program} {n : Nat} {σ : Fm} {w : World} {Q : Exit → Fm → World → Prop} {l : Nat} (h : Q .normal σ w) : CW P n (.label l) σ w Q := fun _ a ha => wp_label ⟨σ, ha, h⟩

/-! ### A result that lies in a variable -/
def EndsCell (t : Nat) (ty : TypeId) (P : Program) (R : Value → World → Prop) : Exit → Fm → World → Prop
  | .normal, σ, w | .ret, σ, w => ∃ a v, σ t = .pointer (some a) ∧ (loadVar ty a).run P w = .ok v w ∧ R v w
  | _, _, _ => False
theorem Calls.of_CW_cell {P : Program} {f : FuncId} {fn : Func} {c : Code} {args : Array Value} {w : World} {R : Value → World → Prop} {t : Nat} {ty : TypeId}
    (hf : P.funcs[f]? = some fn) (hb : fn.body = some c) (hs : fits fn.ntmps c = true) (hn : args.size ≤ fn.ntmps) (hres : fn.results = #[.cell t ty])
    (h : CW P fn.ntmps c (frame0 args) w (EndsCell t ty P R)) : Calls P f args w fun e w' => ∃ v, e = .returned v ∧ R v w' := by
  have key : ∀ {a : Act} {σ : Fm} {w : World}, Fr fn.ntmps a σ → (∃ ad v, σ t = .pointer (some ad) ∧ (loadVar ty ad).run P w = .ok v w ∧ R v w) → ∃ v, (results fn a.tmps).run P w = .ok v w ∧ R v w := by
    intro a σ w hfr ⟨ad, v, h1, h2, h3⟩
    refine ⟨v, ?_, h3⟩
    have hat := hfr.at_ t
    rw [h1] at hat
    rw [Array.getD_eq_getD_getElem?] at hat
    simp [results, hres, hat, asAddr, h2, Sem.run_bind]
  refine calls_of_wp hf hb (wp_mono (h hs _ ⟨by simp; omega, rfl, fun t => ?_⟩) fun e a w' ⟨σ', hfr, hQ⟩ => ?_)
  · simp only [frame0, Array.getD_eq_getD_getElem?]
    by_cases ht : t < args.size
    · rw [Array.getElem?_append_left ht]
    · rw [Array.getElem?_append_right (by omega), Array.getElem?_eq_none (xs := args) (by omega)]
      by_cases hr : t - args.size < fn.ntmps - args.size
      · rw [Array.getElem?_replicate, if_pos hr]; rfl
      · rw [Array.getElem?_replicate, if_neg hr]
  · cases e with
    | normal => obtain ⟨v, h1, h2⟩ := key hfr hQ; exact ⟨hfr.defers, v, h1, v, rfl, h2⟩
    | ret => obtain ⟨v, h1, h2⟩ := key hfr hQ; exact ⟨hfr.defers, v, h1, v, rfl, h2⟩
    | _ => exact hQ.elim
end Go.Kx
namespace Go.Kx
open Go.RowKit
def rdBool (s : Rs) : Bool × Rs :=
  match s.rest with
  | [] => (false, Rs.fail)
  | b :: l => (b != 0, ⟨l, s.bad⟩)
theorem got_bool (s : Rs) : Got s.o decBool (.b (rdBool s).1) (rdBool s).2 := by
  obtain ⟨l, b⟩ := s
  cases l with
  | nil => exact Got.of (fun _ => rfl) fun _ => rfl
  | cons x l => exact Got.of (fun hb => hb) fun hb => ⟨rfl, by simp only [rdBool]; exact congrArg _ hb⟩
theorem rdInt_u64_i64 (s : Rs) : IntKind.i64.wrap (rdInt .u64 8 s).1 = (rdInt .i64 8 s).1 ∧ (rdInt .u64 8 s).2 = (rdInt .i64 8 s).2 := by
  unfold rdInt
  cases h : rdN 8 s with
  | mk o s' =>
    cases o with
    | none => exact ⟨rfl, rfl⟩
    | some l =>
      refine ⟨?_, rfl⟩
      simp only
      rw [← wrap_mod .i64 (IntKind.u64.wrap _), show (2 : Int) ^ IntKind.i64.bits = 2 ^ IntKind.u64.bits from rfl, wrap_emod, show (2 : Int) ^ IntKind.u64.bits = 2 ^ IntKind.i64.bits from rfl, wrap_mod]
theorem oct1 {l : List UInt8} (h : ¬ l.length < 1) : ∃ b r, l = b :: r := by
  cases l with
  | nil => exact absurd (by simp) h
  | cons b r => exact ⟨b, r, rfl⟩
theorem byte_ne (b : UInt8) : ((b.toNat : Int) != 0) = (b != 0) := by
  by_cases h : b = 0
  · subst h; rfl
  · have : b.toNat ≠ 0 := fun e => h (UInt8.toNat_inj.1 e)
    rw [show (b != 0) = true by simpa using h]
    simpa using this
theorem i64_of_i16 (n : Int) (h : IntKind.i16.wrap n = n) : IntKind.i64.wrap n = n := by
  simp only [IntKind.wrap, IntKind.bits, IntKind.signed, Bool.true_and, decide_eq_true_eq, show ((2 : Int) ^ 16) = 65536 from rfl, show ((2 : Int) ^ (16 - 1)) = 32768 from rfl] at h
  refine i64_in n ?_ ?_ <;> split at h <;> omega
theorem i64_of_u32 (n : Nat) (h : n < 4294967296) : IntKind.i64.wrap (n : Int) = n ∧ IntKind.i64.wrap ((n : Int) - 1) = (n : Int) - 1 := by
  constructor
  · exact i64_nat n (by omega)
  · rw [IntKind.wrap_i64]; omega
/-- A span of what is left. -/
theorem SrcIs.span {w : World} {S : Nat → Prop} {l : List UInt8} {a : Option Addr} {c j : Nat} (h : SrcIs w S l (.slice a l.length c)) (hj : j ≤ l.length) : SrcIs w S (l.take j) (.slice (if j = 0 then a else a.map (·.add 0)) j j) := by
  rcases h with ⟨h, rfl⟩ | ⟨a', c', h1, h2, h3, h4, h5⟩
  · simp only [Value.slice.injEq] at h
    obtain ⟨rfl, _, rfl⟩ := h
    simp at hj
    subst hj
    exact .inl ⟨by simp, by simp⟩
  · simp only [Value.slice.injEq] at h1
    obtain ⟨rfl, _, rfl⟩ := h1
    have e : (if j = 0 then some a' else (some a').map (·.add 0)) = some a' := by
      split
      · rfl
      · simp [addr_add_zero]
    rw [e]
    exact .inr ⟨a', j, by simp [Nat.min_eq_left hj], by simp; omega, ⟨by omega, by simp; omega⟩, h4, h5.take j⟩
theorem span_some {a' : Addr} {j : Nat} : (if j = 0 then some a' else (some a').map (·.add 0)) = some a' := by
  split
  · rfl
  · simp [addr_add_zero]
end Go.Kx
namespace Go.Kx
open Go.RowKit
theorem Got.mk_none {α : Type} {l : List UInt8} {d : Dc α} {a : α} {s : Rs} (h : d l = none) (hb : s.bad = true) : Got (some l) d a s := by
  unfold Got
  rw [Option.bind_some, h]
  exact hb
theorem Got.mk_some {α : Type} {l l' : List UInt8} {d : Dc α} {a : α} (h : d l = some (a, l')) : Got (some l) d a ⟨l', false⟩ := by
  unfold Got
  rw [Option.bind_some, h]
  exact ⟨rfl, rfl⟩
theorem got_check {fx : Bool} {s s1 : Rs} {n : Int} (h : Got s.o (decCnt fx) n s1) : if (s1.rest.length : Int) < n then Got s.o (decLen fx) 0 Rs.fail else Got s.o (decLen fx) n s1 := by
  cases ho : s.o with
  | none =>
    rw [Got, ho] at h
    split
    · rfl
    · exact h
  | some l =>
    rw [Got, ho] at h
    simp only [Option.bind_some] at h
    cases hd : decCnt fx l with
    | none =>
      rw [hd] at h
      have e : decLen fx l = none := by unfold decLen; rw [hd]; rfl
      split
      · exact Got.mk_none e rfl
      · exact Got.mk_none e h
    | some x =>
      rw [hd] at h
      obtain ⟨rfl, rfl⟩ := h
      simp only
      split
      · rename_i hlt
        have e : decLen fx l = none := by unfold decLen; rw [hd]; simp only [Option.bind_some]; rw [if_pos hlt]
        exact Got.mk_none e rfl
      · rename_i hlt
        have e : decLen fx l = some x := by unfold decLen; rw [hd]; simp only [Option.bind_some]; rw [if_neg hlt]
        exact Got.mk_some e

/-- What kbin.Uvarint answers. -/
def UvIs (l : List UInt8) (x m : Int) : Prop :=
  match decUv l with
  | some y => x = y.1 ∧ m = (l.length : Int) - y.2.length
  | none => x = 0 ∧ m ≤ 0
theorem uv_suffix : ∀ (i : Nat) {l l' : List UInt8} {n : Nat}, decUvA i l = some (n, l') → ∃ c, l = c ++ l'
  | 0, [], _, _, h => by simp [decUvA] at h
  | i + 1, [], _, _, h => by simp [decUvA] at h
  | 0, b :: l, l', n, h => by
    rw [decUvA] at h
    split at h
    · simp only [Option.some.injEq, Prod.mk.injEq] at h; exact ⟨[b], by rw [h.2]; rfl⟩
    · cases h
  | i + 1, b :: l, l', n, h => by
    rw [decUvA] at h
    split at h
    · simp only [Option.some.injEq, Prod.mk.injEq] at h; exact ⟨[b], by rw [h.2]; rfl⟩
    · obtain ⟨⟨m, l2⟩, hm, he⟩ := Option.map_eq_some_iff.1 h
      simp only [Prod.mk.injEq] at he
      obtain ⟨c, hc⟩ := uv_suffix i hm
      exact ⟨b :: c, by rw [hc, he.2]; rfl⟩
theorem uv_drop {l : List UInt8} {y : Nat × List UInt8} {mn : Nat} (h : decUv l = some y) (hm : (mn : Int) = (l.length : Int) - y.2.length) : l.drop mn = y.2 := by
  obtain ⟨n, l'⟩ := y
  obtain ⟨c, rfl⟩ := uv_suffix 4 h
  rw [List.length_append] at hm
  have : mn = c.length := by simp only at hm; omega
  rw [this]
  simp
theorem u8_and (m : Nat) (b : UInt8) : bits .and .u8 (b.toNat : Int) ((m : Nat) : Int) = ((b.toNat &&& (m % 256) : Nat) : Int) := by
  have hb := b.toNat_lt
  show IntKind.u8.wrap ((BitVec.ofInt 8 (b.toNat : Int) &&& BitVec.ofInt 8 (m : Int)).toNat : Int) = _
  rw [BitVec.toNat_and, BitVec.toNat_ofInt, BitVec.toNat_ofInt]
  have e1 : ((b.toNat : Int) % ((2 ^ 8 : Nat) : Int)).toNat = b.toNat := by omega
  have e2 : ((m : Int) % ((2 ^ 8 : Nat) : Int)).toNat = m % 256 := by omega
  rw [e1, e2, IntKind.wrap_u8]
  have : b.toNat &&& (m % 256) ≤ b.toNat := Nat.and_le_left
  omega
theorem u8_and127 (b : UInt8) : bits .and .u8 (b.toNat : Int) 127 = ((b.toNat % 128 : Nat) : Int) := by
  have := u8_and 127 b
  rw [show (127 % 256 : Nat) = 2 ^ 7 - 1 from rfl, Nat.and_two_pow_sub_one_eq_mod] at this
  exact this
theorem u8_and128 (b : UInt8) : (bits .and .u8 (b.toNat : Int) 128 == 0) = decide (b.toNat < 128) := by
  have key : ∀ x : Fin 256, (((x.1 &&& (128 % 256) : Nat) : Int) == 0) = decide (x.1 < 128) := by decide +kernel
  rw [show bits .and .u8 (b.toNat : Int) 128 = _ from u8_and 128 b]
  exact key ⟨b.toNat, b.toNat_lt⟩
theorem u8_last (b : UInt8) (h : b.toNat < 128) : (bits .and .u8 (b.toNat : Int) 128 == 0) = true := by rw [u8_and128]; simpa using h
theorem u8_more (b : UInt8) (h : ¬ b.toNat < 128) : (bits .and .u8 (b.toNat : Int) 128 == 0) = false := by rw [u8_and128]; simpa using h

/-- The number after k groups, as the code has it. -/
def uvX : List UInt8 → Nat → Int → Int
  | [], _, x => x
  | b :: l, j, x => uvX l (j + 7) (bits .or .u32 x (IntKind.u32.wrap (IntKind.u32.wrap (bits .and .u8 (b.toNat : Int) 127) * 2 ^ min ((j : Int).toNat) IntKind.u32.bits)))
theorem grp_up (b : UInt8) (x j : Nat) (hx : x < 2 ^ j) (hj : j + 7 ≤ 32) : bits .or .u32 (x : Int) (IntKind.u32.wrap (IntKind.u32.wrap (bits .and .u8 (b.toNat : Int) 127) * 2 ^ min ((j : Int).toNat) IntKind.u32.bits)) = ((x + b.toNat % 128 * 2 ^ j : Nat) : Int) ∧ x + b.toNat % 128 * 2 ^ j < 2 ^ (j + 7) := by
  have h1 : b.toNat % 128 < 128 := Nat.mod_lt _ (by decide)
  have h2 : (b.toNat % 128 + 1) * 2 ^ j ≤ 128 * 2 ^ j := Nat.mul_le_mul_right _ h1
  have h3 : 128 * 2 ^ j = 2 ^ (j + 7) := by rw [Nat.pow_add, Nat.mul_comm]
  have h4 : x + b.toNat % 128 * 2 ^ j < 2 ^ (j + 7) := by rw [Nat.add_mul, Nat.one_mul, h3] at h2; omega
  have h5 : (2 : Nat) ^ (j + 7) ≤ 2 ^ 32 := Nat.pow_le_pow_right (by decide) hj
  rw [u8_and127]
  have e1 : IntKind.u32.wrap ((b.toNat % 128 : Nat) : Int) = ((b.toNat % 128 : Nat) : Int) := wrap_un .u32 rfl _ (by omega) (by have : (2 : Int) ^ IntKind.u32.bits = 4294967296 := rfl; omega)
  rw [e1, Int.toNat_natCast, show min j IntKind.u32.bits = j from Nat.min_eq_left (by show j ≤ 32; omega)]
  have e2 : (((b.toNat % 128 : Nat) : Int) * 2 ^ j) = ((b.toNat % 128 * 2 ^ j : Nat) : Int) := by rw [Int.natCast_mul, Int.natCast_pow]; rfl
  rw [e2, wrap_un .u32 rfl _ (by omega) (by have : (2 : Int) ^ IntKind.u32.bits = ((2 ^ 32 : Nat) : Int) := rfl; omega)]
  exact ⟨or_parts .u32 rfl x (b.toNat % 128) j hx (by show x + b.toNat % 128 * 2 ^ j < 2 ^ 32; omega), h4⟩
end Go.Kx
namespace Go.Kx
open Go.RowKit
def g0 (b : UInt8) : Int := IntKind.u32.wrap (bits .and .u8 (b.toNat : Int) 127)
def gk (x : Int) (b : UInt8) (j : Int) : Int := bits .or .u32 x (IntKind.u32.wrap (IntKind.u32.wrap (bits .and .u8 (b.toNat : Int) 127) * 2 ^ min j.toNat IntKind.u32.bits))
theorem g0_eq (b : UInt8) : g0 b = ((b.toNat % 128 : Nat) : Int) := by
  unfold g0
  rw [u8_and127]
  exact wrap_un .u32 rfl _ (by omega) (by have : (2 : Int) ^ IntKind.u32.bits = 4294967296 := rfl; omega)
theorem gk_eq (x : Nat) (b : UInt8) (j : Nat) (hx : x < 2 ^ j) (hj : j + 7 ≤ 32) : gk (x : Int) b (j : Int) = ((x + b.toNat % 128 * 2 ^ j : Nat) : Int) := (grp_up b x j hx hj).1
theorem uv_is1 (b0 : UInt8) (h0 : b0.toNat < 128) {l : List UInt8} : UvIs (b0 :: l) (g0 b0) 1 := by
  unfold UvIs
  have : decUv (b0 :: l) = some (b0.toNat, l) := by simp [decUv, decUvA, h0]
  rw [this, g0_eq]
  simp only [List.length_cons]
  omega
theorem uv_is2 (b0 b1 : UInt8) (h0 : ¬ b0.toNat < 128) (h1 : b1.toNat < 128) {l : List UInt8} : UvIs (b0 :: b1 :: l) (gk (g0 b0) b1 7) 2 := by
  unfold UvIs
  have : decUv (b0 :: b1 :: l) = some (b0.toNat - 128 + 128 * b1.toNat, l) := by simp [decUv, decUvA, h0, h1]
  have q0 := b0.toNat_lt
  rw [this, g0_eq, show (7 : Int) = ((7 : Nat) : Int) from rfl, gk_eq _ b1 7 (by omega) (by omega)]
  simp only [List.length_cons]
  omega
theorem uv_is3 (b0 b1 b2 : UInt8) (h0 : ¬ b0.toNat < 128) (h1 : ¬ b1.toNat < 128) (h2 : b2.toNat < 128) {l : List UInt8} : UvIs (b0 :: b1 :: b2 :: l) (gk (gk (g0 b0) b1 7) b2 14) 3 := by
  unfold UvIs
  have : decUv (b0 :: b1 :: b2 :: l) = some (b0.toNat - 128 + 128 * (b1.toNat - 128 + 128 * b2.toNat), l) := by simp [decUv, decUvA, h0, h1, h2]
  have q0 := b0.toNat_lt
  have q1 := b1.toNat_lt
  rw [this, g0_eq, show (7 : Int) = ((7 : Nat) : Int) from rfl, gk_eq _ b1 7 (by omega) (by omega), show (14 : Int) = ((14 : Nat) : Int) from rfl, gk_eq _ b2 14 (by omega) (by omega)]
  simp only [List.length_cons]
  omega
theorem uv_is4 (b0 b1 b2 b3 : UInt8) (h0 : ¬ b0.toNat < 128) (h1 : ¬ b1.toNat < 128) (h2 : ¬ b2.toNat < 128) (h3 : b3.toNat < 128) {l : List UInt8} : UvIs (b0 :: b1 :: b2 :: b3 :: l) (gk (gk (gk (g0 b0) b1 7) b2 14) b3 21) 4 := by
  unfold UvIs
  have : decUv (b0 :: b1 :: b2 :: b3 :: l) = some (b0.toNat - 128 + 128 * (b1.toNat - 128 + 128 * (b2.toNat - 128 + 128 * b3.toNat)), l) := by simp [decUv, decUvA, h0, h1, h2, h3]
  have q0 := b0.toNat_lt
  have q1 := b1.toNat_lt
  have q2 := b2.toNat_lt
  rw [this, g0_eq, show (7 : Int) = ((7 : Nat) : Int) from rfl, gk_eq _ b1 7 (by omega) (by omega), show (14 : Int) = ((14 : Nat) : Int) from rfl, gk_eq _ b2 14 (by omega) (by omega), show (21 : Int) = ((21 : Nat) : Int) from rfl, gk_eq _ b3 21 (by omega) (by omega)]
  simp only [List.length_cons]
  omega
def gL (x : Int) (b : UInt8) : Int := bits .or .u32 x (IntKind.u32.wrap (IntKind.u32.wrap (b.toNat : Int) * 2 ^ min ((28 : Int).toNat) IntKind.u32.bits))
theorem uv_is5 (b0 b1 b2 b3 b4 : UInt8) (h0 : ¬ b0.toNat < 128) (h1 : ¬ b1.toNat < 128) (h2 : ¬ b2.toNat < 128) (h3 : ¬ b3.toNat < 128) (h4 : b4.toNat ≤ 15) {l : List UInt8} : UvIs (b0 :: b1 :: b2 :: b3 :: b4 :: l) (gL (gk (gk (gk (g0 b0) b1 7) b2 14) b3 21) b4) 5 := by
  unfold UvIs
  have : decUv (b0 :: b1 :: b2 :: b3 :: b4 :: l) = some (b0.toNat - 128 + 128 * (b1.toNat - 128 + 128 * (b2.toNat - 128 + 128 * (b3.toNat - 128 + 128 * b4.toNat))), l) := by simp [decUv, decUvA, h0, h1, h2, h3, h4]
  have q0 := b0.toNat_lt
  have q1 := b1.toNat_lt
  have q2 := b2.toNat_lt
  have q3 := b3.toNat_lt
  rw [this, g0_eq, show (7 : Int) = ((7 : Nat) : Int) from rfl, gk_eq _ b1 7 (by omega) (by omega), show (14 : Int) = ((14 : Nat) : Int) from rfl, gk_eq _ b2 14 (by omega) (by omega), show (21 : Int) = ((21 : Nat) : Int) from rfl, gk_eq _ b3 21 (by omega) (by omega)]
  have hL : ∀ x : Nat, x < 2 ^ 28 → gL (x : Int) b4 = ((x + b4.toNat * 2 ^ 28 : Nat) : Int) := by
    intro x hx
    unfold gL
    have e1 : IntKind.u32.wrap (b4.toNat : Int) = (b4.toNat : Int) := wrap_un .u32 rfl _ (by omega) (by have : (2 : Int) ^ IntKind.u32.bits = 4294967296 := rfl; omega)
    rw [e1, show min ((28 : Int).toNat) IntKind.u32.bits = 28 from rfl]
    have e2 : ((b4.toNat : Int) * 2 ^ 28) = ((b4.toNat * 2 ^ 28 : Nat) : Int) := by rw [Int.natCast_mul]; rfl
    rw [e2, wrap_un .u32 rfl _ (by omega) (by have : (2 : Int) ^ IntKind.u32.bits = 4294967296 := rfl; omega)]
    exact or_parts .u32 rfl x b4.toNat 28 hx (by show x + b4.toNat * 2 ^ 28 < 2 ^ 32; omega)
  rw [hL _ (by omega)]
  simp only [List.length_cons]
  omega
theorem bytes_rep {w : World} {S : Nat → Prop} (S' : Nat → Prop) (hS : ∀ k, S k → S' k) {l : List UInt8} {v : Value} (h : SrcIs w S l v) : (v = .slice none 0 0 ∧ l = []) ∨ Rep w S' .bytes (.by_ l) [v] := by
  rcases h with h | ⟨a, c, rfl, h2, h3, h4, h5⟩
  · exact .inl h
  · exact .inr ⟨a, c, rfl, h2, hS _ h4, h5⟩
theorem Got.any {α : Type} {s s1 : Rs} {d : Dc α} {a b : α} (h : Got s.o d a s1) (hb : s1.bad = true) : Got s.o d b s1 := by
  unfold Got at h ⊢
  split
  · rename_i x hx
    rw [hx] at h
    rw [h.2] at hb
    cases hb
  · exact hb
theorem Got.well {α : Type} {s s1 : Rs} {d : Dc α} {a : α} (h : Got s.o d a s1) (hb : s1.bad = false) : s.bad = false := by
  cases hs : s.bad
  · rfl
  · have : s.o = none := by unfold Rs.o; rw [hs]; rfl
    rw [Got, this] at h
    rw [show s1.bad = true from h] at hb
    cases hb
theorem RdIs.alloc {w : World} {S : Nat → Prop} {g : Nat} {t : TypeId} {s : Rs} (h : RdIs w S g t s) (hS : ∀ k, S k → k < w.heap.size) (o : Obj) : RdIs (w.alloc o) S g t s := h.keepG (alloc_old w o g h.lt) fun k hk => alloc_old w o k (hS k hk)
theorem RdIs.newStr {w : World} {S : Nat → Prop} {g : Nat} {t : TypeId} {s : Rs} (h : RdIs w S g t s) (hS : ∀ k, S k → k < w.heap.size) (o : Obj) (v : Value) : RdIs ((w.alloc o).setCell ⟨w.heap.size, 0, none⟩ v) S g t s := by
  have hl := h.lt
  exact (h.alloc hS o).keepG (setCell_other _ _ _ _ (by simp only; omega)) fun k hk => setCell_other _ _ _ _ (by have := hS k hk; simp only; omega)
end Go.Kx
namespace Go.Kx
open Go.RowKit
section
variable {P : Program} {ρ : Operand → Value} {w : World} {K : Value → World → Prop} {d : Option Tmp} {ty : TypeId} {pos : String} {af : Array Edge} {g : Option (Nat × Bool)}
theorem OpK.extract {x : Operand} {vs : Array Value} {i : Nat} {v : Value} (hx : ρ x = .tuple vs) (hv : vs[i]? = some v) (h : K v w) : OpK P ρ ⟨d, .extract x i, ty, pos, af, g⟩ w K := by
  simp [OpK, execOp, hx, Instr.extract, hv, After]
  exact h
end
def dStr (n : Int) : Dc V := fun l => (decSpan n l).map fun x => (.s x.1, x.2)
def dNstr (n : Int) : Dc V := fun l => if n < 0 then some (.nsN, l) else (decSpan n l).map fun x => (.ns x.1, x.2)
def dByt (n : Int) : Dc V := fun l => if n = -1 then some (.by_ [], l) else (decSpan n l).map fun x => (.by_ x.1, x.2)
def dNbyt (n : Int) : Dc V := fun l => if n < 0 then some (.byN, l) else (decSpan n l).map fun x => (.by_ x.1, x.2)
section
variable {fx : Bool} {s s1 s2 : Rs} {n : Int} {u : V}
theorem got_str (h : Got s.o (decStrLen fx) n s1) (h2 : Got s1.o (dStr n) u s2) : Got s.o (decW fx .str) u s2 := h.bind (d2 := dStr) h2
theorem got_nstr (h : Got s.o (decStrLen fx) n s1) (h2 : Got s1.o (dNstr n) u s2) : Got s.o (decW fx .nstr) u s2 := h.bind (d2 := dNstr) h2
theorem got_byt (h : Got s.o (decBytLen fx) n s1) (h2 : Got s1.o (dByt n) u s2) : Got s.o (decW fx .byt) u s2 := h.bind (d2 := dByt) h2
theorem got_nbyt (h : Got s.o (decBytLen fx) n s1) (h2 : Got s1.o (dNbyt n) u s2) : Got s.o (decW fx .nbyt) u s2 := h.bind (d2 := dNbyt) h2
theorem gs_str (s : Rs) (n : Int) : Got s.o (dStr n) (.s ((rdSpan n s).1.getD [])) (rdSpan n s).2 := (got_span n s).map V.s
theorem gs_nstr0 (s : Rs) (h : n < 0) : Got s.o (dNstr n) .nsN s := by unfold dNstr; simp only [if_pos h]; exact Got.pure _
theorem gs_nstr (s : Rs) (h : ¬ n < 0) : Got s.o (dNstr n) (.ns ((rdSpan n s).1.getD [])) (rdSpan n s).2 := by unfold dNstr; simp only [if_neg h]; exact (got_span n s).map V.ns
theorem gs_byt0 (s : Rs) (h : n = -1) : Got s.o (dByt n) (.by_ []) s := by unfold dByt; simp only [if_pos h]; exact Got.pure _
theorem gs_byt (s : Rs) (h : ¬ n = -1) : Got s.o (dByt n) (.by_ ((rdSpan n s).1.getD [])) (rdSpan n s).2 := by unfold dByt; simp only [if_neg h]; exact (got_span n s).map V.by_
theorem gs_nbyt0 (s : Rs) (h : n < 0) : Got s.o (dNbyt n) .byN s := by unfold dNbyt; simp only [if_pos h]; exact Got.pure _
theorem gs_nbyt (s : Rs) (h : ¬ n < 0) : Got s.o (dNbyt n) (.by_ ((rdSpan n s).1.getD [])) (rdSpan n s).2 := by unfold dNbyt; simp only [if_neg h]; exact (got_span n s).map V.by_
end
theorem cell_newA (w : World) (c : Array Value) (t : TypeId) : (w.alloc (.cells c t)).cell? ⟨w.heap.size, 0, none⟩ = c[0]? := by
  have := (Blk.new w t c.toList).cell 0
  simp only [Array.toArray_toList, Array.getElem?_toList] at this
  exact this
theorem free_new (w : World) (c : Array Value) (t : TypeId) : (w.alloc (.cells c t)).frozen? ⟨w.heap.size, 0, none⟩ = false := by
  have := (Blk.new w t c.toList).free 0
  simp only [Array.toArray_toList] at this
  exact this
end Go.Kx

/- Maps of tags: laid, asked, written. -/
namespace Go.Kx
open Go.RowKit
set_option linter.unusedSimpArgs false
set_option linter.unusedVariables false

theorem All2.at_ {α β : Type} {R : α → β → Prop} : ∀ {l : List α} {m : List β}, All2 R l m → ∀ (i : Nat) (a : α) (b : β), l[i]? = some a → m[i]? = some b → R a b
  | _, _, .nil, i, a, b, h, _ => by simp at h
  | _, _, .cons hr ht, 0, a, b, h1, h2 => by simp at h1 h2; subst h1; subst h2; exact hr
  | _, _, .cons hr ht, i + 1, a, b, h1, h2 => by simp at h1 h2; exact ht.at_ i a b h1 h2
theorem All2.of_get {α β : Type} {R : α → β → Prop} : ∀ {l : List α} {m : List β}, l.length = m.length → (∀ (i : Nat) (a : α) (b : β), l[i]? = some a → m[i]? = some b → R a b) → All2 R l m
  | [], [], _, _ => .nil
  | a :: l, b :: m, h, hr => .cons (hr 0 a b rfl rfl) (All2.of_get (by simpa using h) fun i a b h1 h2 => hr (i + 1) a b (by simpa using h1) (by simpa using h2))
  | [], _ :: _, h, _ => by simp at h
  | _ :: _, [], h, _ => by simp at h

/-- What a tag holds. -/
def OctIs (w : World) (S : Nat → Prop) (x : List UInt8) (v : Value) : Prop := (v = .slice none 0 0 ∧ x = []) ∨ ∃ a c, v = .slice (some a) x.length c ∧ x.length ≤ c ∧ S a.block ∧ Oct w a x
theorem SrcIs.oct {w : World} {S S' : Nat → Prop} {l : List UInt8} {v : Value} (h : SrcIs w S l v) (hS : ∀ k, S k → S' k) : OctIs w S' l v := by
  rcases h with h | ⟨a, c, h1, h2, _, h4, h5⟩
  · exact .inl h
  · exact .inr ⟨a, c, h1, h2, hS _ h4, h5⟩

/-- A map with one entry more, or another value. -/
def putEntry (es : Array MapEntry) (clk : Nat) (j : Option Nat) (k : Nat) (v : Value) : Obj :=
  match j with
  | some j => .map (es.modify j fun e => { e with key := .int .u32 k, val := v }) clk
  | none => .map (es.push { key := .int .u32 k, val := v, born := clk }) (clk + 1)

section
variable {P : Program} {ρ : Operand → Value} {w : World} {K : Value → World → Prop} {d : Option Tmp} {ty : TypeId} {pos : String} {af : Array Edge} {g : Option (Nat × Bool)}
theorem OpK.makeMap {t : TypeId} (h : K (.map (some w.heap.size)) (w.alloc (.map #[] 0))) : OpK P ρ ⟨d, .makeMap t none, ty, pos, af, g⟩ w K := by
  simp [OpK, execOp, Instr.makeMap, newObj, After]
  exact h
theorem OpK.eqNilMap {x : Operand} {t k e u : TypeId} {r : Option Nat} (ht : P.underlying t = some (.map k e)) (hx : ρ x = .map r) (hn : ρ (.const (.map none)) = .map none) (h : K (.bool r.isNone) w) :
    OpK P ρ ⟨d, .binOp .eql t x (.const (.map none)) u, ty, pos, af, g⟩ w K := by
  have hr := run_eql_map_nil (P := P) w t k e r ht
  simp only [OpK, execOp, hx, hn, eqGuard, Sem.run_bind]
  simp [hr, After]
  exact h

/-- A tag is set in a map: what the map says then. -/
theorem OpK.mapTag {x y z : Operand} {t kt et : TypeId} {r : Nat} {es : Array MapEntry} {clk k : Nat} {v : Value} {S : Nat → Prop} {l : List (Nat × List UInt8)} {xs : List UInt8} (ht : P.underlying t = some (.map kt et)) (hk : P.underlying kt = some (.int .u32)) (hx : ρ x = .map (some r)) (hy : ρ y = .int .u32 (k : Int)) (hz : ρ z = v) (hr : w.heap[r]? = some (.map es clk))
    (hn : (l.map (·.1)).Nodup ∧ MapKept.Stamped es clk) (hA : All2 (TagAt w S) es.toList l) (hSr : ¬ S r) (hk4 : k < 4294967296) (hv : OctIs w S xs v)
    (h : ∀ w' es' clk', w'.heap.size = w.heap.size → w'.heap[r]? = some (.map es' clk') → Ch (fun i => i = r) w w' → ((setTag l k xs).map (·.1)).Nodup ∧ MapKept.Stamped es' clk' → All2 (TagAt w' S) es'.toList (setTag l k xs) → K undef w') : OpK P ρ ⟨d, .mapUpdate t x y z, ty, pos, af, g⟩ w K := by
  have hkey : MapKept.IsKey (.int .u32) (.int .u32 (k : Int)) := rfl
  have hlen := hA.len
  have hkeys : ∀ e ∈ es.toList, MapKept.IsKey (.int .u32) e.key := by
    intro e he
    obtain ⟨i, hi⟩ := List.mem_iff_getElem?.1 he
    have hlt : i < l.length := by rw [← hlen]; exact (List.getElem?_eq_some_iff.1 hi).1
    have := (hA.at_ i e l[i] hi (List.getElem?_eq_getElem hlt)).1
    rw [this]
    rfl
  have hlt : r < w.heap.size := (Array.getElem?_eq_some_iff.1 hr).1
  -- the world behind it
  have hset : ∀ o : Obj, ({ w with heap := w.heap.setIfInBounds r o } : World).heap.size = w.heap.size ∧ ({ w with heap := w.heap.setIfInBounds r o } : World).heap[r]? = some o ∧ Ch (fun i => i = r) w { w with heap := w.heap.setIfInBounds r o } := by
    intro o
    refine ⟨by simp, (MapKept.heap_set hr).1, ⟨rfl, rfl, rfl, by simp, fun i hi hne => (MapKept.heap_set hr).2 i hne⟩⟩
  have keepT : ∀ (o : Obj) {e : MapEntry} {x : Nat × List UInt8}, TagAt w S e x → TagAt { w with heap := w.heap.setIfInBounds r o } S e x := fun o e x hT => hT.keep fun i hi => (MapKept.heap_set hr).2 i fun e => hSr (e ▸ hi)
  have newT : ∀ (o : Obj) (b : Nat), TagAt { w with heap := w.heap.setIfInBounds r o } S { key := .int .u32 (k : Int), val := v, born := b } (k, xs) := by
    intro o b
    refine ⟨rfl, hk4, ?_⟩
    rcases hv with ⟨h1, h2⟩ | ⟨a, c, h1, h2, h3, h4⟩
    · exact .inl ⟨h1, h2⟩
    · exact .inr ⟨a, c, h1, h2, h3, h4.keep ((MapKept.heap_set hr).2 _ fun e => hSr (e ▸ h3))⟩
  rcases MapKept.findNow_spec hkey es.toList 0 hkeys with ⟨h1, h2⟩ | ⟨j, e, h1, h2, h3⟩
  · have hrun : (Instr.mapUpdate t (.map (some r)) (.int .u32 (k : Int)) v).run P w = .ok () { w with heap := w.heap.setIfInBounds r (.map (es.push { key := .int .u32 (k : Int), val := v, born := clk }) (clk + 1)) } := by
      simp [Instr.mapUpdate, run_underlying ht, MapKept.run_getObj_map hr, MapKept.run_checkKey hk hkey, MapKept.run_findKey hk h1, MapKept.run_setObj_map _ hr, Result.andThen]
    have hne : ∀ y ∈ l, y.1 ≠ k := by
      intro y hy e
      obtain ⟨i, hi⟩ := List.mem_iff_getElem?.1 hy
      have hil : i < es.toList.length := by rw [hlen]; exact (List.getElem?_eq_some_iff.1 hi).1
      have := (hA.at_ i es.toList[i] y (List.getElem?_eq_getElem hil) hi).1
      exact h2 _ (List.getElem_mem hil) (by rw [this, e])
    have hst : setTag l k xs = l ++ [(k, xs)] := setTag_new hne
    simp only [OpK, execOp, hx, hy, hz, Sem.run_bind, hrun, Result.andThen_ok, Sem.run_pure, After]
    obtain ⟨q1, q2, q3⟩ := hset (.map (es.push { key := .int .u32 (k : Int), val := v, born := clk }) (clk + 1))
    refine h _ _ _ q1 q2 q3 ⟨?_, MapKept.stamped_push hn.2 h2⟩ ?_
    · rw [hst, List.map_append, List.nodup_append]
      refine ⟨hn.1, by simp, fun a ha b hb => ?_⟩
      simp only [List.map_cons, List.map_nil, List.mem_singleton] at hb
      subst hb
      obtain ⟨y, hy, rfl⟩ := List.mem_map.1 ha
      exact hne y hy
    · rw [hst, Array.toList_push]
      refine All2.of_get (by simp [hlen]) fun i a b ha hb => ?_
      by_cases hi : i < es.toList.length
      · rw [List.getElem?_append_left hi] at ha
        rw [List.getElem?_append_left (by omega)] at hb
        exact keepT _ (hA.at_ i a b ha hb)
      · rw [List.getElem?_append_right (by omega)] at ha hb
        rw [← hlen] at hb
        have : i - es.toList.length = 0 := by
          rcases Nat.eq_zero_or_pos (i - es.toList.length) with h0 | h0
          · exact h0
          · rw [List.getElem?_eq_none (by simp only [List.length_cons, List.length_nil]; omega)] at ha; cases ha
        rw [this] at ha hb
        cases ha
        cases hb
        exact newT _ _
  · simp only [Nat.zero_add] at h1
    have hj : es[j]? = some e := by simpa using h2
    have hjl : j < l.length := by rw [← hlen]; exact (List.getElem?_eq_some_iff.1 h2).1
    have hlj : l[j]? = some l[j] := List.getElem?_eq_getElem hjl
    have hkj : l[j].1 = k := by
      have := (hA.at_ j e l[j] h2 hlj).1
      rw [h3] at this
      simp only [Value.int.injEq] at this
      omega
    have hrun : (Instr.mapUpdate t (.map (some r)) (.int .u32 (k : Int)) v).run P w = .ok () { w with heap := w.heap.setIfInBounds r (.map (es.modify j fun e => { e with key := .int .u32 (k : Int), val := v }) clk) } := by
      simp [Instr.mapUpdate, run_underlying ht, MapKept.run_getObj_map hr, MapKept.run_checkKey hk hkey, MapKept.run_findKey hk h1, hj, h3, MapKept.run_keyThatStays hkey, MapKept.run_setObj_map _ hr, Result.andThen]
    have hst : setTag l k xs = l.map fun e => if e.1 == k then (k, xs) else e := by
      unfold setTag
      rw [if_pos]
      rw [List.any_eq_true]
      exact ⟨l[j], List.getElem_mem hjl, by simpa using hkj⟩
    simp only [OpK, execOp, hx, hy, hz, Sem.run_bind, hrun, Result.andThen_ok, Sem.run_pure, After]
    obtain ⟨q1, q2, q3⟩ := hset (.map (es.modify j fun e => { e with key := .int .u32 (k : Int), val := v }) clk)
    refine h _ _ _ q1 q2 q3 ⟨?_, MapKept.stamped_modify hn.2 j _ (fun _ _ => rfl) fun e' _ he' => by rw [hj] at he'; cases he'; exact h3.symm⟩ ?_
    · rw [hst, List.map_map]
      have : (fun x : Nat × List UInt8 => x.1) ∘ (fun e => if (e.1 == k) = true then (k, xs) else e) = fun e => e.1 := by
        funext e
        simp only [Function.comp]
        split
        · rename_i he; exact (beq_iff_eq.1 he).symm
        · rfl
      rw [this]
      exact hn.1
    · rw [hst]
      refine All2.of_get (by simp [hlen]) fun i a b ha hb => ?_
      simp only [Array.getElem?_toList, Array.getElem?_modify] at ha
      rw [List.getElem?_map] at hb
      obtain ⟨b0, hb0, rfl⟩ := Option.map_eq_some_iff.1 hb
      by_cases hi : j = i
      · subst hi
        rw [if_pos rfl, hj] at ha
        simp only [Option.map_some, Option.some.injEq] at ha
        subst ha
        have : b0 = l[j] := by rw [hlj] at hb0; cases hb0; rfl
        subst this
        rw [if_pos (by simpa using hkj)]
        have := newT (.map (es.modify j fun e => { e with key := .int .u32 (k : Int), val := v }) clk) e.born
        exact this
      · rw [if_neg hi] at ha
        have hne : b0.1 ≠ k := by
          intro e
          have hil : i < l.length := (List.getElem?_eq_some_iff.1 hb0).1
          have e1 : (l.map (·.1))[i]? = some k := by rw [List.getElem?_map, hb0]; exact congrArg some e
          have e2 : (l.map (·.1))[j]? = some k := by rw [List.getElem?_map, hlj]; exact congrArg some hkj
          obtain ⟨g1, g2⟩ := List.getElem?_eq_some_iff.1 e1
          obtain ⟨g3, g4⟩ := List.getElem?_eq_some_iff.1 e2
          have hpw := List.pairwise_iff_getElem.1 hn.1
          rcases Nat.lt_or_gt_of_ne hi with h5 | h5
          · exact hpw j i g3 g1 h5 (g4.trans g2.symm)
          · exact hpw i j g1 g3 h5 (g2.trans g4.symm)
        rw [if_neg (by simpa using hne)]
        exact keepT _ (hA.at_ i a b0 (by simpa using ha) hb0)
end
end Go.Kx
namespace Go.Kx
open Go.RowKit
set_option linter.unusedSimpArgs false
set_option linter.unusedVariables false
/-- A map of tags: its octets lie in blocks of S, itself in one of N. -/
def TM (w : World) (S N : Nat → Prop) (c : Value) (l : List (Nat × List UInt8)) : Prop :=
  (c = .map none ∧ l = []) ∨ ∃ r es clk, c = .map (some r) ∧ N r ∧ w.heap[r]? = some (.map es clk) ∧ ((l.map (·.1)).Nodup ∧ MapKept.Stamped es clk) ∧ All2 (TagAt w S) es.toList l
theorem TM.keep {w w' : World} {S N N' : Nat → Prop} {c : Value} {l : List (Nat × List UInt8)} (h : TM w S N c l) (hS : ∀ k, S k → w'.heap[k]? = w.heap[k]?) (hN : ∀ k, N k → w'.heap[k]? = w.heap[k]? ∧ N' k) : TM w' S N' c l := by
  rcases h with h | ⟨r, es, clk, h1, h2, h3, h4, h5⟩
  · exact .inl h
  · exact .inr ⟨r, es, clk, h1, (hN r h2).2, ((hN r h2).1).trans h3, h4, forall2_imp (fun _ _ h => h.keep hS) h5⟩
theorem TM.rep {w : World} {S N S' : Nat → Prop} {c : Value} {l : List (Nat × List UInt8)} (h : TM w S N c l) (hS : ∀ k, S k → S' k) (hN : ∀ k, N k → S' k) : Rep w S' .tags (.tags l) [c] := by
  rcases h with ⟨rfl, rfl⟩ | ⟨r, es, clk, rfl, h2, h3, h4, h5⟩
  · exact .inl ⟨rfl, rfl⟩
  · exact .inr ⟨r, es, clk, rfl, hN r h2, h3, h4, forall2_imp (fun _ _ h => h.mono hS) h5⟩
theorem OctIs.keep {w w' : World} {S : Nat → Prop} {x : List UInt8} {v : Value} (h : OctIs w S x v) (hS : ∀ k, S k → w'.heap[k]? = w.heap[k]?) : OctIs w' S x v := by
  rcases h with h | ⟨a, c, h1, h2, h3, h4⟩
  · exact .inl h
  · exact .inr ⟨a, c, h1, h2, h3, h4.keep (hS _ h3)⟩
theorem OpK.sliceArr {P : Program} {ρ : Operand → Value} {w : World} {K : Value → World → Prop} {d : Option Tmp} {ty : TypeId} {pos : String} {af : Array Edge} {gd : Option (Nat × Bool)} {x : Operand} {t e : TypeId} {n : Nat} {a : Addr}
    (ht : P.underlying t = some (.array n e)) (hi : (P.info? e).isSome = true) (hx : ρ x = .pointer (some a)) (h : K (.slice (some a) n n) w) : OpK P ρ ⟨d, .slice t x none none none, ty, pos, af, gd⟩ w K := by
  obtain ⟨i, hi⟩ := Option.isSome_iff_exists.1 hi
  have e1 : (if n = 0 then a else a.add 0) = a := by
    split
    · rfl
    · exact addr_add_zero a
  simp [OpK, execOp, hx, Instr.sliceAt, run_underlying ht, Instr.sureAddr, Instr.sliceBounds, sizeOf, typeInfo, hi, After]
  have e2 : (if n = 0 then a else a.add 0) = a := e1
  first | exact e2 ▸ h | (rw [e2]; exact h)
theorem Yi.sliceArr {P : Program} {S : World → Prop} {ρ : Operand → Value} {d : Option Tmp} {ty : TypeId} {pos : String} {af : Array Edge} {gd : Option (Nat × Bool)} {x : Operand} {t e : TypeId} {n : Nat} {a : Addr}
    (ht : P.underlying t = some (.array n e)) (hi : (P.info? e).isSome = true) (hx : ρ x = .pointer (some a)) : Yi P S ρ ⟨d, .slice t x none none none, ty, pos, af, gd⟩ (.slice (some a) n n) := yi_of_OpK rfl fun w _ => OpK.sliceArr ht hi hx ⟨rfl, rfl⟩
/-- Octets are copied into a new row of as many, or of none. -/
theorem OpK.copyOct {P : Program} {ρ : Operand → Value} {w : World} {K : Value → World → Prop} {d : Option Tmp} {ty : TypeId} {pos : String} {af : Array Edge} {gd : Option (Nat × Bool)} {x y : Operand} {t u e : TypeId} {g : Nat} {n : Nat} {S : Nat → Prop} {l : List UInt8} {v : Value} {tG : TypeId} {cells : List Value}
    (ht : P.underlying t = some (.slice e)) (hi : (P.info? e).map (·.size) = some 1) (hx : ρ x = .slice (some ⟨g, 0, none⟩) n n) (hy : ρ y = v) (hv : SrcIs w S l v) (hl : l.length = n ∨ l = []) (hb : Blk w g tG cells) (hn : cells.length = n)
    (h : ∀ r, K r (w.setCells g 0 (l.map bv))) : OpK P ρ ⟨d, .call ⟨.builtin .copy, #[x, y], #[t, u]⟩, ty, pos, af, gd⟩ w K := by
  rcases hv with ⟨rfl, rfl⟩ | ⟨a, c, rfl, h2, h3, h4, hO⟩
  · have hr : ∃ r, (Builtin.copy_ #[t, u] ty #[.slice (some ⟨g, 0, none⟩) n n, .slice none 0 0]).run P w = .ok r w := by
      obtain ⟨i, hi, hs⟩ := Option.map_eq_some_iff.1 hi
      simp [Builtin.copy_, run_underlying ht, Builtin.lenOf, Builtin.firstCells, sizeOf, typeInfo, hi, hs, storeCells]
    obtain ⟨r, hr⟩ := hr
    simp only [OpK, execOp, resolve, invoke, builtin, Sem.run_bind, Sem.run_pure, Result.andThen_ok, List.map_toArray, List.map_cons, List.map_nil, hx, hy, hr, After]
    exact h r
  · have hmin : (l.map bv).length = Nat.min l.length n := by
      rw [List.length_map]
      rcases hl with hl | hl
      · rw [hl]; exact (Nat.min_self n).symm
      · subst hl; simp
    have hle : l.length ≤ n := by rcases hl with hl | hl; omega; (subst hl; simp)
    have hr := run_copy_cells (P := P) w t u ty e g 0 n n a l.length c (l.map bv) ht hi hmin (fun j v hv => by
        rw [List.getElem?_map] at hv
        obtain ⟨b, hb', rfl⟩ := Option.map_eq_some_iff.1 hv
        exact hO j b hb') (fun j hj => by
        rw [hb.cell, List.getElem?_eq_getElem (by rw [List.length_map] at hj; omega)]
        rfl) (fun j _ => hb.free _) (bv_one l)
    simp only [OpK, execOp, resolve, invoke, builtin, Sem.run_bind, Sem.run_pure, Result.andThen_ok, List.map_toArray, List.map_cons, List.map_nil, hx, hy, hr, After]
    exact h _
end Go.Kx
namespace Go.Kx
open Go.RowKit
set_option linter.unusedSimpArgs false
set_option linter.unusedVariables false
def uuZ (P : Program) (t : TypeId) : Bool := uuOk P t && (match P.info? t with | some i => (match i.zero with | some z => cellsEq z.cells.toList (zeroC .uuid) | none => false) | none => false)
theorem uuZ_spec {P : Program} {t : TypeId} (h : uuZ P t = true) : uuOk P t = true ∧ ∃ e i z, P.underlying t = some (.array 16 e) ∧ P.info? t = some i ∧ i.size = 16 ∧ i.zero = some z ∧ z.cells = ((List.replicate 16 (0 : UInt8)).map bv).toArray := by
  unfold uuZ at h
  rw [Bool.and_eq_true] at h
  obtain ⟨e, i, z, h1, h2, h3, h4, h5⟩ := uuOk_spec h.1
  refine ⟨h.1, e, i, z, h1, h2, h3, h4, ?_⟩
  have h6 := h.2
  rw [h2] at h6
  simp only [h4] at h6
  have := cellsEq_eq h6
  apply Array.ext'
  rw [this]
  rfl
theorem run_loadUu {P : Program} {w : World} {t e g : Nat} {i : TypeInfo} {l : List UInt8} {cells : List Value} (hu : P.underlying t = some (.array 16 e)) (hi : P.info? t = some i) (hs : i.size = 16) (hl : l.length = 16) (hb : Blk w g t cells) (hc : cells = l.map bv) :
    (loadVar t ⟨g, 0, none⟩).run P w = .ok (.agg (l.map bv).toArray) w :=
  run_loadVar_mid w g 0 t (l.map bv) _ (fun j v hv => by rw [Nat.zero_add, hb.cell, hc]; exact hv) hu rfl (by rw [hi]; simp [hs, hl])
theorem splice_all {cs c : List Value} (h : c.length = cs.length) : spl cs 0 c = c := by
  simp only [spl, List.take_zero, List.nil_append, Nat.zero_add]
  rw [List.drop_of_length_le (by omega), List.append_nil]
theorem run_loadTags {P : Program} {w : World} {t : TypeId} {g : Nat} {c : Value} {d : TypeDesc} (hu : P.underlying t = some d) (hd : d.isRow = true) (hi : (P.info? t).map (·.size) = some 1) (hb : Blk w g t [c]) : (loadVar t ⟨g, 0, none⟩).run P w = .ok (.agg #[c]) w :=
  run_loadVar_mid w g 0 t [c] d (fun j v hv => by rw [Nat.zero_add, hb.cell]; exact hv) hu hd hi
theorem OpK.loadRow {P : Program} {ρ : Operand → Value} {w : World} {K : Value → World → Prop} {d : Option Tmp} {ty : TypeId} {pos : String} {af : Array Edge} {gd : Option (Nat × Bool)} {x : Operand} {t : TypeId} {g : Nat} {c : Value} {ds : TypeDesc}
    (hu : P.underlying t = some ds) (hd : ds.isRow = true) (hi : (P.info? t).map (·.size) = some 1) (hx : ρ x = .pointer (some ⟨g, 0, none⟩)) (hb : Blk w g t [c]) (h : K (.agg #[c]) w) : OpK P ρ ⟨d, .load t x, ty, pos, af, gd⟩ w K := by
  have hr := run_loadTags (P := P) hu hd hi hb
  simp only [OpK, execOp, hx, Instr.loadAt, Instr.sureAddr, Sem.run_bind, Sem.run_pure, Result.andThen_ok, hr, After]
  exact h
theorem rdSpan_some {n : Int} {s : Rs} {x : List UInt8} (h : (rdSpan n s).1 = some x) : (x.length : Int) = n := by
  unfold rdSpan at h
  split at h
  · cases h
  · rename_i h0
    unfold rdN at h
    split at h
    · cases h
    · simp only [Option.some.injEq] at h
      rw [← h, List.length_take]
      omega
theorem rdSpan_none {n : Int} {s : Rs} (h : (rdSpan n s).1 = none) : (rdSpan n s).2.bad = true := by
  unfold rdSpan at h ⊢
  split at h
  · rename_i h0; rw [if_pos h0]; rfl
  · rename_i h0
    rw [if_neg h0]
    unfold rdN at h ⊢
    split at h
    · rename_i h1; rw [if_pos h1]; rfl
    · cases h
/-- How a tag is read after another. -/
theorem got_tag {k : Nat} {t : List (Nat × List UInt8)} {s s1 s2 s3 s4 : Rs} {key size : Nat} {x : List UInt8} {b : List (Nat × List UInt8)} (h1 : Got s.o decUv key s1) (h2 : Got s1.o decUv size s2) (h3 : Got s2.o (decSpan (size : Int)) x s3) (h4 : Got s3.o (decTagsN k (setTag t key x)) b s4) : Got s.o (decTagsN (k + 1) t) b s4 :=
  Got.bind (d1 := decUv) (d2 := fun (key : Nat) l => (decUv l).bind fun s => (decSpan (s.1 : Int) s.2).bind fun x => decTagsN k (setTag t key x.1) x.2) h1
    (Got.bind (d1 := decUv) (d2 := fun (size : Nat) l => (decSpan (size : Int) l).bind fun x => decTagsN k (setTag t key x.1) x.2) h2 (Got.bind (d1 := decSpan (size : Int)) (d2 := fun x l => decTagsN k (setTag t key x) l) h3 h4))
end Go.Kx
namespace Go.Kx
theorem CWL.regG {P : Program} {n : Nat} {c : Code} {cs : List Code} {σ : Fm} {w : World} {Q : Exit → Fm → World → Prop} {ops : List (Op × TypeId)} {b : List (Nat × Nat)} (hc : canR c = some ⟨ops, b⟩)
    (h : RC P ops 0 (enF σ) w fun ρ w' => ∀ σ', σ' = outF b ρ → CWL P n cs σ' w' Q) : CWL P n (c :: cs) σ w Q := by
  have mono : ∀ (l : List (Op × TypeId)) (k : Nat) {ρ : Fm} {w : World} {K K' : Fm → World → Prop}, RC P l k ρ w K → (∀ ρ w, K ρ w → K' ρ w) → RC P l k ρ w K' := by
    intro l
    induction l with
    | nil => intro k ρ w K K' h hk; exact hk _ _ h
    | cons o l ih =>
      intro k ρ w K K' h hk
      obtain ⟨op, ty⟩ := o
      exact After.mono h fun v w' h' => ih _ h' hk
  exact CWL.reg hc (mono ops 0 h fun ρ w' h' => h' _ rfl)
end Go.Kx
namespace Go.Kx
theorem CWL.nil_ {P : Program} {n : Nat} {σ : Fm} {w : World} {Q : Exit → Fm → World → Prop} (h : Q .normal σ w) : CWL P n [] σ w Q := h
end Go.Kx
