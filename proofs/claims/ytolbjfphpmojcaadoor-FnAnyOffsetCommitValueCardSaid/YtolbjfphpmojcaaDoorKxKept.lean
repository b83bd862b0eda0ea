/- Things that are kept within: their version stands ahead of all, in two octets. -/
import Derived.Test.YtolbjfphpmojcaaDoorKxAgn
namespace Go.Kx
open Go.RowKit
set_option linter.unusedSimpArgs false
set_option linter.unusedVariables false

/-- What reading two octets does. -/
def I16Is (P : Program) (fi : FuncId) : Prop := ∀ (w : World) (S : Nat → Prop) (g : Nat) (t : TypeId) (s : Rs), (∀ k, S k → k < w.heap.size) → RdIs w S g t s → Calls P fi #[.pointer (some ⟨g, 0, none⟩)] w fun en w' =>
  ∃ v, en = .returned v ∧ v = .int .i16 (rdInt .i16 2 s).1 ∧ RdIs w' S g t (rdInt .i16 2 s).2 ∧ Ch (fun k => k = g) w w'

/-- 'v.Version = b.Int16()' -/
def verStore (P : Program) (L : List Nat) (q p : Nat) (T : Ty) (fi : FuncId) (c : Code) : Bool :=
  match canR c, T.fld 0 with
  | some ⟨[(op, _), (.nilCheck (.tmp p2), _), (.fieldAddr tid (.tmp 3) k', _), (.store st (.tmp 5) (.tmp 1), _)], b⟩, some (.int .i16, off) =>
    match asCall op with
    | some (f, [.tmp q2]) => f == fi && q2 == 2 * q && p2 == 2 * p && fieldOff P tid k' == some off && (P.info? st).map (·.size) == some 1 && free L b
    | _ => false
  | _, _ => false

theorem verStore_sound {X : Cx} {S W : Nat → Prop} {r : Nat} {tR : TypeId} {T : Ty} {g o : Nat} {tG : TypeId} {L : List Nat} {q p : Nat} {fi : FuncId} {c : Code} {rest : List Code} (h : verStore X.P L q p T fi c = true) (hcall : Callable X.P fi) (hi : I16Is X.P fi)
    {σ : Fm} {w : World} {v : V} {s : Rs} {cells : List Value} {Q : Exit → Fm → World → Prop} (hp : σ p = .pointer (some ⟨g, o, none⟩)) (hq : σ q = .pointer (some ⟨r, 0, none⟩)) (hM : Mem X S W r tR T g o tG w v s cells)
    (hk : ∀ σ' w' cells', Mem X S W r tR T g o tG w' (v.put 0 (.i (rdInt .i16 2 s).1)) (rdInt .i16 2 s).2 cells' → Ch (rg r g) w w' → Outside cells cells' o T.size → (∀ t ∈ L, σ' t = σ t) → CWL X.P X.n rest σ' w' Q) : CWL X.P X.n (c :: rest) σ w Q := by
  unfold verStore at h
  split at h
  · rename_i op ty1 p2 ty2 tid k' ty3 st ty4 b off hcan hf
    split at h
    · rename_i f q2 hop
      simp only [Bool.and_eq_true, beq_iff_eq] at h
      obtain ⟨⟨⟨⟨⟨rfl, rfl⟩, rfl⟩, hoff⟩, hst⟩, hfree⟩ := h
      have hc := hi w S r tR s (fun k hk => (hM.src k hk).1) hM.rd
      refine CWL.reg hcan (OpK.asCall hop hcall rfl ?_)
      simp only [List.map_cons, List.map_nil, ev_tmp, enF_two]
      rw [hq]
      refine hc.mono fun en w2 ⟨x, he, hx, h1, h2⟩ => ⟨x, he, ?_⟩
      subst hx
      have hM2 := hM.call h1 h2
      have hu : Rep w2 (Ob W w2) (.int .i16) (.i (rdInt .i16 2 s).1) [.int .i16 (rdInt .i16 2 s).1] := ⟨rfl, rdInt_in _ _ _⟩
      obtain ⟨hM3, hO⟩ := hM2.put hf hu
      obtain ⟨_, _, _, _, hb⟩ := hM2.rep.fld hf
      have hsz2 := hM2.rep.size
      have hlen := hM2.len
      refine OpK.nilCheck (a := ⟨g, o, none⟩) (by simp only [ev_tmp]; rw [upd_odd _ _ _ _ (by omega), enF_two]; exact hp) ?_
      refine OpK.fieldAddr hoff (a := ⟨g, o, none⟩) (by simp [upd]) ?_
      refine OpK.storeV (c := [.int .i16 (rdInt .i16 2 s).1]) (v := .int .i16 (rdInt .i16 2 s).1) (g := g) (o := o + off) (tG := tG) (cells := cells) (by rw [hst]; rfl) (by simp [upd, add_at]) (by simp [upd]) (.inr rfl) (rep_one hu) hM2.blk (by simp only [Ty.size] at hb; simp only [List.length_cons, List.length_nil]; omega) ?_
      simp only [RC]
      refine hk _ _ _ hM3 ?_ hO fun t ht => ?_
      · exact (h2.mono fun _ _ h => .inl h).trans' ((setCells_ch _ _ _ _).mono fun _ _ h => .inr h)
      · rw [outF_free hfree ht, upd_odd _ _ _ _ (by omega), upd_odd _ _ _ _ (by omega), upd_odd _ _ _ _ (by omega), upd_odd _ _ _ _ (by omega), enF_two]
    · cases h
  · cases h

/-- What is read of such a thing, its version first. -/
def readK (ver : Int) (s : Sch) (v : V) (l : List UInt8) : Option (V × List UInt8) := ((decInt .i16 2 l).map fun y => (v.put 0 (.i y.1), y.2)).bind fun x => dec ver false s x.1 x.2

def chkRdK (P : Program) (tab : List (Nat × Rf)) (gE : Nat) (eV : Value) (tR : TypeId) (fi : FuncId) (fn : Func) (T : Ty) (s : Sch) : Option (List (Nat × V)) :=
  match fn.body, resTmp fn with
  | some c, some res => if fits fn.ntmps c && Nat.ble 3 fn.ntmps then match flat c with
    | c0 :: c1 :: c2 :: cv :: c3 :: c4 :: c5 :: rest3 =>
      if isIdle [0, 1, 2] c0 then match dfltOf ⟨P, fn.ntmps, tab, gE, eV, res, ⟨0, none, 0⟩, 2⟩ [0, 1, 2] 0 T c1 with
      | some ps => match newRd tR [0, 2] 1 c2 with
        | some q => if verStore P [0, 2, q] q 0 T fi cv then match loadOf P [0, 2, q] 0 T 0 (.int .i16) c3 with
          | some ver => if isIdle [0, 2, q, ver] c4 then match movOf [0, 2, q, ver] 0 c5 with
                | some p => match rdS ⟨P, fn.ntmps, tab, gE, eV, res, ⟨ver, none, ver⟩, 2⟩ false q s T p [p, 0, 2, q, ver] rest3 with
                  | some l => if compRet ⟨P, fn.ntmps, tab, gE, eV, res, ⟨ver, none, ver⟩, 2⟩ q l then some ps else none
                  | none => none
                | none => none
            else none
          | none => none
          else none
        | none => none
      | none => none
      else none
    | _ => none
    else none
  | _, _ => none

theorem chkRdK_calls {P : Program} {tab : List (Nat × Rf)} {gE : Nat} {eV : Value} {tR : TypeId} {f fi : FuncId} {fn : Func} {T : Ty} {s : Sch} {ps : List (Nat × V)} (hT : RdT P tR) (hcall16 : Callable P fi) (hi16 : I16Is P fi)
    (hX : ∀ f a, rfAt tab f = some a → Callable P f ∧ RfOk P gE eV f a) (hf : P.funcs[f]? = some fn) (h : chkRdK P tab gE eV tR fi fn T s = some ps) {w : World} {S : Nat → Prop} {g o : Nat} {tG : TypeId} {v0 : V} {cells : List Value} {src : Value} {l : List UInt8} {ver : Int}
    (hb : Blk w g tG cells) (hrep : Rep w (fun k => k < w.heap.size ∧ k ≠ g) T v0 ((cells.drop o).take T.size)) (hlen : o + T.size ≤ cells.length) (herr : w.cell? ⟨gE, 0, none⟩ = some eV) (hgE : gE < w.heap.size ∧ gE ≠ g) (hsrc : SrcIs w S l src) (hS : ∀ k, S k → k < w.heap.size ∧ k ≠ g)
    (hrv : (rdInt .i16 2 ⟨l, false⟩).1 = ver) (hver : ((v0.puts ps).put 0 (.i ver)).fld 0 = .i ver) (hv0 : 0 ≤ ver) (hok : okB ver false s = true) (hst : startB s ((v0.puts ps).put 0 (.i ver)) = true) :
    Calls P f #[.pointer (some ⟨g, o, none⟩), src, .bool false] w fun en w' => ∃ x, en = .returned x ∧ ReadsTo eV T g o tG (readK ver s (v0.puts ps) l) w x w' := by
  unfold chkRdK at h
  split at h
  · rename_i c res hbody hres
    split at h
    · rename_i hfit
      simp only [Bool.and_eq_true] at hfit
      refine Calls.of_CW hf hbody hfit.1 (by simpa using hfit.2) (CW.of_flat ?_)
      split at h
      · rename_i c0 c1 c2 cv c3 c4 c5 rest3 hflat
        rw [hflat]
        split at h
        · rename_i h0
          refine CWL.idle h0 fun σ0 he0 => ?_
          have hp0 : σ0 0 = .pointer (some ⟨g, o, none⟩) := (he0 0 (by simp)).trans rfl
          have hs0 : σ0 1 = src := (he0 1 (by simp)).trans rfl
          have hu0 : σ0 2 = .bool false := (he0 2 (by simp)).trans rfl
          split at h
          · rename_i ps' hdf
            split at h
            · rename_i q hnr
              split at h
              · rename_i hvs
                split at h
                · rename_i vr hld
                  -- the function that lays the defaults
                  have hD : ∀ {Q : Exit → Fm → World → Prop} {rest : List Code}, (∀ σ' w' c', Blk w' g tG (spl cells o c') → Rep w' (fun k => k < w.heap.size ∧ k ≠ g) T (v0.puts ps') c' → Ch (fun k => k = g) w w' → (∀ t ∈ [0, 1, 2], σ' t = σ0 t) → CWL P fn.ntmps rest σ' w' Q) →
                      CWL P fn.ntmps (c1 :: rest) σ0 w Q := by
                    intro Q rest hk
                    unfold dfltOf at hdf
                    split at hdf
                    · rename_i op ty b hc
                      split at hdf
                      · rename_i f' u2 hop
                        split at hdf
                        · rename_i T' ps2 htab
                          split at hdf
                          · rename_i hh
                            simp only [Option.some.injEq] at hdf
                            subst hdf
                            simp only [Bool.and_eq_true, beq_iff_eq, decide_eq_true_eq] at hh
                            obtain ⟨⟨rfl, rfl⟩, hfree⟩ := hh
                            obtain ⟨hcall, hrf⟩ := hX f' _ htab
                            refine CWL.reg hc (OpK.asCall hop hcall rfl ?_)
                            simp only [List.map_cons, List.map_nil, ev_tmp, enF_two, hp0]
                            refine (hrf w _ g o tG cells v0 hb hrep hlen (fun h => h.2 rfl)).mono fun en w' ⟨he, c', hb', hr', hc'⟩ => ⟨_, he, ?_⟩
                            refine hk _ w' c' hb' hr' hc' fun t ht => ?_
                            rw [outF_free hfree ht, upd_odd _ _ _ _ (by omega), enF_two]
                          · cases hdf
                        · cases hdf
                      · cases hdf
                    · cases hdf
                  refine hD fun σ1 w1 c' hb1 hr1 hc1 he1 => ?_
                  have hsrc1 : SrcIs w1 S l src := hsrc.keep fun k hk => hc1.block k (hS k hk).1 (hS k hk).2
                  obtain ⟨a, cc, hsl, _⟩ := hsrc1.form
                  subst hsl
                  refine newRd_sound hT hnr ((he1 1 (by simp)).trans hs0) fun σ2 he2 hq2 => ?_
                  generalize hw2 : w1.alloc (.cells [Value.slice a l.length cc, .bool false].toArray tR) = w2
                  have hc2 : Ch (fun _ => False) w1 w2 := hw2 ▸ Ch.alloc _ w1 _
                  have hsz2 : w2.heap.size = w1.heap.size + 1 := by rw [← hw2]; simp
                  have hbR : Blk w2 w1.heap.size tR [.slice a l.length cc, .bool false] := hw2 ▸ Blk.new w1 tR _
                  have hgs : g < w1.heap.size := hb1.lt
                  have hcl := hr1.size
                  have hM : ∀ X : Cx, X.gE = gE → X.eV = eV → Mem X S (fun k => k = w1.heap.size ∨ k = g) w1.heap.size tR T g o tG w2 (v0.puts ps') ⟨l, false⟩ (spl cells o c') := by
                    intro X hE hV
                    refine ⟨⟨_, hbR, hsrc1.keep fun k hk => hc2.block k (Nat.lt_of_lt_of_le (hS k hk).1 hc1.size) fun h => h, fun h => ?_⟩, hb1.keep (hc2.block g hgs fun h => h), ?_, by rw [spl_len (by omega)]; exact hlen, ?_, fun k hk => ?_, fun k hk => ⟨?_, fun hw => ?_⟩, .inl rfl, .inr rfl, by omega, ?_, ?_, ?_⟩
                    · have := (hS _ h).1; have := hc1.size; omega
                    · have := spl_at (cs := cells) (c := c') (o := o) (by omega)
                      rw [hcl] at this
                      rw [this]
                      exact hr1.keepMono (fun k hk => hc2.block k (Nat.lt_of_lt_of_le hk.1 hc1.size) fun h => h) fun k hk => ⟨by have := hc1.size; have := hk.1; omega, fun h => by rcases h with h | h; (have := hc1.size; have := hk.1; omega); exact hk.2 h⟩
                    · rw [hE, hV]
                      rw [ch_cell hc2 (a := ⟨gE, 0, none⟩) (Nat.lt_of_lt_of_le hgE.1 hc1.size) (fun h => h) rfl, ch_cell hc1 (a := ⟨gE, 0, none⟩) hgE.1 hgE.2 rfl]
                      exact herr
                    · rcases hk with rfl | rfl <;> omega
                    · have := (hS k hk).1; have := hc1.size; omega
                    · rcases hw with rfl | rfl
                      · have := (hS _ hk).1; have := hc1.size; omega
                      · exact (hS _ hk).2 rfl
                    · rw [hE]; have := hc1.size; omega
                    · rw [hE]; have := hc1.size; omega
                    · rw [hE]; exact hgE.2
                  have hp2 : σ2 0 = .pointer (some ⟨g, o, none⟩) := (he2 0 (by simp)).trans ((he1 0 (by simp)).trans hp0)
                  have hu2 : σ2 2 = .bool false := (he2 2 (by simp)).trans ((he1 2 (by simp)).trans hu0)
                  have hMX := hM ⟨P, fn.ntmps, tab, gE, eV, res, ⟨0, none, 0⟩, 2⟩ rfl rfl
                  -- what holds at the end
                  have fin : ∀ (X : Cx), X.P = P → X.n = fn.ntmps → X.tab = tab → X.gE = gE → X.eV = eV → X.res = res → ∀ {cs : List Code}, compRet X q cs = true → ∀ σ' w' v' s' cells', σ' q = .pointer (some ⟨w1.heap.size, 0, none⟩) →
                      St (readK ver s (v0.puts ps') l) v' s' → Mem X S (fun k => k = w1.heap.size ∨ k = g) w1.heap.size tR T g o tG w' v' s' cells' → Ch (rg w1.heap.size g) w2 w' →
                      CWL P fn.ntmps cs σ' w' (Ends fn fun x w' => ReadsTo eV T g o tG (readK ver s (v0.puts ps') l) w x w') := by
                    intro X hP hn htb hE hV hR cs hcr σ' w' v' s' cells' hq' hSt hM' hc'
                    have hXs : X.Sound := ⟨fun f a hfa => by rw [hP, hE, hV]; exact hX f a (htb ▸ hfa)⟩
                    have hch : Ch (fun k => k = g) w w' := by
                      refine hc1.trans' ((hc2.mono fun _ _ h => h.elim : Ch (fun k => k = g) w1 w2).trans hc' fun i hi hT' => ?_)
                      rcases hT' with rfl | rfl
                      · omega
                      · rfl
                    have := compRet_sound (S := S) (r := w1.heap.size) (tR := tR) hXs hcr hq' hM'.rd hM'.err (Q := Ends fn fun x w' => ReadsTo eV T g o tG (readK ver s (v0.puts ps') l) w x w') fun σ'' hσ'' => ?_
                    · rw [hP, hn] at this; exact this
                    · rw [hR, hV] at hσ''
                      simp only [Ends]
                      unfold resTmp at hres
                      split at hres
                      · rename_i t ht
                        simp only [Option.some.injEq] at hres
                        subst hres
                        refine ⟨_, by simp only [resOf, ht]; rfl, hch, ?_⟩
                        cases hd : readK ver s (v0.puts ps') l with
                        | none =>
                          rw [hd] at hSt
                          have hbad : s'.bad = true := hSt
                          rw [hσ'', if_pos hbad]
                        | some y =>
                          rw [hd] at hSt
                          obtain ⟨rfl, rfl⟩ := hSt
                          rw [hσ'']
                          exact ⟨rfl, cells', hM'.blk, hM'.len, hM'.rep.mono fun k hk => ⟨hk.1, fun h => hk.2 (.inr h)⟩⟩
                      · cases hres
                  have early : readK ver s (v0.puts ps') l = none → ∀ σ' w', Ch (rg w1.heap.size g) w2 w' → σ' res = eV → Ends fn (fun x w' => ReadsTo eV T g o tG (readK ver s (v0.puts ps') l) w x w') .ret σ' w' := by
                    intro hd σ' w' hc' hσ'
                    simp only [Ends]
                    unfold resTmp at hres
                    split at hres
                    · rename_i t ht
                      simp only [Option.some.injEq] at hres
                      subst hres
                      refine ⟨_, by simp only [resOf, ht]; rfl, ?_, ?_⟩
                      · refine hc1.trans' ((hc2.mono fun _ _ h => h.elim : Ch (fun k => k = g) w1 w2).trans hc' fun i hi hT' => ?_)
                        rcases hT' with rfl | rfl
                        · omega
                        · rfl
                      · rw [hd]; exact hσ'
                    · cases hres
                  have hpsE : ps' = ps := by
                    revert h
                    repeat' split
                    all_goals intro h
                    all_goals first | (cases h; done) | (simp only [Option.some.injEq] at h; exact h)
                  subst hpsE
                  refine verStore_sound (X := ⟨P, fn.ntmps, tab, gE, eV, res, ⟨0, none, 0⟩, 2⟩) hvs hcall16 hi16 hp2 hq2 hMX fun σ2' w2' cs2 hMV hcV hoV heV => ?_
                  have hMv : ∀ X : Cx, X.gE = gE → X.eV = eV → Mem X S (fun k => k = w1.heap.size ∨ k = g) w1.heap.size tR T g o tG w2' ((v0.puts ps').put 0 (.i ver)) (rdInt .i16 2 ⟨l, false⟩).2 cs2 := fun X hE hV => by
                    rw [hrv] at hMV
                    exact ⟨hMV.rd, hMV.blk, hMV.rep, hMV.len, by rw [hE, hV]; exact hMV.err, hMV.bound, hMV.src, hMV.wr, hMV.wg, hMV.ne, by rw [hE]; exact hMV.eW⟩
                  refine loadOf_sound hld ((heV 0 (by simp)).trans hp2) hMV.is fun σ3 he3 ⟨cs3, hr3, hv3⟩ => ?_
                  rw [hrv, hver] at hr3
                  obtain ⟨rfl, _⟩ : cs3 = [.int .i16 ver] ∧ _ := hr3
                  have hv3' : σ3 vr = .int .i16 ver := hv3
                  split at h
                  · rename_i h4
                    refine CWL.idle h4 fun σ4 he4 => ?_
                    have hk4 : ∀ t ∈ [0, 2, q], σ4 t = σ2 t := fun t ht => (he4 t (by simp at ht ⊢; rcases ht with h | h | h <;> simp [h])).trans ((he3 t ht).trans (heV t ht))
                    have hv4 : σ4 vr = .int .i16 ver := (he4 vr (by simp)).trans hv3'
                    have hq4 : σ4 q = .pointer (some ⟨w1.heap.size, 0, none⟩) := (hk4 q (by simp)).trans hq2
                    have hp4 : σ4 0 = .pointer (some ⟨g, o, none⟩) := (hk4 0 (by simp)).trans hp2
                    have hu4 : σ4 2 = .bool false := (hk4 2 (by simp)).trans hu2
                    have hSt : St ((decInt .i16 2 l).map fun y => ((v0.puts ps').put 0 (.i y.1), y.2)) ((v0.puts ps').put 0 (.i ver)) (rdInt .i16 2 ⟨l, false⟩).2 := by
                      have h5 := (show St (some (v0.puts ps', l)) (v0.puts ps') ⟨l, false⟩ from ⟨rfl, rfl⟩).step (got_int .i16 2 ⟨l, false⟩) fun v u => v.put 0 (.i u)
                      rw [hrv] at h5
                      exact h5
                    split at h
                    · rename_i p hmv
                      split at h
                      · rename_i lst hrd
                        split at h
                        · rename_i hcr
                          refine movOf_sound hmv fun σ5 he5 hp5 => ?_
                          have hXs : (⟨P, fn.ntmps, tab, gE, eV, res, ⟨vr, none, vr⟩, 2⟩ : Cx).Sound := ⟨hX⟩
                          have hL : LIn ⟨P, fn.ntmps, tab, gE, eV, res, ⟨vr, none, vr⟩, 2⟩ false q p [p, 0, 2, q, vr] := ⟨by simp, fun x hx => by simp [Cx.kn] at hx; subst hx; simp, by simp, by simp⟩
                          have hstep := rdS_step (X := ⟨P, fn.ntmps, tab, gE, eV, res, ⟨vr, none, vr⟩, 2⟩) (S := S) (r := w1.heap.size) (tR := tR) (ver := ver) hXs hv0 s (W := fun k => k = w1.heap.size ∨ k = g) (g := g) (o := o) (tG := tG) hrd hL hok
                          refine hstep σ5 w2' _ ((v0.puts ps').put 0 (.i ver)) (rdInt .i16 2 ⟨l, false⟩).2 cs2 _ ⟨(he5 vr (by simp)).trans hv4, fun s b hm => ?_, (he5 q (by simp)).trans hq4, hp5.trans hp4⟩ (fun x hx => ?_) hSt (hMv _ rfl rfl) (fun hn σ' w' hc' => early hn σ' w' (hcV.trans' hc')) fun σ6 w6 v6 s6 cells6 hS6 hM6 hc6 ho6 he6 => ?_
                          · simp [Cx.kn] at hm
                            obtain ⟨rfl, rfl⟩ := hm
                            exact (he5 2 (by simp)).trans hu4
                          · obtain ⟨y, hy, rfl⟩ := Option.map_eq_some_iff.1 hx
                            have h6 : (rdInt .i16 2 ⟨l, false⟩).1 = y.1 := by
                              have h7 := got_int .i16 2 ⟨l, false⟩
                              unfold Got at h7
                              simp only [Rs.o, Bool.false_eq_true, if_false, Option.bind_some, hy] at h7
                              exact h7.1
                            rw [hrv] at h6
                            simp only [← h6]
                            exact hst
                          · exact fin _ rfl rfl rfl rfl rfl rfl hcr σ6 w6 v6 s6 cells6 ((he6 q (by simp)).trans ((he5 q (by simp)).trans hq4)) hS6 hM6 (hcV.trans' hc6)
                        · cases h
                      · cases h
                    · cases h
                  · cases h
                · cases h
              · cases h
            · cases h
          · cases h
        · cases h
      · cases h
    · cases h
  · cases h

/-! ### The plain law -/
theorem readK_enc {ver : Int} {s : Sch} {v : V} {l : List UInt8} (hv : IntKind.i16.wrap ver = ver) : readK ver s v (be 2 ver ++ l) = dec ver false s (v.put 0 (.i ver)) l := by
  unfold readK
  rw [decInt_be .i16 2 rfl ver hv l]
  rfl
theorem againK_plain {ver : Int} {s : Sch} {flds : List Fld} {d : Nat} {t : Tr} {v0 : V} (hv : IntKind.i16.wrap ver = ver) (hm : matchS ver false s (acts ver flds) = true) (hok : okB ver false s = true) (hsm : smallB s = true) (hpl : plainB (d + 1) flds = true) (hs : startB s (v0.put 0 (.i ver)) = true) (hkey : s.keys.contains 0 = false) (hver : (v0.put 0 (.i ver)).fld 0 = .i ver) :
    ∃ y, readK ver s v0 (be 2 ver ++ partF ver false (d + 1) flds t) = some (y, []) ∧ enc ver false (.val .all 0 .i16 s) y = be 2 ver ++ partF ver false (d + 1) flds t ∧ y.fld 0 = .i ver := by
  obtain ⟨v, h1, h2⟩ := part_enc (t := t) hm hok hsm hpl
  obtain ⟨v', h3, h4, h5⟩ := dec_enc s [] hok hs h2
  rw [List.append_nil] at h3
  have h6 : v'.fld 0 = .i ver := by rw [h5 0 (by rw [List.contains_eq_mem, decide_eq_false_iff_not] at hkey; exact hkey), hver]
  refine ⟨v', by rw [readK_enc hv, h1, h3], ?_, h6⟩
  simp only [enc, h6, h4, ← h1]
  rfl
theorem cutK_plain {ver : Int} {s : Sch} {flds : List Fld} {d : Nat} {t : Tr} {v0 : V} {k : Nat} (hv : IntKind.i16.wrap ver = ver) (hm : matchS ver false s (acts ver flds) = true) (hok : okB ver false s = true) (hsm : smallB s = true) (hpl : plainB (d + 1) flds = true) (hs : startB s (v0.put 0 (.i ver)) = true)
    (hk : k < (be 2 ver ++ partF ver false (d + 1) flds t).length) : readK ((rdInt .i16 2 ⟨(be 2 ver ++ partF ver false (d + 1) flds t).take k, false⟩).1) s v0 ((be 2 ver ++ partF ver false (d + 1) flds t).take k) = none := by
  have hb : (be 2 ver).length = 2 := be_length 2 ver
  by_cases h2 : k < 2
  · unfold readK decInt
    rw [if_pos (by rw [List.length_take]; omega)]
    rfl
  · have e : (be 2 ver ++ partF ver false (d + 1) flds t).take k = be 2 ver ++ (partF ver false (d + 1) flds t).take (k - 2) := by
      rw [List.take_append, List.take_of_length_le (by omega), hb]
    have e2 : (rdInt .i16 2 ⟨(be 2 ver ++ partF ver false (d + 1) flds t).take k, false⟩).1 = ver := by
      have h7 := got_int .i16 2 ⟨(be 2 ver ++ partF ver false (d + 1) flds t).take k, false⟩
      unfold Got at h7
      rw [e] at h7 ⊢
      simp only [Rs.o, Bool.false_eq_true, if_false, Option.bind_some, decInt_be .i16 2 rfl ver hv] at h7
      exact h7.1
    rw [e2, e, readK_enc hv]
    rw [List.length_append, hb] at hk
    exact cut_plain hm hok hsm hpl hs (by omega)
/-- The version that is read of what was cut. -/
theorem rdInt_cut {ver : Int} {B : List UInt8} {k : Nat} (hv : IntKind.i16.wrap ver = ver) : (rdInt .i16 2 ⟨(be 2 ver ++ B).take k, false⟩).1 = ver ∨ (rdInt .i16 2 ⟨(be 2 ver ++ B).take k, false⟩).1 = 0 := by
  have hb : (be 2 ver).length = 2 := be_length 2 ver
  by_cases h2 : k < 2
  · right
    unfold rdInt rdN
    rw [if_pos (by simp only [List.length_take]; omega)]
  · left
    have h7 := got_int .i16 2 ⟨(be 2 ver ++ B).take k, false⟩
    unfold Got at h7
    rw [List.take_append, List.take_of_length_le (by omega), hb] at h7 ⊢
    simp only [Rs.o, Bool.false_eq_true, if_false, Option.bind_some, decInt_be .i16 2 rfl ver hv] at h7
    exact h7.1
section
variable {P : Program} {ρ : Operand → Value} {w : World} {K : Value → World → Prop} {d : Option Tmp} {ty : TypeId} {pos : String} {af : Array Edge} {g : Option (Nat × Bool)}
theorem OpK.cmpNil {x : Operand} {t u : TypeId} {v : Value} {b : Bool} {ms : Array (String × TypeId)} (ht : P.underlying t = some (.interface ms)) (hx : ρ x = v) (hn : ρ (.const .nilIface) = .nilIface) (hv : (v = .nilIface ∧ b = false) ∨ (∃ t y, v = .iface t y) ∧ b = true) (h : K (.bool b) w) :
    OpK P ρ ⟨d, .binOp .neq t x (.const .nilIface) u, ty, pos, af, g⟩ w K := OpK.neqNilIface ht hx hn hv h
theorem Yi.rem {S : World → Prop} {x y : Operand} {t u : TypeId} {k : IntKind} {a b : Int} (ha : 0 ≤ a) (hb : 0 < b) (hx : ρ x = .int k a) (hy : ρ y = .int k b) : Yi P S ρ ⟨d, .binOp .rem t x y u, ty, pos, af, g⟩ (.int k (a % b)) := yi_of_OpK rfl fun w _ => OpK.rem ha hb hx hy ⟨rfl, rfl⟩
end
theorem rdInt_be {ver : Int} {z : List UInt8} (hv : IntKind.i16.wrap ver = ver) : (rdInt .i16 2 ⟨be 2 ver ++ z, false⟩).1 = ver := by
  have h7 := got_int .i16 2 ⟨be 2 ver ++ z, false⟩
  unfold Got at h7
  simp only [Rs.o, Bool.false_eq_true, if_false, Option.bind_some, decInt_be .i16 2 rfl ver hv] at h7
  exact h7.1
/-- The first octets of a slice. -/
theorem oct_cut {w : World} {S : Nat → Prop} {bs : List UInt8} {a : Addr} {c j : Nat} (h : OctIs w S bs (.slice (some a) bs.length c)) (hj : j ≤ bs.length) : bs.length ≤ c ∧ OctIs w S (bs.take j) (.slice (some a) j c) := by
  rcases h with ⟨h, _⟩ | ⟨a', c', h1, h2, h3, h4⟩
  · cases h
  · simp only [Value.slice.injEq, Option.some.injEq] at h1
    obtain ⟨rfl, _, rfl⟩ := h1
    exact ⟨h2, .inr ⟨a, c, by rw [List.length_take, Nat.min_eq_left hj], by rw [List.length_take]; omega, h3, h4.take j⟩⟩
theorem part_short2 {ver : Int} {fx : Bool} {flds : List Fld} {d : Nat} {t : Tr} (hc : Nat.ble (costF d flds) 1000 = true) (ht : t.tw ≤ 1048576) : (partF ver fx d flds t).length ≤ 1048576000 := by
  have h1 := partF_len (ver := ver) (fx := fx) d flds t
  have h2 : costF d flds ≤ 1000 := Nat.le_of_ble_eq_true hc
  have h3 : costF d flds * t.tw ≤ 1000 * 1048576 := Nat.mul_le_mul h2 ht
  omega
end Go.Kx
