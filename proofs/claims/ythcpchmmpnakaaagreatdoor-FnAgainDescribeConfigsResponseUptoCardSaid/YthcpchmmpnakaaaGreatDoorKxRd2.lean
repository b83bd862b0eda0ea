/- Library texts Rx9 Df Rd2, joined. -/
import Derived.Test.YthcpchmmpnakaaaGreatDoorKxRx8
import Derived.Test.YthcpchmmpnakaaaGreatDoorKxRun3
import Derived.Test.YthcpchmmpnakaaaGreatDoorKxDraw
import Derived.Laws.IdiomStrings
import Derived.Laws.BytesArg
import Derived.Laws.IdiomCopy
import Derived.ScopeJumps
/- A whole function that reads a message. -/
namespace Go.Kx
open Go.RowKit
set_option linter.unusedSimpArgs false
set_option linter.unusedVariables false

/-- The type of readers. -/
structure RdT (P : Program) (tR : TypeId) : Prop where
  made : ∀ (a : Option Addr) (n c : Nat), P.built tR [(0, .slice a n c)] = some #[.slice a n c, .bool false]
  size : (P.info? tR).map (·.size) = some 2
  zero : ∃ i z, P.info? tR = some i ∧ i.zero = some z ∧ z.cells.size = 2

/-- 'b := kbin.Reader{Src: src}' -/
def newRd (tR : TypeId) (L : List Nat) (src : Nat) (c : Code) : Option Nat :=
  match canR c with
  | some ⟨[(.build t ps, _), (.alloc t2, _), (.store t3 (.tmp 3) (.tmp 1), _)], (q, 3) :: b⟩ =>
    match ps.toList with
    | [(0, .tmp s2)] => if t == tR && t2 == tR && t3 == tR && s2 == 2 * src && free L ((q, 3) :: b) then some q else none
    | _ => none
  | _ => none

theorem newRd_sound {P : Program} {n : Nat} {tR : TypeId} (hT : RdT P tR) {L : List Nat} {src q : Nat} {c : Code} (h : newRd tR L src c = some q) {σ : Fm} {w : World} {Q : Exit → Fm → World → Prop} {rest : List Code} {a : Option Addr} {m cc : Nat} (hs : σ src = .slice a m cc)
    (hk : ∀ σ', (∀ t ∈ L, σ' t = σ t) → σ' q = .pointer (some ⟨w.heap.size, 0, none⟩) → CWL P n rest σ' (w.alloc (.cells [Value.slice a m cc, .bool false].toArray tR)) Q) : CWL P n (c :: rest) σ w Q := by
  unfold newRd at h
  split at h
  · rename_i t ps ty1 t2 ty2 t3 ty3 q' b hcan
    split at h
    · rename_i s2 hps
      split at h
      · rename_i hh
        simp only [Option.some.injEq] at h
        subst h
        simp only [Bool.and_eq_true, beq_iff_eq] at hh
        obtain ⟨⟨⟨⟨rfl, rfl⟩, rfl⟩, rfl⟩, hfree⟩ := hh
        obtain ⟨i, z, hi, hz, hzs⟩ := hT.zero
        refine CWL.reg hcan (OpK.build (cells := #[.slice a m cc, .bool false]) ?_ ?_)
        · rw [hps]
          simp only [List.map_cons, List.map_nil, ev_tmp, enF_two, hs]
          exact hT.made a m cc
        · refine OpK.allocArr hi hz ?_
          refine OpK.storeArr (c' := [Value.slice a m cc, .bool false].toArray) (by rw [hT.size]; rfl) (by rw [hzs]; rfl) (by simp [Value.oneCell']) (by simp [upd]) (by simp [upd]) ?_
          simp only [RC]
          refine hk _ (fun t ht => ?_) (by rw [outF_head]; simp [upd])
          rw [outF_free hfree ht, upd_odd _ _ _ _ (by omega), upd_odd _ _ _ _ (by omega), upd_odd _ _ _ _ (by omega), enF_two]
      · cases h
    · cases h
  · cases h

/-- T: the struct; s: its fields; ff: from which version on the message is flexible; fx: whether it is. -/
def chkRd (P : Program) (tab : List (Nat × Rf)) (gE : Nat) (eV : Value) (tR : TypeId) (fn : Func) (T : Ty) (s : Sch) (ff : Option Int) (fx : Bool) : Option (List (Nat × V)) :=
  match fn.body, resTmp fn with
  | some c, some res => if fits fn.ntmps c && Nat.ble 3 fn.ntmps then match flat c with
    | c0 :: c1 :: c2 :: c3 :: c4 :: rest =>
      if isIdle [0, 1, 2] c0 then match dfltOf ⟨P, fn.ntmps, tab, gE, eV, res, ⟨0, none, 0⟩, 2⟩ [0, 1, 2] 0 T c1 with
      | some ps => match newRd tR [0, 2] 1 c2 with
        | some q => match loadOf P [0, 2, q] 0 T 0 (.int .i16) c3 with
          | some ver => if isIdle [0, 2, q, ver] c4 then match ff, rest with
              | none, c5 :: rest3 => if fx then none else match movOf [0, 2, q, ver] 0 c5 with
                | some p => match rdS ⟨P, fn.ntmps, tab, gE, eV, res, ⟨ver, none, ver⟩, 2⟩ false q s T p [p, 0, 2, q, ver] rest3 with
                  | some l => if compRet ⟨P, fn.ntmps, tab, gE, eV, res, ⟨ver, none, ver⟩, 2⟩ q l then some ps else none
                  | none => none
                | none => none
              | some m, c5 :: c6 :: c7 :: rest3 => match flexOf [0, 2, q, ver] ver m c5 with
                | some fl => if isIdle [0, 2, q, ver, fl] c6 then match movOf [0, 2, q, ver, fl] 0 c7 with
                    | some p => match rdS ⟨P, fn.ntmps, tab, gE, eV, res, ⟨ver, some fl, ver⟩, 2⟩ fx q s T p [p, 0, 2, q, ver, fl] rest3 with
                      | some l => if compRet ⟨P, fn.ntmps, tab, gE, eV, res, ⟨ver, some fl, ver⟩, 2⟩ q l then some ps else none
                      | none => none
                    | none => none
                  else none
                | none => none
              | _, _ => none
            else none
          | none => none
        | none => none
      | none => none
      else none
    | _ => none
    else none
  | _, _ => none

/-- What a reading function leaves: the error, or the part as it was read. -/
def ReadsTo (eV : Value) (T : Ty) (g o : Nat) (tG : TypeId) (res : Option (V × List UInt8)) (w : World) (x : Value) (w' : World) : Prop :=
  Ch (fun k => k = g) w w' ∧ match res with
  | some y => x = .nilIface ∧ ∃ cells, Blk w' g tG cells ∧ o + T.size ≤ cells.length ∧ Rep w' (fun k => k < w'.heap.size ∧ k ≠ g) T y.1 ((cells.drop o).take T.size)
  | none => x = eV

theorem chkRd_calls {P : Program} {tab : List (Nat × Rf)} {gE : Nat} {eV : Value} {tR : TypeId} {f : FuncId} {fn : Func} {T : Ty} {s : Sch} {ff : Option Int} {fx : Bool} {ps : List (Nat × V)} (hT : RdT P tR)
    (hX : ∀ f a, rfAt tab f = some a → Callable P f ∧ RfOk P gE eV f a) (hf : P.funcs[f]? = some fn) (h : chkRd P tab gE eV tR fn T s ff fx = some ps) {w : World} {S : Nat → Prop} {g o : Nat} {tG : TypeId} {v0 : V} {cells : List Value} {src : Value} {l : List UInt8} {ver : Int}
    (hb : Blk w g tG cells) (hrep : Rep w (fun k => k < w.heap.size ∧ k ≠ g) T v0 ((cells.drop o).take T.size)) (hlen : o + T.size ≤ cells.length) (herr : w.cell? ⟨gE, 0, none⟩ = some eV) (hgE : gE < w.heap.size ∧ gE ≠ g) (hsrc : SrcIs w S l src) (hS : ∀ k, S k → k < w.heap.size ∧ k ≠ g)
    (hver : (v0.puts ps).fld 0 = .i ver) (hv0 : 0 ≤ ver) (hfx : fx = flexAt ff ver) (hok : okB ver fx s = true) (hst : startB s (v0.puts ps) = true) :
    Calls P f #[.pointer (some ⟨g, o, none⟩), src, .bool false] w fun en w' => ∃ x, en = .returned x ∧ ReadsTo eV T g o tG (dec ver fx s (v0.puts ps) l) w x w' := by
  unfold chkRd at h
  split at h
  · rename_i c res hbody hres
    split at h
    · rename_i hfit
      simp only [Bool.and_eq_true] at hfit
      refine Calls.of_CW hf hbody hfit.1 (by simpa using hfit.2) (CW.of_flat ?_)
      split at h
      · rename_i c0 c1 c2 c3 c4 rest hflat
        rw [hflat]
        split at h
        · rename_i h0
          refine CWL.idle h0 fun σ0 he0 => ?_
          have hp0 : σ0 0 = .pointer (some ⟨g, o, none⟩) := (he0 0 (by simp)).trans rfl
          have hs0 : σ0 1 = src := (he0 1 (by simp)).trans rfl
          have hu0 : σ0 2 = .bool false := (he0 2 (by simp)).trans rfl
          split at h
          · rename_i ps' hdf
            split at h
            · rename_i q hnr
              split at h
              · rename_i vr hld
                split at h
                · rename_i h4
                  -- the function that lays the defaults
                  have hD : ∀ {Q : Exit → Fm → World → Prop} {rest : List Code}, (∀ σ' w' c', Blk w' g tG (spl cells o c') → Rep w' (fun k => k < w.heap.size ∧ k ≠ g) T (v0.puts ps') c' → Ch (fun k => k = g) w w' → (∀ t ∈ [0, 1, 2], σ' t = σ0 t) → CWL P fn.ntmps rest σ' w' Q) →
                      CWL P fn.ntmps (c1 :: rest) σ0 w Q := by
                    intro Q rest hk
                    unfold dfltOf at hdf
                    split at hdf
                    · rename_i op ty b hc
                      split at hdf
                      · rename_i f' u2 hop
                        split at hdf
                        · rename_i T' ps2 htab
                          split at hdf
                          · rename_i hh
                            simp only [Option.some.injEq] at hdf
                            subst hdf
                            simp only [Bool.and_eq_true, beq_iff_eq, decide_eq_true_eq] at hh
                            obtain ⟨⟨rfl, rfl⟩, hfree⟩ := hh
                            obtain ⟨hcall, hrf⟩ := hX f' _ htab
                            refine CWL.reg hc (OpK.asCall hop hcall rfl ?_)
                            simp only [List.map_cons, List.map_nil, ev_tmp, enF_two, hp0]
                            refine (hrf w _ g o tG cells v0 hb hrep hlen (fun h => h.2 rfl)).mono fun en w' ⟨he, c', hb', hr', hc'⟩ => ⟨_, he, ?_⟩
                            refine hk _ w' c' hb' hr' hc' fun t ht => ?_
                            rw [outF_free hfree ht, upd_odd _ _ _ _ (by omega), enF_two]
                          · cases hdf
                        · cases hdf
                      · cases hdf
                    · cases hdf
                  refine hD fun σ1 w1 c' hb1 hr1 hc1 he1 => ?_
                  have hsrc1 : SrcIs w1 S l src := hsrc.keep fun k hk => hc1.block k (hS k hk).1 (hS k hk).2
                  obtain ⟨a, cc, hsl, _⟩ := hsrc1.form
                  subst hsl
                  refine newRd_sound hT hnr ((he1 1 (by simp)).trans hs0) fun σ2 he2 hq2 => ?_
                  generalize hw2 : w1.alloc (.cells [Value.slice a l.length cc, .bool false].toArray tR) = w2
                  have hc2 : Ch (fun _ => False) w1 w2 := hw2 ▸ Ch.alloc _ w1 _
                  have hsz2 : w2.heap.size = w1.heap.size + 1 := by rw [← hw2]; simp
                  have hbR : Blk w2 w1.heap.size tR [.slice a l.length cc, .bool false] := hw2 ▸ Blk.new w1 tR _
                  have hgs : g < w1.heap.size := hb1.lt
                  have hcl := hr1.size
                  have hM : ∀ X : Cx, X.gE = gE → X.eV = eV → Mem X S (fun k => k = w1.heap.size ∨ k = g) w1.heap.size tR T g o tG w2 (v0.puts ps') ⟨l, false⟩ (spl cells o c') := by
                    intro X hE hV
                    refine ⟨⟨_, hbR, hsrc1.keep fun k hk => hc2.block k (Nat.lt_of_lt_of_le (hS k hk).1 hc1.size) fun h => h, fun h => ?_⟩, hb1.keep (hc2.block g hgs fun h => h), ?_, by rw [spl_len (by omega)]; exact hlen, ?_, fun k hk => ?_, fun k hk => ⟨?_, fun hw => ?_⟩, .inl rfl, .inr rfl, by omega, ?_, ?_, ?_⟩
                    · have := (hS _ h).1; have := hc1.size; omega
                    · have := spl_at (cs := cells) (c := c') (o := o) (by omega)
                      rw [hcl] at this
                      rw [this]
                      exact hr1.keepMono (fun k hk => hc2.block k (Nat.lt_of_lt_of_le hk.1 hc1.size) fun h => h) fun k hk => ⟨by have := hc1.size; have := hk.1; omega, fun h => by rcases h with h | h; (have := hc1.size; have := hk.1; omega); exact hk.2 h⟩
                    · rw [hE, hV]
                      rw [ch_cell hc2 (a := ⟨gE, 0, none⟩) (Nat.lt_of_lt_of_le hgE.1 hc1.size) (fun h => h) rfl, ch_cell hc1 (a := ⟨gE, 0, none⟩) hgE.1 hgE.2 rfl]
                      exact herr
                    · rcases hk with rfl | rfl <;> omega
                    · have := (hS k hk).1; have := hc1.size; omega
                    · rcases hw with rfl | rfl
                      · have := (hS _ hk).1; have := hc1.size; omega
                      · exact (hS _ hk).2 rfl
                    · rw [hE]; have := hc1.size; omega
                    · rw [hE]; have := hc1.size; omega
                    · rw [hE]; exact hgE.2
                  have hp2 : σ2 0 = .pointer (some ⟨g, o, none⟩) := (he2 0 (by simp)).trans ((he1 0 (by simp)).trans hp0)
                  have hu2 : σ2 2 = .bool false := (he2 2 (by simp)).trans ((he1 2 (by simp)).trans hu0)
                  have hMX := hM ⟨P, fn.ntmps, tab, gE, eV, res, ⟨0, none, 0⟩, 2⟩ rfl rfl
                  -- what holds at the end
                  have fin : ∀ (X : Cx), X.P = P → X.n = fn.ntmps → X.tab = tab → X.gE = gE → X.eV = eV → X.res = res → ∀ {cs : List Code}, compRet X q cs = true → ∀ σ' w' v' s' cells', σ' q = .pointer (some ⟨w1.heap.size, 0, none⟩) →
                      St (dec ver fx s (v0.puts ps') l) v' s' → Mem X S (fun k => k = w1.heap.size ∨ k = g) w1.heap.size tR T g o tG w' v' s' cells' → Ch (rg w1.heap.size g) w2 w' →
                      CWL P fn.ntmps cs σ' w' (Ends fn fun x w' => ReadsTo eV T g o tG (dec ver fx s (v0.puts ps') l) w x w') := by
                    intro X hP hn htb hE hV hR cs hcr σ' w' v' s' cells' hq' hSt hM' hc'
                    have hXs : X.Sound := ⟨fun f a hfa => by rw [hP, hE, hV]; exact hX f a (htb ▸ hfa)⟩
                    have hch : Ch (fun k => k = g) w w' := by
                      refine hc1.trans' ((hc2.mono fun _ _ h => h.elim : Ch (fun k => k = g) w1 w2).trans hc' fun i hi hT' => ?_)
                      rcases hT' with rfl | rfl
                      · omega
                      · rfl
                    have := compRet_sound (S := S) (r := w1.heap.size) (tR := tR) hXs hcr hq' hM'.rd hM'.err (Q := Ends fn fun x w' => ReadsTo eV T g o tG (dec ver fx s (v0.puts ps') l) w x w') fun σ'' hσ'' => ?_
                    · rw [hP, hn] at this; exact this
                    · rw [hR, hV] at hσ''
                      simp only [Ends]
                      unfold resTmp at hres
                      split at hres
                      · rename_i t ht
                        simp only [Option.some.injEq] at hres
                        subst hres
                        refine ⟨_, by simp only [resOf, ht]; rfl, hch, ?_⟩
                        cases hd : dec ver fx s (v0.puts ps') l with
                        | none =>
                          rw [hd] at hSt
                          have hbad : s'.bad = true := hSt
                          rw [hσ'', if_pos hbad]
                        | some y =>
                          rw [hd] at hSt
                          obtain ⟨rfl, rfl⟩ := hSt
                          rw [hσ'']
                          exact ⟨rfl, cells', hM'.blk, hM'.len, hM'.rep.mono fun k hk => ⟨hk.1, fun h => hk.2 (.inr h)⟩⟩
                      · cases hres
                  have early : dec ver fx s (v0.puts ps') l = none → ∀ σ' w', Ch (rg w1.heap.size g) w2 w' → σ' res = eV → Ends fn (fun x w' => ReadsTo eV T g o tG (dec ver fx s (v0.puts ps') l) w x w') .ret σ' w' := by
                    intro hd σ' w' hc' hσ'
                    simp only [Ends]
                    unfold resTmp at hres
                    split at hres
                    · rename_i t ht
                      simp only [Option.some.injEq] at hres
                      subst hres
                      refine ⟨_, by simp only [resOf, ht]; rfl, ?_, ?_⟩
                      · refine hc1.trans' ((hc2.mono fun _ _ h => h.elim : Ch (fun k => k = g) w1 w2).trans hc' fun i hi hT' => ?_)
                        rcases hT' with rfl | rfl
                        · omega
                        · rfl
                      · rw [hd]; exact hσ'
                    · cases hres
                  have hpsE : ps' = ps := by
                    revert h
                    repeat' split
                    all_goals intro h
                    all_goals first | (cases h; done) | (simp only [Option.some.injEq] at h; exact h)
                  subst hpsE
                  refine loadOf_sound hld hp2 hMX.is fun σ3 he3 ⟨cs3, hr3, hv3⟩ => ?_
                  rw [hver] at hr3
                  obtain ⟨rfl, _⟩ : cs3 = [.int .i16 ver] ∧ _ := hr3
                  have hv3' : σ3 vr = .int .i16 ver := hv3
                  refine CWL.idle h4 fun σ4 he4 => ?_
                  have hk4 : ∀ t ∈ [0, 2, q], σ4 t = σ2 t := fun t ht => (he4 t (by simp at ht ⊢; rcases ht with h | h | h <;> simp [h])).trans (he3 t ht)
                  have hv4 : σ4 vr = .int .i16 ver := (he4 vr (by simp)).trans hv3'
                  have hq4 : σ4 q = .pointer (some ⟨w1.heap.size, 0, none⟩) := (hk4 q (by simp)).trans hq2
                  have hp4 : σ4 0 = .pointer (some ⟨g, o, none⟩) := (hk4 0 (by simp)).trans hp2
                  have hu4 : σ4 2 = .bool false := (hk4 2 (by simp)).trans hu2
                  split at h
                  · rename_i c5 rest3
                    split at h
                    · cases h
                    · rename_i hfx0
                      split at h
                      · rename_i p hmv
                        split at h
                        · rename_i lst hrd
                          split at h
                          · rename_i hcr
                            have hfxf : fx = false := by simpa using hfx0
                            subst hfxf
                            refine movOf_sound hmv fun σ5 he5 hp5 => ?_
                            have hXs : (⟨P, fn.ntmps, tab, gE, eV, res, ⟨vr, none, vr⟩, 2⟩ : Cx).Sound := ⟨hX⟩
                            have hL : LIn ⟨P, fn.ntmps, tab, gE, eV, res, ⟨vr, none, vr⟩, 2⟩ false q p [p, 0, 2, q, vr] := ⟨by simp, fun x hx => by simp [Cx.kn] at hx; subst hx; simp, by simp, by simp⟩
                            have hstep := rdS_step (X := ⟨P, fn.ntmps, tab, gE, eV, res, ⟨vr, none, vr⟩, 2⟩) (S := S) (r := w1.heap.size) (tR := tR) (ver := ver) hXs hv0 s (W := fun k => k = w1.heap.size ∨ k = g) (g := g) (o := o) (tG := tG) hrd hL hok
                            refine hstep σ5 w2 (some (v0.puts ps', l)) (v0.puts ps') ⟨l, false⟩ (spl cells o c') _ ⟨(he5 vr (by simp)).trans hv4, fun s b hm => ?_, (he5 q (by simp)).trans hq4, hp5.trans hp4⟩ (fun x hx => by cases hx; exact hst) ⟨rfl, rfl⟩ (hM _ rfl rfl) (fun hn => early hn) fun σ6 w6 v6 s6 cells6 hS6 hM6 hc6 ho6 he6 => ?_
                            · simp [Cx.kn] at hm
                              obtain ⟨rfl, rfl⟩ := hm
                              exact (he5 2 (by simp)).trans hu4
                            · exact fin _ rfl rfl rfl rfl rfl rfl hcr σ6 w6 v6 s6 cells6 ((he6 q (by simp)).trans ((he5 q (by simp)).trans hq4)) hS6 hM6 hc6
                          · cases h
                        · cases h
                      · cases h
                  · rename_i m c5 c6 c7 rest3
                    split at h
                    · rename_i fl hfl
                      split at h
                      · rename_i h6
                        split at h
                        · rename_i p hmv
                          split at h
                          · rename_i lst hrd
                            split at h
                            · rename_i hcr
                              refine flexOf_sound hfl hv4 fun σ5 he5 hf5 => ?_
                              refine CWL.idle h6 fun σ6 he6 => ?_
                              refine movOf_sound hmv fun σ7 he7 hp7 => ?_
                              have hk7 : ∀ t ∈ [0, 2, q, vr], σ7 t = σ4 t := fun t ht => (he7 t (by simp at ht ⊢; rcases ht with h | h | h | h <;> simp [h])).trans ((he6 t (by simp at ht ⊢; rcases ht with h | h | h | h <;> simp [h])).trans (he5 t ht))
                              have hf7 : σ7 fl = .bool fx := by
                                rw [hfx, (he7 fl (by simp)).trans (he6 fl (by simp)), hf5]
                                rfl
                              have hp7' : σ7 p = .pointer (some ⟨g, o, none⟩) := hp7.trans (((he6 0 (by simp)).trans (he5 0 (by simp))).trans hp4)
                              have hXs : (⟨P, fn.ntmps, tab, gE, eV, res, ⟨vr, some fl, vr⟩, 2⟩ : Cx).Sound := ⟨hX⟩
                              have hL : LIn ⟨P, fn.ntmps, tab, gE, eV, res, ⟨vr, some fl, vr⟩, 2⟩ fx q p [p, 0, 2, q, vr, fl] := ⟨by simp, fun x hx => by simp [Cx.kn] at hx; rcases hx with rfl | rfl <;> simp, by simp, by simp⟩
                              have hstep := rdS_step (X := ⟨P, fn.ntmps, tab, gE, eV, res, ⟨vr, some fl, vr⟩, 2⟩) (S := S) (r := w1.heap.size) (tR := tR) (ver := ver) hXs hv0 s (W := fun k => k = w1.heap.size ∨ k = g) (g := g) (o := o) (tG := tG) hrd hL hok
                              refine hstep σ7 w2 (some (v0.puts ps', l)) (v0.puts ps') ⟨l, false⟩ (spl cells o c') _ ⟨(hk7 vr (by simp)).trans hv4, fun s b hm => ?_, (hk7 q (by simp)).trans hq4, hp7'⟩ (fun x hx => by cases hx; exact hst) ⟨rfl, rfl⟩ (hM _ rfl rfl) (fun hn => early hn) fun σ8 w8 v8 s8 cells8 hS8 hM8 hc8 ho8 he8 => ?_
                              · simp [Cx.kn] at hm
                                rcases hm with ⟨rfl, rfl⟩ | ⟨rfl, rfl⟩
                                · exact (hk7 2 (by simp)).trans hu4
                                · exact hf7
                              · exact fin _ rfl rfl rfl rfl rfl rfl hcr σ8 w8 v8 s8 cells8 ((he8 q (by simp)).trans ((hk7 q (by simp)).trans hq4)) hS8 hM8 hc8
                            · cases h
                          · cases h
                        · cases h
                      · cases h
                    · cases h
                  · cases h
                · cases h
              · cases h
            · cases h
          · cases h
        · cases h
      · cases h
    · cases h
  · cases h
end Go.Kx

/- The functions that lay the defaults of a part. -/
namespace Go.Kx
open Go.RowKit
set_option linter.unusedSimpArgs false
set_option linter.unusedVariables false

def dfOne (P : Program) (T : Ty) (c : Code) : Option (Nat × V) :=
  match canR c with
  | some ⟨[(.nilCheck (.tmp 0), _), (.fieldAddr tid (.tmp 1) k, _), (.store st (.tmp 3) (.const (.int kk z)), _)], b⟩ =>
    match T.fld k with
    | some (ty, off) => if decide (ty = .int kk) && fieldOff P tid k == some off && (P.info? st).map (·.size) == some 1 && kk.wrap z == z && free [0] b then some (k, .i z) else none
    | none => none
  | _ => none
/-- A field's address, of no use; or nothing. -/
def dfSkip (P : Program) (c : Code) : Bool :=
  isIdle [0] c || match canR c with
  | some ⟨[(.nilCheck (.tmp 0), _), (.fieldAddr tid (.tmp 1) k, _)], b⟩ => (fieldOff P tid k).isSome && free [0] b
  | _ => false
def dfS (P : Program) (T : Ty) : List Code → Option (List (Nat × V))
  | [] => some []
  | c :: cs => if dfSkip P c then dfS P T cs else match dfOne P T c, dfS P T cs with
    | some x, some l => some (x :: l)
    | _, _ => none
theorem dfSkip_sound {P : Program} {n : Nat} {c : Code} {a : Addr} (h : dfSkip P c = true) {cs : List Code} {σ : Fm} {w : World} {Q : Exit → Fm → World → Prop} (hp : σ 0 = .pointer (some a)) (hk : ∀ σ', σ' 0 = σ 0 → CWL P n cs σ' w Q) : CWL P n (c :: cs) σ w Q := by
  unfold dfSkip at h
  rw [Bool.or_eq_true] at h
  rcases h with h | h
  · exact CWL.idle h fun σ' he => hk σ' (he 0 (by simp))
  · split at h
    · rename_i ty1 tid k ty2 b hc
      simp only [Bool.and_eq_true] at h
      obtain ⟨h1, hfree⟩ := h
      obtain ⟨off, hoff⟩ := Option.isSome_iff_exists.1 h1
      refine CWL.reg hc ?_
      refine OpK.nilCheck (a := a) (by simp only [ev_tmp]; exact (enF_two σ 0).trans hp) ?_
      refine OpK.fieldAddr hoff (a := a) (by simp [upd]) ?_
      simp only [RC]
      refine hk _ ?_
      rw [outF_free hfree (by simp), upd_odd _ _ _ _ (by omega), upd_odd _ _ _ _ (by omega), enF_two]
    · cases h
def chkDf (P : Program) (fn : Func) (T : Ty) : Option (List (Nat × V)) :=
  match fn.body with
  | some c => if fits fn.ntmps c && Nat.ble 1 fn.ntmps && fn.results.toList.isEmpty then dfS P T (flat c) else none
  | none => none

theorem dfS_sound {P : Program} {n : Nat} {T : Ty} {g o : Nat} {t : TypeId} {S : Nat → Prop} (hg : ¬ S g) : ∀ (cs : List Code) {ps : List (Nat × V)} {σ : Fm} {w : World} {cells : List Value} {v : V} {Q : Exit → Fm → World → Prop}, dfS P T cs = some ps → σ 0 = .pointer (some ⟨g, o, none⟩) → Blk w g t cells →
    Rep w S T v ((cells.drop o).take T.size) → o + T.size ≤ cells.length →
    (∀ σ' w' c', Blk w' g t (spl cells o c') → Rep w' S T (v.puts ps) c' → Ch (fun k => k = g) w w' → Q .normal σ' w') → CWL P n cs σ w Q
  | [], ps, σ, w, cells, v, Q, h, hp, hb, hr, hl, hk => by
    simp only [dfS, Option.some.injEq] at h
    subst h
    have hsz := hr.size
    refine hk σ w _ ?_ hr (Ch.refl _ _)
    have : spl cells o ((cells.drop o).take T.size) = cells := by
      apply List.ext_getElem?
      intro i
      rw [spl_get (by omega), hsz, List.getElem?_take, List.getElem?_drop]
      by_cases h1 : i < o
      · rw [if_pos h1]
      · rw [if_neg h1]
        by_cases h2 : i < o + T.size
        · rw [if_pos h2, if_pos (by omega)]
          congr 1
          omega
        · rw [if_neg h2]
    rw [this]
    exact hb
  | c :: cs, ps, σ, w, cells, v, Q, h, hp, hb, hr, hl, hk => by
    simp only [dfS] at h
    split at h
    · rename_i hsk
      exact dfSkip_sound hsk hp fun σ' he => dfS_sound hg cs h (he.trans hp) hb hr hl hk
    split at h
    · rename_i x l hx hrest
      simp only [Option.some.injEq] at h
      subst h
      unfold dfOne at hx
      split at hx
      · rename_i ty1 tid k ty2 st kk z ty3 b hc
        split at hx
        · rename_i ty off hf
          split at hx
          · rename_i hh
            simp only [Option.some.injEq] at hx
            subst hx
            simp only [Bool.and_eq_true, beq_iff_eq, decide_eq_true_eq] at hh
            obtain ⟨⟨⟨⟨rfl, hoff⟩, hst⟩, hw⟩, hfree⟩ := hh
            have hu : Rep w S (.int kk) (.i z) [.int kk z] := ⟨rfl, hw⟩
            obtain ⟨_, _, _, _, hbd⟩ := hr.fld hf
            have hsz := hr.size
            simp only [Ty.size] at hbd
            refine CWL.reg hc ?_
            refine OpK.nilCheck (a := ⟨g, o, none⟩) (by simp only [ev_tmp]; exact (enF_two σ 0).trans hp) ?_
            refine OpK.fieldAddr hoff (a := ⟨g, o, none⟩) (by simp [upd]) ?_
            refine OpK.storeV (c := [.int kk z]) (v := .int kk z) (g := g) (o := o + off) (tG := t) (cells := cells) (by rw [hst]; rfl) (by simp [upd, add_at]) rfl (.inr rfl) (fun u hu => by simp at hu; subst hu; rfl) hb (by simp only [List.length_cons, List.length_nil]; omega) ?_
            simp only [RC]
            have hb2 := hb.setCells [.int kk z] (o + off) (by simp only [List.length_cons, List.length_nil]; omega)
            have hc2 := setCells_ch g [.int kk z] (o + off) w
            have hk2 : ∀ k, S k → (w.setCells g (o + off) [.int kk z]).heap[k]? = w.heap[k]? := fun k hS => setCells_heap g _ _ _ _ fun e => hg (e ▸ hS)
            have hr2 : Rep (w.setCells g (o + off) [.int kk z]) S T (v.put k (.i z)) (((spl cells (o + off) [.int kk z]).drop o).take T.size) := by
              rw [spl_sub (by simp only [List.length_cons, List.length_nil]; omega) hl]
              exact (hr.put hf hu).keep hk2
            have hl2 : o + T.size ≤ (spl cells (o + off) [.int kk z]).length := by rw [spl_len (by simp only [List.length_cons, List.length_nil]; omega)]; exact hl
            refine dfS_sound hg cs hrest ?_ hb2 hr2 hl2 fun σ' w' c' hb3 hr3 hc3 => hk σ' w' c' ?_ hr3 (hc2.trans' hc3)
            · rw [outF_free hfree (by simp), upd_odd _ _ _ _ (by omega), upd_odd _ _ _ _ (by omega), upd_odd _ _ _ _ (by omega), enF_two]
              exact hp
            · have hc'l := hr3.size
              have hl1 : off + 1 ≤ T.size := by omega
              have : spl (spl cells (o + off) [.int kk z]) o c' = spl cells o c' := by
                apply List.ext_getElem?
                intro i
                rw [spl_get (by omega), spl_get (by simp only [List.length_cons, List.length_nil]; omega), spl_get (by omega)]
                by_cases h1 : i < o
                · rw [if_pos h1, if_pos h1, if_pos (by omega)]
                · rw [if_neg h1, if_neg h1]
                  by_cases h2 : i < o + c'.length
                  · rw [if_pos h2, if_pos h2]
                  · rw [if_neg h2, if_neg h2, if_neg (by omega), if_neg (by simp only [List.length_cons, List.length_nil]; omega)]
              rw [this] at hb3
              exact hb3
          · cases hx
        · cases hx
      · cases hx
    · cases h

theorem chkDf_ok {P : Program} {gE : Nat} {eV : Value} {f : FuncId} {fn : Func} {T : Ty} {ps : List (Nat × V)} (hf : P.funcs[f]? = some fn) (h : chkDf P fn T = some ps) : RfOk P gE eV f (.dflt T ps) := by
  intro w S g o t cells v hb hr hl hg
  unfold chkDf at h
  split at h
  · rename_i c hbody
    split at h
    · rename_i hh
      simp only [Bool.and_eq_true, List.isEmpty_iff] at hh
      refine (Calls.of_CW hf hbody hh.1.1 (by simpa using hh.1.2) (CW.of_flat ?_) (R := fun x w' => x = .tuple #[] ∧ ∃ c', Blk w' g t (spl cells o c') ∧ Rep w' S T (v.puts ps) c' ∧ Ch (fun k => k = g) w w')).mono fun en w' ⟨x, he, hx, hR⟩ => ⟨by rw [he, hx], hR⟩
      refine dfS_sound hg (flat c) h rfl hb hr hl fun σ' w' c' h1 h2 h3 => ?_
      simp only [Ends]
      exact ⟨.tuple #[], by unfold resOf; rw [hh.2], rfl, c', h1, h2, h3⟩
    · cases h
  · cases h
end Go.Kx

/- Rules and plain lemmas that the reading functions of a seat want. -/
namespace Go.Kx
open Go.RowKit
set_option linter.unusedSimpArgs false
set_option linter.unusedVariables false

theorem NN.of_step {w : World} {g : Nat} {t : TypeId} {v0 b : Value} (hb : Blk w g t [v0, b]) (a : Addr) (c j n m : Nat) : NN (w.setCell ⟨g, 0, none⟩ (.slice (if c = j then some a else (some a).map (·.add j)) n m)) g := by
  have := (hb.set 0 (.slice (if c = j then some a else (some a).map (·.add j)) n m)).cell 0
  by_cases hc : c = j
  · rw [if_pos hc] at this ⊢
    exact ⟨a, n, m, this⟩
  · rw [if_neg hc] at this ⊢
    exact ⟨a.add j, n, m, this⟩

theorem Got.bind {α β : Type} {s s1 s2 : Rs} {d1 : Dc α} {a : α} {d2 : α → Dc β} {b : β} (h1 : Got s.o d1 a s1) (h2 : Got s1.o (d2 a) b s2) : Got s.o (fun l => (d1 l).bind fun x => d2 x.1 x.2) b s2 := by
  cases ho : s.o with
  | none =>
    rw [Got, ho] at h1
    have hb : s1.bad = true := h1
    rw [Got, show s1.o = none by unfold Rs.o; rw [hb]; rfl] at h2
    exact h2
  | some l =>
    rw [Got, ho] at h1
    simp only [Option.bind_some] at h1
    cases hd : d1 l with
    | none =>
      rw [hd] at h1
      have hb : s1.bad = true := h1
      rw [Got, show s1.o = none by unfold Rs.o; rw [hb]; rfl] at h2
      show (match ((d1 l).bind fun x => d2 x.1 x.2) with | some x => b = x.1 ∧ s2 = ⟨x.2, false⟩ | none => s2.bad = true)
      rw [hd]
      exact h2
    | some x =>
      rw [hd] at h1
      obtain ⟨rfl, rfl⟩ := h1
      rw [Got, show (⟨x.2, false⟩ : Rs).o = some x.2 from rfl] at h2
      simp only [Option.bind_some] at h2
      show (match ((d1 l).bind fun x => d2 x.1 x.2) with | some x => b = x.1 ∧ s2 = ⟨x.2, false⟩ | none => s2.bad = true)
      rw [hd]
      exact h2
theorem Got.map {α β : Type} {s s1 : Rs} {d : Dc α} {a : α} (h : Got s.o d a s1) (f : α → β) : Got s.o (fun l => (d l).map fun x => (f x.1, x.2)) (f a) s1 := by
  cases ho : s.o with
  | none => rw [Got, ho] at h; exact h
  | some l =>
    rw [Got, ho] at h
    simp only [Option.bind_some] at h
    show (match ((d l).map fun x => (f x.1, x.2)) with | some x => f a = x.1 ∧ s1 = ⟨x.2, false⟩ | none => s1.bad = true)
    cases hd : d l with
    | none => rw [hd] at h; exact h
    | some x => rw [hd] at h; exact ⟨by rw [h.1], h.2⟩
theorem Got.pure {α : Type} {s : Rs} (a : α) : Got s.o (fun l => some (a, l)) a s := by
  obtain ⟨r, b⟩ := s
  cases b
  · exact ⟨rfl, rfl⟩
  · rfl
theorem Got.of {α : Type} {s s1 : Rs} {d : Dc α} {a : α} (hb : s.bad = true → s1.bad = true) (hg : s.bad = false → match d s.rest with | some x => a = x.1 ∧ s1 = ⟨x.2, false⟩ | none => s1.bad = true) : Got s.o d a s1 := by
  obtain ⟨r, b⟩ := s
  cases b
  · exact hg rfl
  · exact hb rfl
/-- Where the reader is well, what was got was there. -/
theorem Got.o_some {α : Type} {s s1 : Rs} {d : Dc α} {a : α} (h : Got s.o d a s1) (hb : s1.bad = false) : ∃ l, s.o = some l ∧ d l = some (a, s1.rest) := by
  cases ho : s.o with
  | none => rw [Got, ho] at h; rw [show s1.bad = true from h] at hb; cases hb
  | some l =>
    rw [Got, ho] at h
    simp only [Option.bind_some] at h
    cases hd : d l with
    | none => rw [hd] at h; rw [show s1.bad = true from h] at hb; cases hb
    | some x => rw [hd] at h; exact ⟨l, rfl, by rw [hd, h.1, h.2]⟩

theorem got_int (k : IntKind) (n : Nat) (s : Rs) : Got s.o (decInt k n) (rdInt k n s).1 (rdInt k n s).2 := by
  unfold rdInt rdN
  by_cases h : s.rest.length < n
  · rw [if_pos h]
    exact Got.of (fun _ => rfl) fun _ => by unfold decInt; rw [if_pos h]; rfl
  · rw [if_neg h]
    exact Got.of (fun hb => hb) fun hb => by unfold decInt; rw [if_neg h]; exact ⟨rfl, by rw [← hb]⟩
theorem rdInt_in (k : IntKind) (n : Nat) (s : Rs) : k.wrap (rdInt k n s).1 = (rdInt k n s).1 := by
  unfold rdInt
  split
  · exact wrap_in _ _
  · cases k <;> rfl
theorem got_len (s : Rs) : Got s.o (decLen false) (rdLen s).1 (rdLen s).2 := by
  have h := got_int .i32 4 s
  unfold rdLen
  refine Got.of (fun hb => ?_) fun hb => ?_
  · split
    · rfl
    · have : s.o = none := by unfold Rs.o; rw [hb]; rfl
      rw [Got, this] at h
      exact h
  · have : s.o = some s.rest := by unfold Rs.o; rw [hb]; rfl
    rw [Got, this] at h
    simp only [Option.bind_some] at h
    unfold decLen decCnt
    simp only [Bool.false_eq_true, if_false]
    cases hd : decInt .i32 4 s.rest with
    | none =>
      rw [hd] at h
      simp only [Option.bind_none]
      split
      · rfl
      · exact h
    | some x =>
      rw [hd] at h
      obtain ⟨h1, h2⟩ := h
      simp only [Option.bind_some]
      rw [h2, h1]
      by_cases hlt : (x.2.length : Int) < x.1
      · rw [if_pos hlt, if_pos hlt]; rfl
      · rw [if_neg hlt, if_neg hlt]; exact ⟨h1, h2⟩
theorem rdLen_in (s : Rs) : -2147483648 ≤ (rdLen s).1 ∧ (rdLen s).1 < 2147483648 := by
  unfold rdLen
  split
  · exact ⟨by simp, by simp⟩
  · exact rdInt_i32 s

/-- What is left of a reader that is asked for n octets. -/
theorem got_span (n : Int) (s : Rs) : Got s.o (decSpan n) ((rdSpan n s).1.getD []) (rdSpan n s).2 := by
  unfold rdSpan rdN
  by_cases h0 : n < 0
  · rw [if_pos h0]
    exact Got.of (fun _ => rfl) fun _ => by unfold decSpan; rw [if_pos (.inl h0)]; rfl
  · rw [if_neg h0]
    by_cases h : s.rest.length < n.toNat
    · rw [if_pos h]
      exact Got.of (fun _ => rfl) fun _ => by unfold decSpan; rw [if_pos (.inr (by omega))]; rfl
    · rw [if_neg h]
      exact Got.of (fun hb => hb) fun hb => by unfold decSpan; rw [if_neg (by omega)]; exact ⟨rfl, by rw [← hb]⟩

section
variable {P : Program} {ρ : Operand → Value} {w : World} {K : Value → World → Prop} {d : Option Tmp} {ty : TypeId} {pos : String} {af : Array Edge} {g : Option (Nat × Bool)}
theorem OpK.bytesStr {x : Operand} {s t e : TypeId} {S : Nat → Prop} {l : List UInt8} {v : Value} (hs : P.underlying s = some (.slice e)) (he : P.underlying e = some (.int .u8)) (ht : P.underlying t = some .string) (hx : ρ x = v) (hv : SrcIs w S l v) (h : K (strV l) w) :
    OpK P ρ ⟨d, .convert s t x, ty, pos, af, g⟩ w K := by
  rcases hv with ⟨rfl, rfl⟩ | ⟨a, c, rfl, _, _, _, hO⟩
  · have hr := run_convert_bytes_nil (P := P) (w := w) s e hs he 0 0 t ht
    simp only [OpK, execOp, hx, Sem.run_bind, hr, Result.andThen_ok, Sem.run_pure, After]
    exact h
  · have hr := run_convert_bytes_back (P := P) w s t e a c l hs he ht fun j hj => by
      have := hO j l[j] (by rw [List.getElem?_eq_getElem hj])
      rw [this]
      rfl
    simp only [OpK, execOp, hx, Sem.run_bind, hr, Result.andThen_ok, Sem.run_pure, After]
    exact h
theorem OpK.buildS0 {t e : TypeId} (ht : P.underlying t = some (.slice e)) (hi : (P.info? e).map (fun i => (i.size, i.zero.isSome)) = some (1, true)) (h : K (.slice (some ⟨w.heap.size, 0, none⟩) 0 0) (w.alloc (.cells #[] e))) : OpK P ρ ⟨d, .buildSlice t 0 #[], ty, pos, af, g⟩ w K := by
  obtain ⟨i, hi, hh⟩ := Option.map_eq_some_iff.1 hi
  simp only [Prod.mk.injEq] at hh
  obtain ⟨z, hz⟩ := Option.isSome_iff_exists.1 hh.2
  refine OpK.buildS (v := .slice (some ⟨w.heap.size, 0, none⟩) 0 0) (w' := w.alloc (.cells #[] e)) ?_ h
  simp [Instr.buildSlice, run_underlying ht, sizeOf, typeInfo, hi, hh.1, hz, zeroValue, Instr.fill, newRow]
  exact congrArg (fun c => w.alloc (.cells c e)) (Array.ext' (by simp))
end

/-! ### A scope that is left ahead, to a label -/
def JumpTo (l : Nat) (J : Fm → World → Prop) (Q : Exit → Fm → World → Prop) : Exit → Fm → World → Prop
  | .goto l', σ, w => l' = l ∧ J σ w
  | e, σ, w => Q e σ w
theorem CW.scope {P : Program} {n : Nat} {σ : Fm} {w : World} {Q : Exit → Fm → World → Prop} {c rest : Code} (l : Nat) (hf : findLabel c l = some rest) (hs1 : fits n c = true) (hs2 : fits n rest = true) (J : Fm → World → Prop)
    (first : CW P n c σ w (JumpTo l J Q)) (pass : ∀ σ w, J σ w → CW P n rest σ w (JumpTo l (fun _ _ => False) Q)) : CW P n (.scope c) σ w Q := by
  intro _ a ha
  refine wp_scope_jumps l (fun a w => ∃ σ, Fr n a σ ∧ J σ w) (fun _ _ => 0) hf (wp_mono (first hs1 a ha) fun e a' w' ⟨σ', hfr, hQ⟩ => ?_) fun a w ⟨σ, hfr, hJ⟩ => wp_mono (pass σ w hJ hs2 a hfr) fun e a' w' ⟨σ', hfr', hQ⟩ => ?_
  · cases e with
    | goto l' => exact ⟨hQ.1, σ', hfr, hQ.2⟩
    | _ => exact ⟨σ', hfr, hQ⟩
  · cases e with
    | goto l' => exact hQ.2.elim
    | _ => exact ⟨σ', hfr', hQ⟩
theorem CW.goto_ {P : Program} {n : Nat} {σ : Fm} {w : World} {Q : Exit → Fm → World → Prop} {l : Nat} (h : Q (.goto l) σ w) : CW P n (.goto l) σ w Q := fun _ a ha => wp_goto ⟨σ, ha, h⟩
theorem CW.label_ {P : Program} {n : Nat} {σ : Fm} {w : World} {Q : Exit → Fm → World → Prop} {l : Nat} (h : Q .normal σ w) : CW P n (.label l) σ w Q := fun _ a ha => wp_label ⟨σ, ha, h⟩

/-! ### A result that lies in a variable -/
def EndsCell (t : Nat) (ty : TypeId) (P : Program) (R : Value → World → Prop) : Exit → Fm → World → Prop
  | .normal, σ, w | .ret, σ, w => ∃ a v, σ t = .pointer (some a) ∧ (loadVar ty a).run P w = .ok v w ∧ R v w
  | _, _, _ => False
theorem Calls.of_CW_cell {P : Program} {f : FuncId} {fn : Func} {c : Code} {args : Array Value} {w : World} {R : Value → World → Prop} {t : Nat} {ty : TypeId}
    (hf : P.funcs[f]? = some fn) (hb : fn.body = some c) (hs : fits fn.ntmps c = true) (hn : args.size ≤ fn.ntmps) (hres : fn.results = #[.cell t ty])
    (h : CW P fn.ntmps c (frame0 args) w (EndsCell t ty P R)) : Calls P f args w fun e w' => ∃ v, e = .returned v ∧ R v w' := by
  have key : ∀ {a : Act} {σ : Fm} {w : World}, Fr fn.ntmps a σ → (∃ ad v, σ t = .pointer (some ad) ∧ (loadVar ty ad).run P w = .ok v w ∧ R v w) → ∃ v, (results fn a.tmps).run P w = .ok v w ∧ R v w := by
    intro a σ w hfr ⟨ad, v, h1, h2, h3⟩
    refine ⟨v, ?_, h3⟩
    have hat := hfr.at_ t
    rw [h1] at hat
    rw [Array.getD_eq_getD_getElem?] at hat
    simp [results, hres, hat, asAddr, h2, Sem.run_bind]
  refine calls_of_wp hf hb (wp_mono (h hs _ ⟨by simp; omega, rfl, fun t => ?_⟩) fun e a w' ⟨σ', hfr, hQ⟩ => ?_)
  · simp only [frame0, Array.getD_eq_getD_getElem?]
    by_cases ht : t < args.size
    · rw [Array.getElem?_append_left ht]
    · rw [Array.getElem?_append_right (by omega), Array.getElem?_eq_none (xs := args) (by omega)]
      by_cases hr : t - args.size < fn.ntmps - args.size
      · rw [Array.getElem?_replicate, if_pos hr]; rfl
      · rw [Array.getElem?_replicate, if_neg hr]
  · cases e with
    | normal => obtain ⟨v, h1, h2⟩ := key hfr hQ; exact ⟨hfr.defers, v, h1, v, rfl, h2⟩
    | ret => obtain ⟨v, h1, h2⟩ := key hfr hQ; exact ⟨hfr.defers, v, h1, v, rfl, h2⟩
    | _ => exact hQ.elim
end Go.Kx
namespace Go.Kx
open Go.RowKit
def rdBool (s : Rs) : Bool × Rs :=
  match s.rest with
  | [] => (false, Rs.fail)
  | b :: l => (b != 0, ⟨l, s.bad⟩)
theorem got_bool (s : Rs) : Got s.o decBool (.b (rdBool s).1) (rdBool s).2 := by
  obtain ⟨l, b⟩ := s
  cases l with
  | nil => exact Got.of (fun _ => rfl) fun _ => rfl
  | cons x l => exact Got.of (fun hb => hb) fun hb => ⟨rfl, by simp only [rdBool]; exact congrArg _ hb⟩
theorem rdInt_u64_i64 (s : Rs) : IntKind.i64.wrap (rdInt .u64 8 s).1 = (rdInt .i64 8 s).1 ∧ (rdInt .u64 8 s).2 = (rdInt .i64 8 s).2 := by
  unfold rdInt
  cases h : rdN 8 s with
  | mk o s' =>
    cases o with
    | none => exact ⟨rfl, rfl⟩
    | some l =>
      refine ⟨?_, rfl⟩
      simp only
      rw [← wrap_mod .i64 (IntKind.u64.wrap _), show (2 : Int) ^ IntKind.i64.bits = 2 ^ IntKind.u64.bits from rfl, wrap_emod, show (2 : Int) ^ IntKind.u64.bits = 2 ^ IntKind.i64.bits from rfl, wrap_mod]
theorem oct1 {l : List UInt8} (h : ¬ l.length < 1) : ∃ b r, l = b :: r := by
  cases l with
  | nil => exact absurd (by simp) h
  | cons b r => exact ⟨b, r, rfl⟩
theorem byte_ne (b : UInt8) : ((b.toNat : Int) != 0) = (b != 0) := by
  by_cases h : b = 0
  · subst h; rfl
  · have : b.toNat ≠ 0 := fun e => h (UInt8.toNat_inj.1 e)
    rw [show (b != 0) = true by simpa using h]
    simpa using this
theorem i64_of_i16 (n : Int) (h : IntKind.i16.wrap n = n) : IntKind.i64.wrap n = n := by
  simp only [IntKind.wrap, IntKind.bits, IntKind.signed, Bool.true_and, decide_eq_true_eq, show ((2 : Int) ^ 16) = 65536 from rfl, show ((2 : Int) ^ (16 - 1)) = 32768 from rfl] at h
  refine i64_in n ?_ ?_ <;> split at h <;> omega
theorem i64_of_u32 (n : Nat) (h : n < 4294967296) : IntKind.i64.wrap (n : Int) = n ∧ IntKind.i64.wrap ((n : Int) - 1) = (n : Int) - 1 := by
  constructor
  · exact i64_nat n (by omega)
  · rw [IntKind.wrap_i64]; omega
/-- A span of what is left. -/
theorem SrcIs.span {w : World} {S : Nat → Prop} {l : List UInt8} {a : Option Addr} {c j : Nat} (h : SrcIs w S l (.slice a l.length c)) (hj : j ≤ l.length) : SrcIs w S (l.take j) (.slice (if j = 0 then a else a.map (·.add 0)) j j) := by
  rcases h with ⟨h, rfl⟩ | ⟨a', c', h1, h2, h3, h4, h5⟩
  · simp only [Value.slice.injEq] at h
    obtain ⟨rfl, _, rfl⟩ := h
    simp at hj
    subst hj
    exact .inl ⟨by simp, by simp⟩
  · simp only [Value.slice.injEq] at h1
    obtain ⟨rfl, _, rfl⟩ := h1
    have e : (if j = 0 then some a' else (some a').map (·.add 0)) = some a' := by
      split
      · rfl
      · simp [addr_add_zero]
    rw [e]
    exact .inr ⟨a', j, by simp [Nat.min_eq_left hj], by simp; omega, ⟨by omega, by simp; omega⟩, h4, h5.take j⟩
theorem span_some {a' : Addr} {j : Nat} : (if j = 0 then some a' else (some a').map (·.add 0)) = some a' := by
  split
  · rfl
  · simp [addr_add_zero]
end Go.Kx
namespace Go.Kx
open Go.RowKit
theorem Got.mk_none {α : Type} {l : List UInt8} {d : Dc α} {a : α} {s : Rs} (h : d l = none) (hb : s.bad = true) : Got (some l) d a s := by
  unfold Got
  rw [Option.bind_some, h]
  exact hb
theorem Got.mk_some {α : Type} {l l' : List UInt8} {d : Dc α} {a : α} (h : d l = some (a, l')) : Got (some l) d a ⟨l', false⟩ := by
  unfold Got
  rw [Option.bind_some, h]
  exact ⟨rfl, rfl⟩
theorem got_check {fx : Bool} {s s1 : Rs} {n : Int} (h : Got s.o (decCnt fx) n s1) : if (s1.rest.length : Int) < n then Got s.o (decLen fx) 0 Rs.fail else Got s.o (decLen fx) n s1 := by
  cases ho : s.o with
  | none =>
    rw [Got, ho] at h
    split
    · rfl
    · exact h
  | some l =>
    rw [Got, ho] at h
    simp only [Option.bind_some] at h
    cases hd : decCnt fx l with
    | none =>
      rw [hd] at h
      have e : decLen fx l = none := by unfold decLen; rw [hd]; rfl
      split
      · exact Got.mk_none e rfl
      · exact Got.mk_none e h
    | some x =>
      rw [hd] at h
      obtain ⟨rfl, rfl⟩ := h
      simp only
      split
      · rename_i hlt
        have e : decLen fx l = none := by unfold decLen; rw [hd]; simp only [Option.bind_some]; rw [if_pos hlt]
        exact Got.mk_none e rfl
      · rename_i hlt
        have e : decLen fx l = some x := by unfold decLen; rw [hd]; simp only [Option.bind_some]; rw [if_neg hlt]
        exact Got.mk_some e

/-- What kbin.Uvarint answers. -/
def UvIs (l : List UInt8) (x m : Int) : Prop :=
  match decUv l with
  | some y => x = y.1 ∧ m = (l.length : Int) - y.2.length
  | none => x = 0 ∧ m ≤ 0
theorem uv_suffix : ∀ (i : Nat) {l l' : List UInt8} {n : Nat}, decUvA i l = some (n, l') → ∃ c, l = c ++ l'
  | 0, [], _, _, h => by simp [decUvA] at h
  | i + 1, [], _, _, h => by simp [decUvA] at h
  | 0, b :: l, l', n, h => by
    rw [decUvA] at h
    split at h
    · simp only [Option.some.injEq, Prod.mk.injEq] at h; exact ⟨[b], by rw [h.2]; rfl⟩
    · cases h
  | i + 1, b :: l, l', n, h => by
    rw [decUvA] at h
    split at h
    · simp only [Option.some.injEq, Prod.mk.injEq] at h; exact ⟨[b], by rw [h.2]; rfl⟩
    · obtain ⟨⟨m, l2⟩, hm, he⟩ := Option.map_eq_some_iff.1 h
      simp only [Prod.mk.injEq] at he
      obtain ⟨c, hc⟩ := uv_suffix i hm
      exact ⟨b :: c, by rw [hc, he.2]; rfl⟩
theorem uv_drop {l : List UInt8} {y : Nat × List UInt8} {mn : Nat} (h : decUv l = some y) (hm : (mn : Int) = (l.length : Int) - y.2.length) : l.drop mn = y.2 := by
  obtain ⟨n, l'⟩ := y
  obtain ⟨c, rfl⟩ := uv_suffix 4 h
  rw [List.length_append] at hm
  have : mn = c.length := by simp only at hm; omega
  rw [this]
  simp
theorem u8_and (m : Nat) (b : UInt8) : bits .and .u8 (b.toNat : Int) ((m : Nat) : Int) = ((b.toNat &&& (m % 256) : Nat) : Int) := by
  have hb := b.toNat_lt
  show IntKind.u8.wrap ((BitVec.ofInt 8 (b.toNat : Int) &&& BitVec.ofInt 8 (m : Int)).toNat : Int) = _
  rw [BitVec.toNat_and, BitVec.toNat_ofInt, BitVec.toNat_ofInt]
  have e1 : ((b.toNat : Int) % ((2 ^ 8 : Nat) : Int)).toNat = b.toNat := by omega
  have e2 : ((m : Int) % ((2 ^ 8 : Nat) : Int)).toNat = m % 256 := by omega
  rw [e1, e2, IntKind.wrap_u8]
  have : b.toNat &&& (m % 256) ≤ b.toNat := Nat.and_le_left
  omega
theorem u8_and127 (b : UInt8) : bits .and .u8 (b.toNat : Int) 127 = ((b.toNat % 128 : Nat) : Int) := by
  have := u8_and 127 b
  rw [show (127 % 256 : Nat) = 2 ^ 7 - 1 from rfl, Nat.and_two_pow_sub_one_eq_mod] at this
  exact this
theorem u8_and128 (b : UInt8) : (bits .and .u8 (b.toNat : Int) 128 == 0) = decide (b.toNat < 128) := by
  have key : ∀ x : Fin 256, (((x.1 &&& (128 % 256) : Nat) : Int) == 0) = decide (x.1 < 128) := by decide +kernel
  rw [show bits .and .u8 (b.toNat : Int) 128 = _ from u8_and 128 b]
  exact key ⟨b.toNat, b.toNat_lt⟩
theorem u8_last (b : UInt8) (h : b.toNat < 128) : (bits .and .u8 (b.toNat : Int) 128 == 0) = true := by rw [u8_and128]; simpa using h
theorem u8_more (b : UInt8) (h : ¬ b.toNat < 128) : (bits .and .u8 (b.toNat : Int) 128 == 0) = false := by rw [u8_and128]; simpa using h

/-- The number after k groups, as the code has it. -/
def uvX : List UInt8 → Nat → Int → Int
  | [], _, x => x
  | b :: l, j, x => uvX l (j + 7) (bits .or .u32 x (IntKind.u32.wrap (IntKind.u32.wrap (bits .and .u8 (b.toNat : Int) 127) * 2 ^ min ((j : Int).toNat) IntKind.u32.bits)))
theorem grp_up (b : UInt8) (x j : Nat) (hx : x < 2 ^ j) (hj : j + 7 ≤ 32) : bits .or .u32 (x : Int) (IntKind.u32.wrap (IntKind.u32.wrap (bits .and .u8 (b.toNat : Int) 127) * 2 ^ min ((j : Int).toNat) IntKind.u32.bits)) = ((x + b.toNat % 128 * 2 ^ j : Nat) : Int) ∧ x + b.toNat % 128 * 2 ^ j < 2 ^ (j + 7) := by
  have h1 : b.toNat % 128 < 128 := Nat.mod_lt _ (by decide)
  have h2 : (b.toNat % 128 + 1) * 2 ^ j ≤ 128 * 2 ^ j := Nat.mul_le_mul_right _ h1
  have h3 : 128 * 2 ^ j = 2 ^ (j + 7) := by rw [Nat.pow_add, Nat.mul_comm]
  have h4 : x + b.toNat % 128 * 2 ^ j < 2 ^ (j + 7) := by rw [Nat.add_mul, Nat.one_mul, h3] at h2; omega
  have h5 : (2 : Nat) ^ (j + 7) ≤ 2 ^ 32 := Nat.pow_le_pow_right (by decide) hj
  rw [u8_and127]
  have e1 : IntKind.u32.wrap ((b.toNat % 128 : Nat) : Int) = ((b.toNat % 128 : Nat) : Int) := wrap_un .u32 rfl _ (by omega) (by have : (2 : Int) ^ IntKind.u32.bits = 4294967296 := rfl; omega)
  rw [e1, Int.toNat_natCast, show min j IntKind.u32.bits = j from Nat.min_eq_left (by show j ≤ 32; omega)]
  have e2 : (((b.toNat % 128 : Nat) : Int) * 2 ^ j) = ((b.toNat % 128 * 2 ^ j : Nat) : Int) := by rw [Int.natCast_mul, Int.natCast_pow]; rfl
  rw [e2, wrap_un .u32 rfl _ (by omega) (by have : (2 : Int) ^ IntKind.u32.bits = ((2 ^ 32 : Nat) : Int) := rfl; omega)]
  exact ⟨or_parts .u32 rfl x (b.toNat % 128) j hx (by show x + b.toNat % 128 * 2 ^ j < 2 ^ 32; omega), h4⟩
end Go.Kx
namespace Go.Kx
open Go.RowKit
def g0 (b : UInt8) : Int := IntKind.u32.wrap (bits .and .u8 (b.toNat : Int) 127)
def gk (x : Int) (b : UInt8) (j : Int) : Int := bits .or .u32 x (IntKind.u32.wrap (IntKind.u32.wrap (bits .and .u8 (b.toNat : Int) 127) * 2 ^ min j.toNat IntKind.u32.bits))
theorem g0_eq (b : UInt8) : g0 b = ((b.toNat % 128 : Nat) : Int) := by
  unfold g0
  rw [u8_and127]
  exact wrap_un .u32 rfl _ (by omega) (by have : (2 : Int) ^ IntKind.u32.bits = 4294967296 := rfl; omega)
theorem gk_eq (x : Nat) (b : UInt8) (j : Nat) (hx : x < 2 ^ j) (hj : j + 7 ≤ 32) : gk (x : Int) b (j : Int) = ((x + b.toNat % 128 * 2 ^ j : Nat) : Int) := (grp_up b x j hx hj).1
theorem uv_is1 (b0 : UInt8) (h0 : b0.toNat < 128) {l : List UInt8} : UvIs (b0 :: l) (g0 b0) 1 := by
  unfold UvIs
  have : decUv (b0 :: l) = some (b0.toNat, l) := by simp [decUv, decUvA, h0]
  rw [this, g0_eq]
  simp only [List.length_cons]
  omega
theorem uv_is2 (b0 b1 : UInt8) (h0 : ¬ b0.toNat < 128) (h1 : b1.toNat < 128) {l : List UInt8} : UvIs (b0 :: b1 :: l) (gk (g0 b0) b1 7) 2 := by
  unfold UvIs
  have : decUv (b0 :: b1 :: l) = some (b0.toNat - 128 + 128 * b1.toNat, l) := by simp [decUv, decUvA, h0, h1]
  have q0 := b0.toNat_lt
  rw [this, g0_eq, show (7 : Int) = ((7 : Nat) : Int) from rfl, gk_eq _ b1 7 (by omega) (by omega)]
  simp only [List.length_cons]
  omega
theorem uv_is3 (b0 b1 b2 : UInt8) (h0 : ¬ b0.toNat < 128) (h1 : ¬ b1.toNat < 128) (h2 : b2.toNat < 128) {l : List UInt8} : UvIs (b0 :: b1 :: b2 :: l) (gk (gk (g0 b0) b1 7) b2 14) 3 := by
  unfold UvIs
  have : decUv (b0 :: b1 :: b2 :: l) = some (b0.toNat - 128 + 128 * (b1.toNat - 128 + 128 * b2.toNat), l) := by simp [decUv, decUvA, h0, h1, h2]
  have q0 := b0.toNat_lt
  have q1 := b1.toNat_lt
  rw [this, g0_eq, show (7 : Int) = ((7 : Nat) : Int) from rfl, gk_eq _ b1 7 (by omega) (by omega), show (14 : Int) = ((14 : Nat) : Int) from rfl, gk_eq _ b2 14 (by omega) (by omega)]
  simp only [List.length_cons]
  omega
theorem uv_is4 (b0 b1 b2 b3 : UInt8) (h0 : ¬ b0.toNat < 128) (h1 : ¬ b1.toNat < 128) (h2 : ¬ b2.toNat < 128) (h3 : b3.toNat < 128) {l : List UInt8} : UvIs (b0 :: b1 :: b2 :: b3 :: l) (gk (gk (gk (g0 b0) b1 7) b2 14) b3 21) 4 := by
  unfold UvIs
  have : decUv (b0 :: b1 :: b2 :: b3 :: l) = some (b0.toNat - 128 + 128 * (b1.toNat - 128 + 128 * (b2.toNat - 128 + 128 * b3.toNat)), l) := by simp [decUv, decUvA, h0, h1, h2, h3]
  have q0 := b0.toNat_lt
  have q1 := b1.toNat_lt
  have q2 := b2.toNat_lt
  rw [this, g0_eq, show (7 : Int) = ((7 : Nat) : Int) from rfl, gk_eq _ b1 7 (by omega) (by omega), show (14 : Int) = ((14 : Nat) : Int) from rfl, gk_eq _ b2 14 (by omega) (by omega), show (21 : Int) = ((21 : Nat) : Int) from rfl, gk_eq _ b3 21 (by omega) (by omega)]
  simp only [List.length_cons]
  omega
def gL (x : Int) (b : UInt8) : Int := bits .or .u32 x (IntKind.u32.wrap (IntKind.u32.wrap (b.toNat : Int) * 2 ^ min ((28 : Int).toNat) IntKind.u32.bits))
theorem uv_is5 (b0 b1 b2 b3 b4 : UInt8) (h0 : ¬ b0.toNat < 128) (h1 : ¬ b1.toNat < 128) (h2 : ¬ b2.toNat < 128) (h3 : ¬ b3.toNat < 128) (h4 : b4.toNat ≤ 15) {l : List UInt8} : UvIs (b0 :: b1 :: b2 :: b3 :: b4 :: l) (gL (gk (gk (gk (g0 b0) b1 7) b2 14) b3 21) b4) 5 := by
  unfold UvIs
  have : decUv (b0 :: b1 :: b2 :: b3 :: b4 :: l) = some (b0.toNat - 128 + 128 * (b1.toNat - 128 + 128 * (b2.toNat - 128 + 128 * (b3.toNat - 128 + 128 * b4.toNat))), l) := by simp [decUv, decUvA, h0, h1, h2, h3, h4]
  have q0 := b0.toNat_lt
  have q1 := b1.toNat_lt
  have q2 := b2.toNat_lt
  have q3 := b3.toNat_lt
  rw [this, g0_eq, show (7 : Int) = ((7 : Nat) : Int) from rfl, gk_eq _ b1 7 (by omega) (by omega), show (14 : Int) = ((14 : Nat) : Int) from rfl, gk_eq _ b2 14 (by omega) (by omega), show (21 : Int) = ((21 : Nat) : Int) from rfl, gk_eq _ b3 21 (by omega) (by omega)]
  have hL : ∀ x : Nat, x < 2 ^ 28 → gL (x : Int) b4 = ((x + b4.toNat * 2 ^ 28 : Nat) : Int) := by
    intro x hx
    unfold gL
    have e1 : IntKind.u32.wrap (b4.toNat : Int) = (b4.toNat : Int) := wrap_un .u32 rfl _ (by omega) (by have : (2 : Int) ^ IntKind.u32.bits = 4294967296 := rfl; omega)
    rw [e1, show min ((28 : Int).toNat) IntKind.u32.bits = 28 from rfl]
    have e2 : ((b4.toNat : Int) * 2 ^ 28) = ((b4.toNat * 2 ^ 28 : Nat) : Int) := by rw [Int.natCast_mul]; rfl
    rw [e2, wrap_un .u32 rfl _ (by omega) (by have : (2 : Int) ^ IntKind.u32.bits = 4294967296 := rfl; omega)]
    exact or_parts .u32 rfl x b4.toNat 28 hx (by show x + b4.toNat * 2 ^ 28 < 2 ^ 32; omega)
  rw [hL _ (by omega)]
  simp only [List.length_cons]
  omega
theorem bytes_rep {w : World} {S : Nat → Prop} (S' : Nat → Prop) (hS : ∀ k, S k → S' k) {l : List UInt8} {v : Value} (h : SrcIs w S l v) : (v = .slice none 0 0 ∧ l = []) ∨ Rep w S' .bytes (.by_ l) [v] := by
  rcases h with h | ⟨a, c, rfl, h2, h3, h4, h5⟩
  · exact .inl h
  · exact .inr ⟨a, c, rfl, h2, hS _ h4, h5⟩
theorem Got.any {α : Type} {s s1 : Rs} {d : Dc α} {a b : α} (h : Got s.o d a s1) (hb : s1.bad = true) : Got s.o d b s1 := by
  unfold Got at h ⊢
  split
  · rename_i x hx
    rw [hx] at h
    rw [h.2] at hb
    cases hb
  · exact hb
theorem Got.well {α : Type} {s s1 : Rs} {d : Dc α} {a : α} (h : Got s.o d a s1) (hb : s1.bad = false) : s.bad = false := by
  cases hs : s.bad
  · rfl
  · have : s.o = none := by unfold Rs.o; rw [hs]; rfl
    rw [Got, this] at h
    rw [show s1.bad = true from h] at hb
    cases hb
theorem RdIs.alloc {w : World} {S : Nat → Prop} {g : Nat} {t : TypeId} {s : Rs} (h : RdIs w S g t s) (hS : ∀ k, S k → k < w.heap.size) (o : Obj) : RdIs (w.alloc o) S g t s := h.keepG (alloc_old w o g h.lt) fun k hk => alloc_old w o k (hS k hk)
theorem RdIs.newStr {w : World} {S : Nat → Prop} {g : Nat} {t : TypeId} {s : Rs} (h : RdIs w S g t s) (hS : ∀ k, S k → k < w.heap.size) (o : Obj) (v : Value) : RdIs ((w.alloc o).setCell ⟨w.heap.size, 0, none⟩ v) S g t s := by
  have hl := h.lt
  exact (h.alloc hS o).keepG (setCell_other _ _ _ _ (by simp only; omega)) fun k hk => setCell_other _ _ _ _ (by have := hS k hk; simp only; omega)
end Go.Kx
namespace Go.Kx
open Go.RowKit
section
variable {P : Program} {ρ : Operand → Value} {w : World} {K : Value → World → Prop} {d : Option Tmp} {ty : TypeId} {pos : String} {af : Array Edge} {g : Option (Nat × Bool)}
theorem OpK.extract {x : Operand} {vs : Array Value} {i : Nat} {v : Value} (hx : ρ x = .tuple vs) (hv : vs[i]? = some v) (h : K v w) : OpK P ρ ⟨d, .extract x i, ty, pos, af, g⟩ w K := by
  simp [OpK, execOp, hx, Instr.extract, hv, After]
  exact h
end
def dStr (n : Int) : Dc V := fun l => (decSpan n l).map fun x => (.s x.1, x.2)
def dNstr (n : Int) : Dc V := fun l => if n < 0 then some (.nsN, l) else (decSpan n l).map fun x => (.ns x.1, x.2)
def dByt (n : Int) : Dc V := fun l => if n = -1 then some (.by_ [], l) else (decSpan n l).map fun x => (.by_ x.1, x.2)
def dNbyt (n : Int) : Dc V := fun l => if n < 0 then some (.byN, l) else (decSpan n l).map fun x => (.by_ x.1, x.2)
section
variable {fx : Bool} {s s1 s2 : Rs} {n : Int} {u : V}
theorem got_str (h : Got s.o (decStrLen fx) n s1) (h2 : Got s1.o (dStr n) u s2) : Got s.o (decW fx .str) u s2 := h.bind (d2 := dStr) h2
theorem got_nstr (h : Got s.o (decStrLen fx) n s1) (h2 : Got s1.o (dNstr n) u s2) : Got s.o (decW fx .nstr) u s2 := h.bind (d2 := dNstr) h2
theorem got_byt (h : Got s.o (decBytLen fx) n s1) (h2 : Got s1.o (dByt n) u s2) : Got s.o (decW fx .byt) u s2 := h.bind (d2 := dByt) h2
theorem got_nbyt (h : Got s.o (decBytLen fx) n s1) (h2 : Got s1.o (dNbyt n) u s2) : Got s.o (decW fx .nbyt) u s2 := h.bind (d2 := dNbyt) h2
theorem gs_str (s : Rs) (n : Int) : Got s.o (dStr n) (.s ((rdSpan n s).1.getD [])) (rdSpan n s).2 := (got_span n s).map V.s
theorem gs_nstr0 (s : Rs) (h : n < 0) : Got s.o (dNstr n) .nsN s := by unfold dNstr; simp only [if_pos h]; exact Got.pure _
theorem gs_nstr (s : Rs) (h : ¬ n < 0) : Got s.o (dNstr n) (.ns ((rdSpan n s).1.getD [])) (rdSpan n s).2 := by unfold dNstr; simp only [if_neg h]; exact (got_span n s).map V.ns
theorem gs_byt0 (s : Rs) (h : n = -1) : Got s.o (dByt n) (.by_ []) s := by unfold dByt; simp only [if_pos h]; exact Got.pure _
theorem gs_byt (s : Rs) (h : ¬ n = -1) : Got s.o (dByt n) (.by_ ((rdSpan n s).1.getD [])) (rdSpan n s).2 := by unfold dByt; simp only [if_neg h]; exact (got_span n s).map V.by_
theorem gs_nbyt0 (s : Rs) (h : n < 0) : Got s.o (dNbyt n) .byN s := by unfold dNbyt; simp only [if_pos h]; exact Got.pure _
theorem gs_nbyt (s : Rs) (h : ¬ n < 0) : Got s.o (dNbyt n) (.by_ ((rdSpan n s).1.getD [])) (rdSpan n s).2 := by unfold dNbyt; simp only [if_neg h]; exact (got_span n s).map V.by_
end
theorem cell_newA (w : World) (c : Array Value) (t : TypeId) : (w.alloc (.cells c t)).cell? ⟨w.heap.size, 0, none⟩ = c[0]? := by
  have := (Blk.new w t c.toList).cell 0
  simp only [Array.toArray_toList, Array.getElem?_toList] at this
  exact this
theorem free_new (w : World) (c : Array Value) (t : TypeId) : (w.alloc (.cells c t)).frozen? ⟨w.heap.size, 0, none⟩ = false := by
  have := (Blk.new w t c.toList).free 0
  simp only [Array.toArray_toList] at this
  exact this
end Go.Kx
