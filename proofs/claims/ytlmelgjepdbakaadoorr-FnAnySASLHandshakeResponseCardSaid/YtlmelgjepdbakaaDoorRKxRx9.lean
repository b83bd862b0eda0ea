/- A whole function that reads a message. -/
import Derived.Test.YtlmelgjepdbakaaDoorRKxRx8
import Derived.Test.YtlmelgjepdbakaaDoorRKxRun3
namespace Go.Kx
open Go.RowKit
set_option linter.unusedSimpArgs false
set_option linter.unusedVariables false

/-- The type of readers. -/
structure RdT (P : Program) (tR : TypeId) : Prop where
  made : ∀ (a : Option Addr) (n c : Nat), P.built tR [(0, .slice a n c)] = some #[.slice a n c, .bool false]
  size : (P.info? tR).map (·.size) = some 2
  zero : ∃ i z, P.info? tR = some i ∧ i.zero = some z ∧ z.cells.size = 2

/-- 'b := kbin.Reader{Src: src}' -/
def newRd (tR : TypeId) (L : List Nat) (src : Nat) (c : Code) : Option Nat :=
  match canR c with
  | some ⟨[(.build t ps, _), (.alloc t2, _), (.store t3 (.tmp 3) (.tmp 1), _)], (q, 3) :: b⟩ =>
    match ps.toList with
    | [(0, .tmp s2)] => if t == tR && t2 == tR && t3 == tR && s2 == 2 * src && free L ((q, 3) :: b) then some q else none
    | _ => none
  | _ => none

theorem newRd_sound {P : Program} {n : Nat} {tR : TypeId} (hT : RdT P tR) {L : List Nat} {src q : Nat} {c : Code} (h : newRd tR L src c = some q) {σ : Fm} {w : World} {Q : Exit → Fm → World → Prop} {rest : List Code} {a : Option Addr} {m cc : Nat} (hs : σ src = .slice a m cc)
    (hk : ∀ σ', (∀ t ∈ L, σ' t = σ t) → σ' q = .pointer (some ⟨w.heap.size, 0, none⟩) → CWL P n rest σ' (w.alloc (.cells [Value.slice a m cc, .bool false].toArray tR)) Q) : CWL P n (c :: rest) σ w Q := by
  unfold newRd at h
  split at h
  · rename_i t ps ty1 t2 ty2 t3 ty3 q' b hcan
    split at h
    · rename_i s2 hps
      split at h
      · rename_i hh
        simp only [Option.some.injEq] at h
        subst h
        simp only [Bool.and_eq_true, beq_iff_eq] at hh
        obtain ⟨⟨⟨⟨rfl, rfl⟩, rfl⟩, rfl⟩, hfree⟩ := hh
        obtain ⟨i, z, hi, hz, hzs⟩ := hT.zero
        refine CWL.reg hcan (OpK.build (cells := #[.slice a m cc, .bool false]) ?_ ?_)
        · rw [hps]
          simp only [List.map_cons, List.map_nil, ev_tmp, enF_two, hs]
          exact hT.made a m cc
        · refine OpK.allocArr hi hz ?_
          refine OpK.storeArr (c' := [Value.slice a m cc, .bool false].toArray) (by rw [hT.size]; rfl) (by rw [hzs]; rfl) (by simp [Value.oneCell']) (by simp [upd]) (by simp [upd]) ?_
          simp only [RC]
          refine hk _ (fun t ht => ?_) (by rw [outF_head]; simp [upd])
          rw [outF_free hfree ht, upd_odd _ _ _ _ (by omega), upd_odd _ _ _ _ (by omega), upd_odd _ _ _ _ (by omega), enF_two]
      · cases h
    · cases h
  · cases h

/-- T: the struct; s: its fields; ff: from which version on the message is flexible; fx: whether it is. -/
def chkRd (P : Program) (tab : List (Nat × Rf)) (gE : Nat) (eV : Value) (tR : TypeId) (fn : Func) (T : Ty) (s : Sch) (ff : Option Int) (fx : Bool) : Option (List (Nat × V)) :=
  match fn.body, resTmp fn with
  | some c, some res => if fits fn.ntmps c && Nat.ble 3 fn.ntmps then match flat c with
    | c0 :: c1 :: c2 :: c3 :: c4 :: rest =>
      if isIdle [0, 1, 2] c0 then match dfltOf ⟨P, fn.ntmps, tab, gE, eV, res, ⟨0, none, 0⟩, 2⟩ [0, 1, 2] 0 T c1 with
      | some ps => match newRd tR [0, 2] 1 c2 with
        | some q => match loadOf P [0, 2, q] 0 T 0 (.int .i16) c3 with
          | some ver => if isIdle [0, 2, q, ver] c4 then match ff, rest with
              | none, c5 :: rest3 => if fx then none else match movOf [0, 2, q, ver] 0 c5 with
                | some p => match rdS ⟨P, fn.ntmps, tab, gE, eV, res, ⟨ver, none, ver⟩, 2⟩ false q s T p [p, 0, 2, q, ver] rest3 with
                  | some l => if compRet ⟨P, fn.ntmps, tab, gE, eV, res, ⟨ver, none, ver⟩, 2⟩ q l then some ps else none
                  | none => none
                | none => none
              | some m, c5 :: c6 :: c7 :: rest3 => match flexOf [0, 2, q, ver] ver m c5 with
                | some fl => if isIdle [0, 2, q, ver, fl] c6 then match movOf [0, 2, q, ver, fl] 0 c7 with
                    | some p => match rdS ⟨P, fn.ntmps, tab, gE, eV, res, ⟨ver, some fl, ver⟩, 2⟩ fx q s T p [p, 0, 2, q, ver, fl] rest3 with
                      | some l => if compRet ⟨P, fn.ntmps, tab, gE, eV, res, ⟨ver, some fl, ver⟩, 2⟩ q l then some ps else none
                      | none => none
                    | none => none
                  else none
                | none => none
              | _, _ => none
            else none
          | none => none
        | none => none
      | none => none
      else none
    | _ => none
    else none
  | _, _ => none

/-- What a reading function leaves: the error, or the part as it was read. -/
def ReadsTo (eV : Value) (T : Ty) (g o : Nat) (tG : TypeId) (res : Option (V × List UInt8)) (w : World) (x : Value) (w' : World) : Prop :=
  Ch (fun k => k = g) w w' ∧ match res with
  | some y => x = .nilIface ∧ ∃ cells, Blk w' g tG cells ∧ o + T.size ≤ cells.length ∧ Rep w' (fun k => k < w'.heap.size ∧ k ≠ g) T y.1 ((cells.drop o).take T.size)
  | none => x = eV

theorem chkRd_calls {P : Program} {tab : List (Nat × Rf)} {gE : Nat} {eV : Value} {tR : TypeId} {f : FuncId} {fn : Func} {T : Ty} {s : Sch} {ff : Option Int} {fx : Bool} {ps : List (Nat × V)} (hT : RdT P tR)
    (hX : ∀ f a, rfAt tab f = some a → Callable P f ∧ RfOk P gE eV f a) (hf : P.funcs[f]? = some fn) (h : chkRd P tab gE eV tR fn T s ff fx = some ps) {w : World} {S : Nat → Prop} {g o : Nat} {tG : TypeId} {v0 : V} {cells : List Value} {src : Value} {l : List UInt8} {ver : Int}
    (hb : Blk w g tG cells) (hrep : Rep w (fun k => k < w.heap.size ∧ k ≠ g) T v0 ((cells.drop o).take T.size)) (hlen : o + T.size ≤ cells.length) (herr : w.cell? ⟨gE, 0, none⟩ = some eV) (hgE : gE < w.heap.size ∧ gE ≠ g) (hsrc : SrcIs w S l src) (hS : ∀ k, S k → k < w.heap.size ∧ k ≠ g)
    (hver : (v0.puts ps).fld 0 = .i ver) (hv0 : 0 ≤ ver) (hfx : fx = flexAt ff ver) (hok : okB ver fx s = true) (hst : startB s (v0.puts ps) = true) :
    Calls P f #[.pointer (some ⟨g, o, none⟩), src, .bool false] w fun en w' => ∃ x, en = .returned x ∧ ReadsTo eV T g o tG (dec ver fx s (v0.puts ps) l) w x w' := by
  unfold chkRd at h
  split at h
  · rename_i c res hbody hres
    split at h
    · rename_i hfit
      simp only [Bool.and_eq_true] at hfit
      refine Calls.of_CW hf hbody hfit.1 (by simpa using hfit.2) (CW.of_flat ?_)
      split at h
      · rename_i c0 c1 c2 c3 c4 rest hflat
        rw [hflat]
        split at h
        · rename_i h0
          refine CWL.idle h0 fun σ0 he0 => ?_
          have hp0 : σ0 0 = .pointer (some ⟨g, o, none⟩) := (he0 0 (by simp)).trans rfl
          have hs0 : σ0 1 = src := (he0 1 (by simp)).trans rfl
          have hu0 : σ0 2 = .bool false := (he0 2 (by simp)).trans rfl
          split at h
          · rename_i ps' hdf
            split at h
            · rename_i q hnr
              split at h
              · rename_i vr hld
                split at h
                · rename_i h4
                  -- the function that lays the defaults
                  have hD : ∀ {Q : Exit → Fm → World → Prop} {rest : List Code}, (∀ σ' w' c', Blk w' g tG (spl cells o c') → Rep w' (fun k => k < w.heap.size ∧ k ≠ g) T (v0.puts ps') c' → Ch (fun k => k = g) w w' → (∀ t ∈ [0, 1, 2], σ' t = σ0 t) → CWL P fn.ntmps rest σ' w' Q) →
                      CWL P fn.ntmps (c1 :: rest) σ0 w Q := by
                    intro Q rest hk
                    unfold dfltOf at hdf
                    split at hdf
                    · rename_i op ty b hc
                      split at hdf
                      · rename_i f' u2 hop
                        split at hdf
                        · rename_i T' ps2 htab
                          split at hdf
                          · rename_i hh
                            simp only [Option.some.injEq] at hdf
                            subst hdf
                            simp only [Bool.and_eq_true, beq_iff_eq, decide_eq_true_eq] at hh
                            obtain ⟨⟨rfl, rfl⟩, hfree⟩ := hh
                            obtain ⟨hcall, hrf⟩ := hX f' _ htab
                            refine CWL.reg hc (OpK.asCall hop hcall rfl ?_)
                            simp only [List.map_cons, List.map_nil, ev_tmp, enF_two, hp0]
                            refine (hrf w _ g o tG cells v0 hb hrep hlen (fun h => h.2 rfl)).mono fun en w' ⟨he, c', hb', hr', hc'⟩ => ⟨_, he, ?_⟩
                            refine hk _ w' c' hb' hr' hc' fun t ht => ?_
                            rw [outF_free hfree ht, upd_odd _ _ _ _ (by omega), enF_two]
                          · cases hdf
                        · cases hdf
                      · cases hdf
                    · cases hdf
                  refine hD fun σ1 w1 c' hb1 hr1 hc1 he1 => ?_
                  have hsrc1 : SrcIs w1 S l src := hsrc.keep fun k hk => hc1.block k (hS k hk).1 (hS k hk).2
                  obtain ⟨a, cc, hsl, _⟩ := hsrc1.form
                  subst hsl
                  refine newRd_sound hT hnr ((he1 1 (by simp)).trans hs0) fun σ2 he2 hq2 => ?_
                  generalize hw2 : w1.alloc (.cells [Value.slice a l.length cc, .bool false].toArray tR) = w2
                  have hc2 : Ch (fun _ => False) w1 w2 := hw2 ▸ Ch.alloc _ w1 _
                  have hsz2 : w2.heap.size = w1.heap.size + 1 := by rw [← hw2]; simp
                  have hbR : Blk w2 w1.heap.size tR [.slice a l.length cc, .bool false] := hw2 ▸ Blk.new w1 tR _
                  have hgs : g < w1.heap.size := hb1.lt
                  have hcl := hr1.size
                  have hM : ∀ X : Cx, X.gE = gE → X.eV = eV → Mem X S (fun k => k = w1.heap.size ∨ k = g) w1.heap.size tR T g o tG w2 (v0.puts ps') ⟨l, false⟩ (spl cells o c') := by
                    intro X hE hV
                    refine ⟨⟨_, hbR, hsrc1.keep fun k hk => hc2.block k (Nat.lt_of_lt_of_le (hS k hk).1 hc1.size) fun h => h, fun h => ?_⟩, hb1.keep (hc2.block g hgs fun h => h), ?_, by rw [spl_len (by omega)]; exact hlen, ?_, fun k hk => ?_, fun k hk => ⟨?_, fun hw => ?_⟩, .inl rfl, .inr rfl, by omega, ?_, ?_, ?_⟩
                    · have := (hS _ h).1; have := hc1.size; omega
                    · have := spl_at (cs := cells) (c := c') (o := o) (by omega)
                      rw [hcl] at this
                      rw [this]
                      exact hr1.keepMono (fun k hk => hc2.block k (Nat.lt_of_lt_of_le hk.1 hc1.size) fun h => h) fun k hk => ⟨by have := hc1.size; have := hk.1; omega, fun h => by rcases h with h | h; (have := hc1.size; have := hk.1; omega); exact hk.2 h⟩
                    · rw [hE, hV]
                      rw [ch_cell hc2 (a := ⟨gE, 0, none⟩) (Nat.lt_of_lt_of_le hgE.1 hc1.size) (fun h => h) rfl, ch_cell hc1 (a := ⟨gE, 0, none⟩) hgE.1 hgE.2 rfl]
                      exact herr
                    · rcases hk with rfl | rfl <;> omega
                    · have := (hS k hk).1; have := hc1.size; omega
                    · rcases hw with rfl | rfl
                      · have := (hS _ hk).1; have := hc1.size; omega
                      · exact (hS _ hk).2 rfl
                    · rw [hE]; have := hc1.size; omega
                    · rw [hE]; have := hc1.size; omega
                    · rw [hE]; exact hgE.2
                  have hp2 : σ2 0 = .pointer (some ⟨g, o, none⟩) := (he2 0 (by simp)).trans ((he1 0 (by simp)).trans hp0)
                  have hu2 : σ2 2 = .bool false := (he2 2 (by simp)).trans ((he1 2 (by simp)).trans hu0)
                  have hMX := hM ⟨P, fn.ntmps, tab, gE, eV, res, ⟨0, none, 0⟩, 2⟩ rfl rfl
                  -- what holds at the end
                  have fin : ∀ (X : Cx), X.P = P → X.n = fn.ntmps → X.tab = tab → X.gE = gE → X.eV = eV → X.res = res → ∀ {cs : List Code}, compRet X q cs = true → ∀ σ' w' v' s' cells', σ' q = .pointer (some ⟨w1.heap.size, 0, none⟩) →
                      St (dec ver fx s (v0.puts ps') l) v' s' → Mem X S (fun k => k = w1.heap.size ∨ k = g) w1.heap.size tR T g o tG w' v' s' cells' → Ch (rg w1.heap.size g) w2 w' →
                      CWL P fn.ntmps cs σ' w' (Ends fn fun x w' => ReadsTo eV T g o tG (dec ver fx s (v0.puts ps') l) w x w') := by
                    intro X hP hn htb hE hV hR cs hcr σ' w' v' s' cells' hq' hSt hM' hc'
                    have hXs : X.Sound := ⟨fun f a hfa => by rw [hP, hE, hV]; exact hX f a (htb ▸ hfa)⟩
                    have hch : Ch (fun k => k = g) w w' := by
                      refine hc1.trans' ((hc2.mono fun _ _ h => h.elim : Ch (fun k => k = g) w1 w2).trans hc' fun i hi hT' => ?_)
                      rcases hT' with rfl | rfl
                      · omega
                      · rfl
                    have := compRet_sound (S := S) (r := w1.heap.size) (tR := tR) hXs hcr hq' hM'.rd hM'.err (Q := Ends fn fun x w' => ReadsTo eV T g o tG (dec ver fx s (v0.puts ps') l) w x w') fun σ'' hσ'' => ?_
                    · rw [hP, hn] at this; exact this
                    · rw [hR, hV] at hσ''
                      simp only [Ends]
                      unfold resTmp at hres
                      split at hres
                      · rename_i t ht
                        simp only [Option.some.injEq] at hres
                        subst hres
                        refine ⟨_, by simp only [resOf, ht]; rfl, hch, ?_⟩
                        cases hd : dec ver fx s (v0.puts ps') l with
                        | none =>
                          rw [hd] at hSt
                          have hbad : s'.bad = true := hSt
                          rw [hσ'', if_pos hbad]
                        | some y =>
                          rw [hd] at hSt
                          obtain ⟨rfl, rfl⟩ := hSt
                          rw [hσ'']
                          exact ⟨rfl, cells', hM'.blk, hM'.len, hM'.rep.mono fun k hk => ⟨hk.1, fun h => hk.2 (.inr h)⟩⟩
                      · cases hres
                  have early : dec ver fx s (v0.puts ps') l = none → ∀ σ' w', Ch (rg w1.heap.size g) w2 w' → σ' res = eV → Ends fn (fun x w' => ReadsTo eV T g o tG (dec ver fx s (v0.puts ps') l) w x w') .ret σ' w' := by
                    intro hd σ' w' hc' hσ'
                    simp only [Ends]
                    unfold resTmp at hres
                    split at hres
                    · rename_i t ht
                      simp only [Option.some.injEq] at hres
                      subst hres
                      refine ⟨_, by simp only [resOf, ht]; rfl, ?_, ?_⟩
                      · refine hc1.trans' ((hc2.mono fun _ _ h => h.elim : Ch (fun k => k = g) w1 w2).trans hc' fun i hi hT' => ?_)
                        rcases hT' with rfl | rfl
                        · omega
                        · rfl
                      · rw [hd]; exact hσ'
                    · cases hres
                  have hpsE : ps' = ps := by
                    revert h
                    repeat' split
                    all_goals intro h
                    all_goals first | (cases h; done) | (simp only [Option.some.injEq] at h; exact h)
                  subst hpsE
                  refine loadOf_sound hld hp2 hMX.is fun σ3 he3 ⟨cs3, hr3, hv3⟩ => ?_
                  rw [hver] at hr3
                  obtain ⟨rfl, _⟩ : cs3 = [.int .i16 ver] ∧ _ := hr3
                  have hv3' : σ3 vr = .int .i16 ver := hv3
                  refine CWL.idle h4 fun σ4 he4 => ?_
                  have hk4 : ∀ t ∈ [0, 2, q], σ4 t = σ2 t := fun t ht => (he4 t (by simp at ht ⊢; rcases ht with h | h | h <;> simp [h])).trans (he3 t ht)
                  have hv4 : σ4 vr = .int .i16 ver := (he4 vr (by simp)).trans hv3'
                  have hq4 : σ4 q = .pointer (some ⟨w1.heap.size, 0, none⟩) := (hk4 q (by simp)).trans hq2
                  have hp4 : σ4 0 = .pointer (some ⟨g, o, none⟩) := (hk4 0 (by simp)).trans hp2
                  have hu4 : σ4 2 = .bool false := (hk4 2 (by simp)).trans hu2
                  split at h
                  · rename_i c5 rest3
                    split at h
                    · cases h
                    · rename_i hfx0
                      split at h
                      · rename_i p hmv
                        split at h
                        · rename_i lst hrd
                          split at h
                          · rename_i hcr
                            have hfxf : fx = false := by simpa using hfx0
                            subst hfxf
                            refine movOf_sound hmv fun σ5 he5 hp5 => ?_
                            have hXs : (⟨P, fn.ntmps, tab, gE, eV, res, ⟨vr, none, vr⟩, 2⟩ : Cx).Sound := ⟨hX⟩
                            have hL : LIn ⟨P, fn.ntmps, tab, gE, eV, res, ⟨vr, none, vr⟩, 2⟩ false q p [p, 0, 2, q, vr] := ⟨by simp, fun x hx => by simp [Cx.kn] at hx; subst hx; simp, by simp, by simp⟩
                            have hstep := rdS_step (X := ⟨P, fn.ntmps, tab, gE, eV, res, ⟨vr, none, vr⟩, 2⟩) (S := S) (r := w1.heap.size) (tR := tR) (ver := ver) hXs hv0 s (W := fun k => k = w1.heap.size ∨ k = g) (g := g) (o := o) (tG := tG) hrd hL hok
                            refine hstep σ5 w2 (some (v0.puts ps', l)) (v0.puts ps') ⟨l, false⟩ (spl cells o c') _ ⟨(he5 vr (by simp)).trans hv4, fun s b hm => ?_, (he5 q (by simp)).trans hq4, hp5.trans hp4⟩ (fun x hx => by cases hx; exact hst) ⟨rfl, rfl⟩ (hM _ rfl rfl) (fun hn => early hn) fun σ6 w6 v6 s6 cells6 hS6 hM6 hc6 ho6 he6 => ?_
                            · simp [Cx.kn] at hm
                              obtain ⟨rfl, rfl⟩ := hm
                              exact (he5 2 (by simp)).trans hu4
                            · exact fin _ rfl rfl rfl rfl rfl rfl hcr σ6 w6 v6 s6 cells6 ((he6 q (by simp)).trans ((he5 q (by simp)).trans hq4)) hS6 hM6 hc6
                          · cases h
                        · cases h
                      · cases h
                  · rename_i m c5 c6 c7 rest3
                    split at h
                    · rename_i fl hfl
                      split at h
                      · rename_i h6
                        split at h
                        · rename_i p hmv
                          split at h
                          · rename_i lst hrd
                            split at h
                            · rename_i hcr
                              refine flexOf_sound hfl hv4 fun σ5 he5 hf5 => ?_
                              refine CWL.idle h6 fun σ6 he6 => ?_
                              refine movOf_sound hmv fun σ7 he7 hp7 => ?_
                              have hk7 : ∀ t ∈ [0, 2, q, vr], σ7 t = σ4 t := fun t ht => (he7 t (by simp at ht ⊢; rcases ht with h | h | h | h <;> simp [h])).trans ((he6 t (by simp at ht ⊢; rcases ht with h | h | h | h <;> simp [h])).trans (he5 t ht))
                              have hf7 : σ7 fl = .bool fx := by
                                rw [hfx, (he7 fl (by simp)).trans (he6 fl (by simp)), hf5]
                                rfl
                              have hp7' : σ7 p = .pointer (some ⟨g, o, none⟩) := hp7.trans (((he6 0 (by simp)).trans (he5 0 (by simp))).trans hp4)
                              have hXs : (⟨P, fn.ntmps, tab, gE, eV, res, ⟨vr, some fl, vr⟩, 2⟩ : Cx).Sound := ⟨hX⟩
                              have hL : LIn ⟨P, fn.ntmps, tab, gE, eV, res, ⟨vr, some fl, vr⟩, 2⟩ fx q p [p, 0, 2, q, vr, fl] := ⟨by simp, fun x hx => by simp [Cx.kn] at hx; rcases hx with rfl | rfl <;> simp, by simp, by simp⟩
                              have hstep := rdS_step (X := ⟨P, fn.ntmps, tab, gE, eV, res, ⟨vr, some fl, vr⟩, 2⟩) (S := S) (r := w1.heap.size) (tR := tR) (ver := ver) hXs hv0 s (W := fun k => k = w1.heap.size ∨ k = g) (g := g) (o := o) (tG := tG) hrd hL hok
                              refine hstep σ7 w2 (some (v0.puts ps', l)) (v0.puts ps') ⟨l, false⟩ (spl cells o c') _ ⟨(hk7 vr (by simp)).trans hv4, fun s b hm => ?_, (hk7 q (by simp)).trans hq4, hp7'⟩ (fun x hx => by cases hx; exact hst) ⟨rfl, rfl⟩ (hM _ rfl rfl) (fun hn => early hn) fun σ8 w8 v8 s8 cells8 hS8 hM8 hc8 ho8 he8 => ?_
                              · simp [Cx.kn] at hm
                                rcases hm with ⟨rfl, rfl⟩ | ⟨rfl, rfl⟩
                                · exact (hk7 2 (by simp)).trans hu4
                                · exact hf7
                              · exact fin _ rfl rfl rfl rfl rfl rfl hcr σ8 w8 v8 s8 cells8 ((he8 q (by simp)).trans ((hk7 q (by simp)).trans hq4)) hS8 hM8 hc8
                            · cases h
                          · cases h
                        · cases h
                      · cases h
                    · cases h
                  · cases h
                · cases h
              · cases h
            · cases h
          · cases h
        · cases h
      · cases h
    · cases h
  · cases h
end Go.Kx
