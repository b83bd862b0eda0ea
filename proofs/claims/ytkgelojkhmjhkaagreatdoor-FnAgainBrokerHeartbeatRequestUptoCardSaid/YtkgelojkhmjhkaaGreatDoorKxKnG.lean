/- Library texts KnG, joined. -/
import Derived.Test.YtkgelojkhmjhkaaGreatDoorKxPre2
/- A message that is read of known octets and written again. -/
namespace Go.Kx
open Go.RowKit
set_option linter.unusedSimpArgs false
set_option linter.unusedVariables false

/-- What is known of a message, of these octets. -/
structure MsgG (P : Program) (e tG : TypeId) (gE : Nat) (T : Ty) (tab : List (Nat × Rf)) (F : AgF) (rf : FuncId) (ps : List (Nat × V)) (ver : Int) (l : List UInt8) (G : V → Prop) : Prop where
  rd : ∀ eV f a, rfAt tab f = some a → Callable P f ∧ RfOk P gE eV f a
  u8 : U8 P e
  np : ∃ fn, P.funcs[F.np]? = some fn ∧ chkNp P tab fn T = some (tG, ps) ∧ Callable P F.np
  sv : ∃ fn, P.funcs[F.sv]? = some fn ∧ chkSv P fn T = true ∧ Callable P F.sv
  rfn : ∃ fn, P.funcs[F.rf]? = some fn ∧ chkRF fn rf = true ∧ Callable P F.rf ∧ Callable P rf
  read : ∀ {w : World} {S : Nat → Prop} {g : Nat} {cells : List Value} {src : Value} {tE : TypeId} {vE : Value}, Blk w g tG cells → Rep w (fun _ => False) T (((zeroV T).puts ps).put 0 (.i ver)) cells →
    w.cell? ⟨gE, 0, none⟩ = some (.iface tE vE) → gE < w.heap.size ∧ gE ≠ g → SrcIs w S l src → (∀ k, S k → k < w.heap.size ∧ k ≠ g) →
    Calls P rf #[.pointer (some ⟨g, 0, none⟩), src, .bool false] w fun en w' => ∃ x, en = .returned x ∧ x = .nilIface ∧ Ch (fun k => k = g) w w' ∧ ∃ v cells', Blk w' g tG cells' ∧ cells'.length = T.size ∧ Rep w' (fun k => k < w'.heap.size ∧ k ≠ g) T v cells' ∧ G v
  at_ : Callable P F.at_ ∧ ∀ {w : World} {g : Nat} {v : V}, G v → Is w (fun k => k < w.heap.size) g 0 T v → g < w.heap.size →
    Calls P F.at_ #[.pointer (some ⟨g, 0, none⟩), .slice none 0 0] w fun en w' => ∃ d', en = .returned d' ∧ Grew e w (.slice none 0 0) w' d' l

theorem chkAgG_calls {P : Program} {e tG : TypeId} {gE : Nat} {T : Ty} {tab : List (Nat × Rf)} {F : AgF} {rf : FuncId} {ps : List (Nat × V)} {ver : Int} {l : List UInt8} {G : V → Prop}
    (M : MsgG P e tG gE T tab F rf ps ver l G) {f : FuncId} {fn : Func} (hf : P.funcs[f]? = some fn) (h : chkAg P e fn F = true) {w : World} {S : Nat → Prop} {src : Value} {tE : TypeId} {vE : Value}
    (hv0 : 0 ≤ ver) (hvm : ver < 32768) (hsrc : OctIs w S l src) (hS : ∀ k, S k → k < w.heap.size) (hl : l.length < 1073741824) (herr : w.cell? ⟨gE, 0, none⟩ = some (.iface tE vE)) (hgE : gE < w.heap.size) :
    Calls P f #[.int .i64 ver, src] w fun en w' => ∃ x b, en = .returned (.tuple #[x, .bool b]) ∧ Ch (fun _ => False) w w' ∧ AgIs w w' (some l) x b := by
  have hi16 : IntKind.i16.wrap ver = ver := by
    have := i16_len (n := ver.toNat) (by omega)
    rw [show ((ver.toNat : Nat) : Int) = ver by omega] at this
    exact this
  unfold chkAg at h
  split at h
  · rename_i c r hbody hres
    simp only [Bool.and_eq_true] at h
    obtain ⟨⟨hfit, hn⟩, h⟩ := h
    split at h
    · rename_i c0 c1 c2 c3 t' A B c4 hflat
      simp only [Bool.and_eq_true] at h
      obtain ⟨h0, h⟩ := h
      split at h
      · rename_i o1 ty1 v b1 s16 t16 ty2 o2 ty3 b2 o3 ty4 o4 ty5 ti u1 ty6 t b3 o5 ty7 ty8 r2 r1 b4 hc1 hc2 hc3 hc4
        split at h
        · rename_i f1 f2 v2 ta tb f4 v4 f5 v5 ho1 ho2 ho3 ho4 ho5
          simp only [Bool.and_eq_true, beq_iff_eq, bne_iff_ne, ne_eq, List.isEmpty_iff] at h
          obtain ⟨⟨⟨⟨⟨⟨⟨⟨⟨⟨⟨⟨⟨⟨⟨⟨⟨⟨⟨⟨rfl, rfl⟩, rfl⟩, rfl⟩, rfl⟩, rfl⟩, rfl⟩, hs16⟩, ht16⟩, hoct⟩, rfl⟩, hif⟩, rfl⟩, hA⟩, hB⟩, hr1⟩, hr2⟩, hr12⟩, hf1⟩, hf2⟩, hf3⟩ := h
          refine (Calls.of_CW hf hbody hfit (by simpa using hn) (CW.of_flat ?_) (R := fun y w' => ∃ x b, y = .tuple #[x, .bool b] ∧ Ch (fun _ => False) w w' ∧ AgIs w w' (some l) x b)).mono fun en w' ⟨y, he, x, b, hy, hR⟩ => ⟨x, b, by rw [he, hy], hR⟩
          rw [hflat]
          refine CWL.idle h0 fun σ0 he0 => ?_
          have e0 : σ0 0 = .int .i64 ver := (he0 0 (by simp)).trans rfl
          have e1 : σ0 1 = src := (he0 1 (by simp)).trans rfl
          -- a new message
          obtain ⟨fnp, hnp1, hnp2, hnp3⟩ := M.np
          refine CWL.regG hc1 (OpK.asCall ho1 hnp3 rfl ?_)
          simp only [List.map_nil]
          refine (chkNp_calls (M.rd (.iface tE vE)) hnp1 hnp2 w).mono fun en w1 ⟨cells, he, hb1, hcl, hrep1, hch1⟩ => ⟨_, he, ?_⟩
          simp only [RC]
          intro σ1 hσ1
          have k1v : σ1 v = .pointer (some ⟨w.heap.size, 0, none⟩) := by rw [hσ1, outF_head]; simp
          have k1 : ∀ t ∈ [0, 1], σ1 t = σ0 t := fun t ht => by rw [hσ1, outF_free hf1 ht, upd_odd _ _ _ _ (by omega), enF_two]
          -- its version
          obtain ⟨fsv, hsv1, hsv2, hsv3⟩ := M.sv
          have htk : (cells.drop 0).take T.size = cells := by rw [List.drop_zero, List.take_of_length_le (by omega)]
          refine CWL.regG hc2 (OpK.convInt hs16 (isI16_spec ht16) (by simp only [ev_tmp]; exact (enF_two σ1 0).trans ((k1 0 (by simp)).trans e0)) ?_)
          rw [hi16]
          refine OpK.asCall ho2 hsv3 rfl ?_
          simp only [List.map_cons, List.map_nil, ev_tmp]
          rw [show upd (enF σ1) (some (2 * 0 + 1)) (Value.int .i16 ver) (2 * v) = .pointer (some ⟨w.heap.size, 0, none⟩) by rw [upd_odd _ _ _ _ (by omega), enF_two, k1v], show upd (enF σ1) (some (2 * 0 + 1)) (Value.int .i16 ver) 1 = .int .i16 ver from rfl]
          refine (chkSv_calls hsv1 hsv2 (S := fun _ => False) (v := (zeroV T).puts ps) hb1 (by rw [htk]; exact hrep1) (by omega) (fun h => h) hi16).mono fun en w2 ⟨he, c2', hb2, hrep2, hch2⟩ => ⟨_, he, ?_⟩
          simp only [RC]
          intro σ2 hσ2
          have k2 : ∀ t ∈ [1, v], σ2 t = σ1 t := fun t ht => by rw [hσ2, outF_free hf2 ht, upd_odd _ _ _ _ (by omega), upd_odd _ _ _ _ (by omega), enF_two]
          have hc2l := hrep2.size
          rw [splice_all (by omega)] at hb2
          have k2v : σ2 v = .pointer (some ⟨w.heap.size, 0, none⟩) := (k2 v (by simp)).trans k1v
          have k21 : σ2 1 = src := (k2 1 (by simp)).trans ((k1 1 (by simp)).trans e1)
          have hch12 : Ch (fun _ => False) w w2 := hch1.trans hch2 fun i hi e => by omega
          have hgs := hb2.lt
          -- a copy of the octets
          obtain rfl := asApp_spec ho3
          have hsrc2 : OctIs w2 S l src := hsrc.keep fun k hk => hch12.block k (hS k hk) fun h => h
          obtain ⟨a, cc, hsl, hnil, hO⟩ : ∃ a c, src = .slice a l.length c ∧ (a = none → l = []) ∧ ∀ a', a = some a' → Oct w2 a' l := by
            rcases hsrc2 with ⟨h1, h2⟩ | ⟨a, c, h1, h2, h3, h4⟩
            · exact ⟨none, 0, by rw [h1, h2]; rfl, fun _ => h2, fun _ h => by cases h⟩
            · exact ⟨some a, c, h1, (fun h => by cases h), fun a' h => by cases h; exact h4⟩
          have happ := run_append_oct (P := P) (w := w2) (t := ta) (ty := ty4) M.u8 (isOct_spec hoct) (Own.nil e w2) (a := a) (l := l) (c := cc) hnil hO (by simp only [List.length_nil, Lim]; omega)
          obtain ⟨d, w3, hrun, hgrew⟩ := happ
          rw [List.nil_append] at hgrew
          refine CWL.regG hc3 (OpK.run rfl (v := d) (w' := w3) ?_ ?_)
          · simp only [ev_tmp, ev_const]
            rw [show enF σ2 2 = src from (enF_two σ2 1).trans k21, hsl]
            exact hrun
          have hch3 : Ch (fun _ => False) w2 w3 := hgrew.ch.mono fun k _ hk => by simp [Value.ownBlock] at hk
          have hch13 : Ch (fun _ => False) w w3 := hch12.trans' hch3
          have hb3 := hb2.keep (hch3.block _ hgs fun h => h)
          have hdnew : ∀ k, d.ownBlock = some k → w2.heap.size ≤ k ∧ k < w3.heap.size := fun k hk => by
            refine ⟨?_, hgrew.own.lt hk⟩
            rcases hgrew.blk k hk with h' | h'
            · simp [Value.ownBlock] at h'
            · exact h'
          -- it is read
          obtain ⟨frf, hrf1, hrf2, hrf3, hrf4⟩ := M.rfn
          refine OpK.asCall ho4 hrf3 rfl ?_
          simp only [List.map_cons, List.map_nil, ev_tmp]
          rw [show upd (enF σ2) (some (2 * 0 + 1)) d (2 * v) = .pointer (some ⟨w.heap.size, 0, none⟩) by rw [upd_odd _ _ _ _ (by omega), enF_two, k2v], show upd (enF σ2) (some (2 * 0 + 1)) d 1 = d from rfl]
          have hrep3 : Rep w3 (fun _ => False) T ((((zeroV T).puts ps).put 0 (.i ver))) c2' := hrep2.keepMono (fun _ h => h.elim) fun _ h => h.elim
          have herr3 : w3.cell? ⟨gE, 0, none⟩ = some (.iface tE vE) := (ch_cell hch13 (a := ⟨gE, 0, none⟩) hgE (fun h => h) rfl).trans herr
          have hsz3 := hch13.size
          have hread := M.read (S := fun k => d.ownBlock = some k) hb3 hrep3 herr3 ⟨by omega, by omega⟩ (own_src hgrew.own (by omega)) (fun k hk => ⟨(hdnew k hk).2, by have := (hdnew k hk).1; omega⟩)
          refine (chkRF_calls hrf1 hrf2 hrf4 hread).mono fun en w4 ⟨x, he, hx, hch4, v4, cells4, hb4, hl4, hrep4, hG⟩ => ⟨x, he, ?_⟩
          have hch14 : Ch (fun _ => False) w w4 := hch13.trans hch4 fun i hi e => by omega
          obtain ⟨ms, hms⟩ := isIface_spec hif
          · skip
            refine OpK.neqNilIface (b := false) hms (v := x) (by simp [upd]) rfl (.inl ⟨hx, rfl⟩) ?_
            simp only [RC]
            intro σ3 hσ3
            have k3v : σ3 v = .pointer (some ⟨w.heap.size, 0, none⟩) := by
              rw [hσ3, outF_free hf3 (by simp), upd_odd _ _ _ _ (by omega), upd_odd _ _ _ _ (by omega), upd_odd _ _ _ _ (by omega), enF_two, k2v]
            refine CWL.condF (by simp only [ev_tmp]; rw [hσ3, outF_head]; simp [upd]) ?_
            rw [hB, List.nil_append]
            -- it is written
            obtain ⟨hat3, hat⟩ := M.at_
            have his : Is w4 (fun k => k < w4.heap.size) w.heap.size 0 T v4 := ⟨_, hrep4.mono fun k hk => hk.1, fun i u hu => by rw [hb4.cell, Nat.zero_add]; exact hu⟩
            refine CWL.regG hc4 (OpK.asCall ho5 hat3 rfl ?_)
            simp only [List.map_cons, List.map_nil, ev_tmp, ev_const]
            rw [show enF σ3 (2 * v) = .pointer (some ⟨w.heap.size, 0, none⟩) by rw [enF_two, k3v]]
            have hcall := hat (w := w4) (g := w.heap.size) (v := v4) hG his hb4.lt
            refine hcall.mono fun en w5 ⟨d', he5, hg5⟩ => ⟨d', he5, ?_⟩
            refine OpK.assign ?_
            simp only [RC, ev_const]
            intro σ5 hσ5
            refine CWL.ret ?_
            simp only [Ends]
            unfold resTwo at hres
            split at hres
            · rename_i a1 a2 hrs
              simp only [Option.some.injEq] at hres
              subst hres
              have hch5 : Ch (fun _ => False) w4 w5 := hg5.ch.mono fun k _ hk => by simp [Value.ownBlock] at hk
              refine ⟨_, by simp only [resOf, hrs]; rfl, d', true, ?_, hch14.trans' hch5, rfl, ?_⟩
              · simp only at hr1 hr2
                subst hr1
                subst hr2
                rw [hσ5, outF_head]
                simp [outF, look, Ne.symm hr12, upd]
              · rcases own_oct hg5.own with h | ⟨a, c, h1, h2, h3, h4⟩
                · exact .inl h
                · refine .inr ⟨a, c, h1, h2, ?_, h4⟩
                  refine ⟨?_, hg5.own.lt h3⟩
                  rcases hg5.blk _ h3 with h' | h'
                  · simp [Value.ownBlock] at h'
                  · have := hch14.size; omega
            · cases hres
        · cases h
      · cases h
    · cases h
  · cases h
end Go.Kx
