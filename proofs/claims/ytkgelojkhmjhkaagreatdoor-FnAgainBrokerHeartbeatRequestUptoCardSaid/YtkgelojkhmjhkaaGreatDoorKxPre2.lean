/- Library texts KnR KnA Pre2, joined. -/
import Derived.Test.YtkgelojkhmjhkaaGreatDoorKxRx8
import Derived.Test.YtkgelojkhmjhkaaGreatDoorKxIn2
import Derived.Test.YtkgelojkhmjhkaaGreatDoorKxSaid
/- A list in a field that may be there: it is read anew, into its own row or into a new one. -/
namespace Go.Kx
open Go.RowKit
set_option linter.unusedSimpArgs false
set_option linter.unusedVariables false

theorem setCells_size (g : Nat) : ∀ (vs : List Value) (o : Nat) (w : World), (w.setCells g o vs).heap.size = w.heap.size
  | [], _, _ => rfl
  | v :: vs, o, w => by rw [World.setCells, setCells_size g vs]; simp [World.setCell]

/-- The row of a list. -/
def rowIs (c : Value) (k : Nat) : Prop := ∃ m cc, c = .slice (some ⟨k, 0, none⟩) m cc
theorem rowIs_iff {a : Option Addr} {n c k : Nat} : rowIs (.slice a n c) k ↔ a = some ⟨k, 0, none⟩ := ⟨fun ⟨m, cc, h⟩ => by cases h; rfl, fun h => ⟨n, c, by rw [h]⟩⟩
theorem RowOf.form {w : World} {size : Nat} {v : Value} (h : RowOf w size v) : ∃ a n c, v = .slice a n c := by
  rcases h with rfl | ⟨te, b, m, c, cur, rfl, _⟩ <;> exact ⟨_, _, _, rfl⟩
theorem RowOf.lt {w : World} {size : Nat} {v : Value} (h : RowOf w size v) {k : Nat} (hk : rowIs v k) : k < w.heap.size := by
  obtain ⟨m, cc, rfl⟩ := hk
  rcases h with h | ⟨te, b, m, c, cur, h, hb, _⟩
  · cases h
  · cases h; exact hb.lt
theorem RowOf.keep {w w' : World} {size : Nat} {v : Value} (h : RowOf w size v) (hk : ∀ k, rowIs v k → w'.heap[k]? = w.heap[k]?) : RowOf w' size v := by
  rcases h with rfl | ⟨te, b, m, c, cur, rfl, hb, hl, hc⟩
  · exact .inl rfl
  · exact .inr ⟨te, b, m, c, cur, rfl, hb.keep (hk b ⟨m, c, rfl⟩), hl, hc⟩
theorem RowOf.cut {w : World} {size : Nat} {a : Option Addr} {n c : Nat} (h : RowOf w size (.slice a n c)) : RowOf w size (.slice a 0 c) := by
  rcases h with h | ⟨te, b, m, c, cur, h, hb, hl, hc⟩
  · cases h; exact .inl rfl
  · cases h; exact .inr ⟨te, b, 0, _, cur, rfl, hb, hl, hc⟩
theorem RowOf.none_rep {w w' : World} {size : Nat} {e : Ty} {D : Nat → Prop} {a : Option Addr} {n c : Nat} (h : RowOf w size (.slice a n c)) (hD : ∀ k, rowIs (.slice a n c) k → D k) : ∃ v : V, v.elems = [] ∧ Rep w' D (.arr e) v [.slice a 0 c] := by
  rcases h with h | ⟨te, b, m, c, cur, h, hb, hl, hc⟩
  · cases h; exact ⟨.arrN, rfl, rfl⟩
  · cases h; exact ⟨.arr [], rfl, b, _, rfl, ⟨Nat.zero_le _, hc⟩, hD b ⟨_, _, rfl⟩, fun i v hv => by simp at hv⟩

theorem loadOf_raw {P : Program} {n : Nat} {L : List Nat} {p : Nat} {T e : Ty} {k off : Nat} {c : Code} {s : Nat} (h : loadOf P L p T k (.arr e) c = some s) {rest : List Code} {σ : Fm} {w : World} {Q : Exit → Fm → World → Prop} {g o : Nat} {cv : Value}
    (hp : σ p = .pointer (some ⟨g, o, none⟩)) (hf : T.fld k = some (.arr e, off)) (hc : w.cell? ⟨g, o + off, none⟩ = some cv) (hk : ∀ σ', (∀ t ∈ L, σ' t = σ t) → σ' s = cv → CWL P n rest σ' w Q) : CWL P n (c :: rest) σ w Q := by
  unfold loadOf at h
  split at h
  · rename_i p2 ty1 tid k' ty2 lt ty3 s' b hcan
    rw [hf] at h
    simp only at h
    split at h
    · rename_i hh
      simp only [Option.some.injEq] at h
      subst h
      simp only [Bool.and_eq_true, beq_iff_eq, decide_eq_true_eq] at hh
      obtain ⟨⟨⟨⟨rfl, hoff⟩, hlo⟩, _⟩, hfree⟩ := hh
      refine CWL.reg hcan ?_
      refine OpK.nilCheck (a := ⟨g, o, none⟩) (by simp only [ev_tmp, enF_two]; exact hp) ?_
      refine OpK.fieldAddr hoff (a := ⟨g, o, none⟩) (by simp [upd]) ?_
      refine OpK.load hlo (a := ⟨g, o + off, none⟩) (by simp [upd, add_at]) hc ?_
      refine hk _ (fun t ht => ?_) ?_
      · rw [outF_free hfree ht, upd_odd _ _ _ _ (by omega), upd_odd _ _ _ _ (by omega), upd_odd _ _ _ _ (by omega), enF_two]
      · rw [outF_head]; simp [upd]
    · cases h
  · cases h

theorem storeOf_raw {P : Program} {n : Nat} {L : List Nat} {p k vs off : Nat} {T ty : Ty} {c : Code} (h : storeOf P L p T k ty c = some vs) {rest : List Code} {σ : Fm} {w : World} {Q : Exit → Fm → World → Prop} {g o : Nat} {tG : TypeId} {cells cu : List Value}
    (hp : σ p = .pointer (some ⟨g, o, none⟩)) (hf : T.fld k = some (ty, off)) (hb : Blk w g tG cells) (hl : o + off + cu.length ≤ cells.length) (hcu : cu.length = ty.size) (h1 : ∀ u ∈ cu, u.oneCell' = true) (hv : Sv cu (σ vs))
    (hk : ∀ σ', (∀ t ∈ L, σ' t = σ t) → CWL P n rest σ' (w.setCells g (o + off) cu) Q) : CWL P n (c :: rest) σ w Q := by
  unfold storeOf at h
  split at h
  · rename_i p2 ty1 tid k' ty2 st v2 ty3 b hc
    rw [hf] at h
    simp only at h
    split at h
    · rename_i hh
      simp only [Option.some.injEq] at h
      subst h
      simp only [Bool.and_eq_true, beq_iff_eq, decide_eq_true_eq] at hh
      obtain ⟨⟨⟨⟨⟨rfl, hoff⟩, _⟩, h2⟩, hst⟩, hfree⟩ := hh
      obtain ⟨vs, rfl⟩ : ∃ vs, v2 = 2 * vs := ⟨v2 / 2, by have := Nat.div_add_mod v2 2; rw [h2] at this; exact this.symm⟩
      have hvs : 2 * vs / 2 = vs := Nat.mul_div_cancel_left vs (by decide)
      rw [hvs] at hv
      refine CWL.reg hc ?_
      refine OpK.nilCheck (a := ⟨g, o, none⟩) (by simp only [ev_tmp, enF_two]; exact hp) ?_
      refine OpK.fieldAddr hoff (a := ⟨g, o, none⟩) (by simp [upd]) ?_
      refine OpK.storeV (c := cu) (v := σ vs) (g := g) (o := o + off) (tG := tG) (cells := cells) (by rw [hst, hcu]) (by simp [upd, add_at]) ?_ hv h1 hb hl ?_
      · simp only [ev_tmp, Nat.mul_zero, Nat.zero_add, Nat.mul_one, Nat.reduceAdd, Nat.reduceMul]
        rw [upd_odd _ _ _ _ (by omega), upd_odd _ _ _ _ (by omega), enF_two]
      · simp only [RC]
        refine hk _ fun t ht => ?_
        rw [outF_free hfree ht, upd_odd _ _ _ _ (by omega), upd_odd _ _ _ _ (by omega), upd_odd _ _ _ _ (by omega), enF_two]
    · cases h
  · cases h

section
variable {X : Cx} {S : Nat → Prop} {r : Nat} {tR : TypeId} {T : Ty} {g o : Nat} {tG : TypeId} {L : List Nat} {fx : Bool} {ver : Int} {q p : Nat}

theorem rdArrIn_sound (hX : X.Sound) (hL : LIn X fx q p L) {k off : Nat} {nul : Option Int} (hvn : nul = none ∨ 0 ≤ ver) {e : Ty} {body : Nat → Nat → Nat → List Code → Bool} {gd : Dc V} {cs rest : List Code} (h : rdArr X fx L q p T k nul e body cs = some rest) (hf : T.fld k = some (.arr e, off))
    (hbd : ∀ a ix ln cs, body a ix ln cs = true → ∀ (W : Nat → Prop) (ga : Nat) (te : TypeId) (m c : Nat), EStep X S W r tR e ga te m (ln :: a :: L) ix (InArr X fx ver q p r g o a ga m c) gd cs)
    {σ : Fm} {w : World} {cells : List Value} {cv : Value} {l : List UInt8} {Q : Exit → Fm → World → Prop} (hR : RdIs w S r tR ⟨l, false⟩) (hb : Blk w g tG cells) (hcv : cells[o + off]? = some cv) (hP : RP X fx ver q p r g o σ) (herr : w.cell? ⟨X.gE, 0, none⟩ = some X.eV)
    (hE : X.gE < w.heap.size ∧ X.gE ≠ r ∧ X.gE ≠ g ∧ ¬ rowIs cv X.gE) (hS : ∀ k, S k → k < w.heap.size ∧ k ≠ r ∧ k ≠ g ∧ ¬ rowIs cv k) (hrg : r ≠ g) (hrr : ¬ rowIs cv r) (hgr : ¬ rowIs cv g) (hrow : RowOf w e.size cv) (hone : ∀ u ∈ zeroC e, u.oneCell' = true) (hdz : nul = none ∨ ∃ n, decLen fx l = some n ∧ 0 < n.1)
    (hr : ((decLen fx l).bind fun n => decN gd n.1.toNat n.2) = none → ∀ σ' w', Ch (fun k => k = r ∨ rowIs cv k) w w' → σ' X.res = X.eV → Q .ret σ' w')
    (hk : ∀ σ' w' cv' vs s', GotN ((decLen fx l).bind fun n => decN gd n.1.toNat n.2) vs s' → RdIs w' S r tR s' → Ch (fun k => k = r ∨ k = g ∨ rowIs cv k) w w' → Blk w' g tG (cells.set (o + off) cv') → RowOf w' e.size cv' →
      (∃ v : V, v.elems = vs ∧ Rep w' (fun k => S k ∨ rowIs cv k ∨ (w.heap.size ≤ k ∧ k < w'.heap.size)) (.arr e) v [cv']) → (∀ k, rowIs cv' k → rowIs cv k ∨ w.heap.size ≤ k) → (∀ t ∈ L, σ' t = σ t) → CWL X.P X.n rest σ' w' Q) : CWL X.P X.n cs σ w Q := by
  have hlt : o + off < cells.length := (List.getElem?_eq_some_iff.1 hcv).1
  have hgl := hb.lt
  have hrl := hR.lt
  unfold rdArr at h
  split at h
  · rename_i c1 c2 cs2
    split at h
    · rename_i v0 hl1
      split at h
      · rename_i a hm1
        split at h
        · rename_i f ln cs3 hre
          split at h
          · rename_i hlen
            simp only [Bool.and_eq_true] at hlen
            obtain ⟨hlen, hwf⟩ := hlen
            split at h
            · rename_i cs4 hnul
              split at h
              · rename_i cs5 hok
                split at h
                · rename_i te cs6 hgr'
                  split at h
                  · rename_i ix inner c7 c8 cs9 hlp
                    split at h
                    · rename_i hbody
                      split at h
                      · rename_i v1 hm2
                        split at h
                        · rename_i vs hst
                          split at h
                          · rename_i hvs
                            simp only [Option.some.injEq] at h
                            subst h
                            rw [beq_iff_eq] at hvs
                            subst hvs
                            have hbd' := hbd a ix ln _ hbody
                            obtain ⟨hcall, hrf⟩ := hX.ok f _ (isLen_spec hlen)
                            obtain ⟨a0, n0, c0, rfl⟩ := hrow.form
                            refine loadOf_raw hl1 hP.ptr hf ((hb.cell _).trans hcv) fun σ1 he1 hv0 => ?_
                            refine movOf_sound hm1 fun σ2 he2 ha2 => ?_
                            have hk2 : ∀ t ∈ L, σ2 t = σ t := fun t ht => (he2 t ht).trans (he1 t ht)
                            have hP2 := hP.keep hL hk2
                            have hc := hrf w S r tR ⟨l, false⟩ (fun k hk => (hS k hk).1) hR
                            rw [← hP2.rdr] at hc
                            refine reach_sound (R := fun x w2 => ∃ (m : Int) (s' : Rs), x = .int .i32 m ∧ RdIs w2 S r tR s' ∧ Ch (fun k => k = r) w w2 ∧ (-2147483648 ≤ m ∧ m < 2147483648) ∧ Got (some l) (decLen fx) m s')
                              (fun x hx => List.mem_cons_of_mem _ (hL.kn x hx)) (List.mem_cons_of_mem _ hL.rdr) hcall 8 hre hP2.kn (hc.mono fun en w2 ⟨m, s', he, h1, h2, h3, h4⟩ => ⟨_, he, m, s', rfl, h1, h2, h3, h4⟩) fun σ3 w3 x ⟨z, s3, hx, hr3, hc3, hz3, hg3⟩ hln3 he3 => ?_
                            subst hx
                            have ha3 : σ3 a = .slice a0 n0 c0 := ((he3 a (by simp)).trans ha2).trans hv0
                            have hk3 : ∀ t ∈ L, σ3 t = σ t := fun t ht => (he3 t (List.mem_cons_of_mem _ ht)).trans (hk2 t ht)
                            have hP3 := hP.keep hL hk3
                            have herr3 : w3.cell? ⟨X.gE, 0, none⟩ = some X.eV := (ch_cell hc3 (a := ⟨X.gE, 0, none⟩) hE.1 (fun e => hE.2.1 e) rfl).trans herr
                            have hs3 := hc3.size
                            refine nulOf_sound hnul hP3.ver hvn hln3 (fun _ σn han hen => ?_) fun hnl hz00 => ?_
                            rotate_left
                            · obtain ⟨mm, rfl⟩ := hnl
                              obtain ⟨n, hn1, hn2⟩ := hdz.resolve_left (by simp)
                              unfold Got at hg3
                              simp only [Option.bind_some] at hg3
                              rw [hn1] at hg3
                              have := hg3.1
                              omega
                            replace ha3 : σn a = .slice a0 n0 c0 := han.trans ha3
                            replace hk3 : ∀ t ∈ L, σn t = σ t := fun t ht => (hen t (by simp [ht])).trans (hk3 t ht)
                            replace hP3 := hP.keep hL hk3
                            replace hln3 : σn ln = .int .i32 z := (hen ln (by simp)).trans hln3
                            refine okRet_sound hX hok hP3.rdr hr3 herr3 (fun hbad σ' hres => ?_) fun hgood σ4 he4 => ?_
                            · refine hr ?_ σ' w3 (hc3.mono fun _ _ h => .inl h) hres
                              unfold Got at hg3
                              simp only [Option.bind_some] at hg3
                              cases hd : decLen fx l with
                              | none => rfl
                              | some y => rw [hd] at hg3; rw [hg3.2] at hbad; cases hbad
                            · obtain ⟨l3, hd3, rfl⟩ : ∃ l3, decLen fx l = some (z, l3) ∧ s3 = ⟨l3, false⟩ := by
                                unfold Got at hg3
                                simp only [Option.bind_some] at hg3
                                cases hd : decLen fx l with
                                | none => rw [hd] at hg3; rw [show s3.bad = true from hg3] at hgood; cases hgood
                                | some y => rw [hd] at hg3; exact ⟨y.2, by rw [hg3.1], hg3.2⟩
                              have hln4 : σ4 ln = .int .i32 z := (he4 ln (by simp)).trans hln3
                              have ha4 : σ4 a = .slice a0 n0 c0 := (he4 a (by simp)).trans ha3
                              have hk4 : ∀ t ∈ L, σ4 t = σ t := fun t ht => (he4 t (by simp [ht])).trans (hk3 t ht)
                              have hb3 := hb.keep (hc3.block g hgl (Ne.symm hrg))
                              have hrow3 : RowOf w3 e.size (.slice a0 n0 c0) := hrow.keep fun k hk => hc3.block k (hrow.lt hk) fun e => hrr (e ▸ hk)
                              simp only [hd3, Option.bind_some] at hr hk
                              refine growIn_sound hgr' ha4 hln4 hz3.2 hrow3 hone (fun hz0 σ5 ha5 he5 => ?_) fun hz0 σ5 w5 gb c5 ca te5 ha5 hle5 hcap5 hb5 hsz5 hz5 hc5 hgb he5 => ?_
                              · -- nothing to read
                                have h0 : z.toNat = 0 := by omega
                                rw [h0] at hr hk
                                simp only [decN] at hr hk
                                have hk5 : ∀ t ∈ L, σ5 t = σ t := fun t ht => (he5 t (by simp [ht])).trans (hk4 t ht)
                                refine rdLoop_sound hlp (m := 0) (z := z) (by omega) hz3.2 (fun i w' => w' = w3) ((he5 ln (by simp)).trans hln4) rfl (fun i _ _ _ hi => by omega) fun σ6 w6 hw6 he6 => ?_
                                subst hw6
                                have hk6 : ∀ t ∈ L, σ6 t = σ t := fun t ht => (he6 t (by simp [ht])).trans (hk5 t ht)
                                refine movOf_sound hm2 fun σ7 he7 hv7 => ?_
                                have hp7 : σ7 p = .pointer (some ⟨g, o, none⟩) := (((he7 p hL.ptr).trans (hk6 p hL.ptr))).trans hP.ptr
                                refine storeOf_raw hst hp7 hf hb3 (cu := [.slice a0 0 c0]) (by simp only [List.length_cons, List.length_nil]; omega) rfl (by simp [Value.oneCell']) (.inr (by rw [hv7, he6 a (by simp), ha5])) fun σ8 he8 => ?_
                                have hb8 := hb3.setCells [.slice a0 0 c0] (o + off) (by simp only [List.length_cons, List.length_nil]; omega)
                                rw [← spl_one hlt] at hb8
                                have hh : ∀ k, k ≠ g → (w6.setCells g (o + off) [.slice a0 0 c0]).heap[k]? = w6.heap[k]? := fun k hk => setCells_heap g _ _ _ _ hk
                                have hs8 : (w6.setCells g (o + off) [.slice a0 0 c0]).heap.size = w6.heap.size := setCells_size _ _ _ _
                                refine hk σ8 _ (.slice a0 0 c0) [] ⟨l3, false⟩ ⟨rfl, rfl⟩ (hr3.keepG (hh r hrg) fun k hk => hh k (hS k hk).2.2.1) ((hc3.mono fun _ _ h => .inl h).trans' ((setCells_ch g _ _ _).mono fun _ _ h => .inr (.inl h))) hb8
                                  ((hrow3.keep fun k hk => hh k fun e => hgr (e ▸ hk)).cut) ?_ (fun k hk => .inl (rowIs_iff.2 (rowIs_iff.1 hk))) fun t ht => (he8 t ht).trans ((he7 t ht).trans (hk6 t ht))
                                exact hrow3.none_rep fun k hk => .inr (.inl hk)
                              · have hk5 : ∀ t ∈ L, σ5 t = σ t := fun t ht => (he5 t (by simp [ht])).trans (hk4 t ht)
                                have hP5 := hP.keep hL hk5
                                have hs5 := hc5.size
                                have hne : ∀ k, k < w.heap.size → ¬ rowIs (.slice a0 n0 c0) k → k ≠ gb := fun k h1 h2 e => by
                                  subst e
                                  rcases hgb with h | h
                                  · omega
                                  · exact h2 (rowIs_iff.2 h)
                                have hk35 : ∀ k, k < w.heap.size → ¬ rowIs (.slice a0 n0 c0) k → w5.heap[k]? = w3.heap[k]? := fun k h1 h2 => hc5.block k (by omega) fun h => h2 (rowIs_iff.2 h)
                                have hr5 : RdIs w5 S r tR ⟨l3, false⟩ := hr3.keepG (hk35 r hrl hrr) fun k hk => hk35 k (hS k hk).1 (hS k hk).2.2.2
                                have hA5 : ArrSt X S (fun k => k = r ∨ (k < w3.heap.size ∧ ¬ S k)) r tR e gb te5 z.toNat w5 [] ⟨l3, false⟩ ca := by
                                  refine ⟨hr5, hb5, Nat.le_trans (Nat.mul_le_mul_right _ hle5) hsz5, fun j x hx => by simp at hx, fun j _ hj => hz5 j hj, ?_, fun k hk => ?_, fun k hk => ⟨by have := (hS k hk).1; omega, fun hw => ?_⟩, .inl rfl, hne r hrl hrr, by have := hE.1; omega, hE.2.1, hne _ hE.1 hE.2.2.2⟩
                                  · rw [World.cell?_of_block (w := w3) (w' := w5) (a := ⟨X.gE, 0, none⟩) (hk35 _ hE.1 hE.2.2.2)]
                                    exact herr3
                                  · rcases hk with (rfl | hk) | rfl
                                    · omega
                                    · have := hk.1; omega
                                    · exact hb5.lt
                                  · rcases hw with (h | h) | h
                                    · exact (hS k hk).2.1 h
                                    · exact h.2 hk
                                    · exact hne k (hS k hk).1 (hS k hk).2.2.2 h
                                have hc35 : Ch (fun k => k = r ∨ rowIs (.slice a0 n0 c0) k) w w5 := (hc3.mono fun _ _ h => .inl h).trans' (hc5.mono fun _ _ h => .inr (rowIs_iff.2 h))
                                have hup : ∀ i, i < w.heap.size → rg r gb i → i = r ∨ rowIs (.slice a0 n0 c0) i := fun i hi hT => by
                                  rcases hT with rfl | rfl
                                  · exact .inl rfl
                                  · rcases hgb with h | h
                                    · omega
                                    · exact .inr (rowIs_iff.2 h)
                                refine rdAll_sound hlp (fun σ σ' hp he => ?_) (hbd' (fun k => k = r ∨ (k < w3.heap.size ∧ ¬ S k)) gb te5 z.toNat c5) (σ := σ5) (w := w5) ⟨hP5, ha5⟩ rfl hz3.2 ((he5 ln (by simp)).trans hln4) rfl hA5 (fun hn σ' w' hc' hres => ?_) fun σ6 w6 vs s6 ca6 hcl6 hg6 hvl hA6 hc6 he6 => ?_
                                · exact ⟨hp.1.keep hL fun t ht => he t (by simp [ht]), (he a (by simp)).trans hp.2⟩
                                · exact hr hn σ' w' (hc35.trans hc' hup) hres
                                · have hc36 := hc35.trans hc6 hup
                                  have hs6 := hc6.size
                                  have hk6 : ∀ t ∈ L, σ6 t = σ t := fun t ht => (he6 t (by simp [ht])).trans (hk5 t ht)
                                  have hb6 : Blk w6 g tG cells := hb.keep (hc36.block g hgl fun h => by rcases h with h | h; exact hrg h.symm; exact hgr h)
                                  refine movOf_sound hm2 fun σ7 he7 hv7 => ?_
                                  have hp7 : σ7 p = .pointer (some ⟨g, o, none⟩) := (((he7 p hL.ptr).trans (hk6 p hL.ptr))).trans hP.ptr
                                  refine storeOf_raw hst hp7 hf hb6 (cu := [.slice (some ⟨gb, 0, none⟩) z.toNat c5]) (by simp only [List.length_cons, List.length_nil]; omega) rfl (by simp [Value.oneCell']) (.inr (by rw [hv7, he6 a (by simp), ha5])) fun σ8 he8 => ?_
                                  have hb8 := hb6.setCells [.slice (some ⟨gb, 0, none⟩) z.toNat c5] (o + off) (by simp only [List.length_cons, List.length_nil]; omega)
                                  rw [← spl_one hlt] at hb8
                                  have hh : ∀ k, k ≠ g → (w6.setCells g (o + off) [.slice (some ⟨gb, 0, none⟩) z.toNat c5]).heap[k]? = w6.heap[k]? := fun k hk => setCells_heap g _ _ _ _ hk
                                  have hs8 : (w6.setCells g (o + off) [.slice (some ⟨gb, 0, none⟩) z.toNat c5]).heap.size = w6.heap.size := setCells_size _ _ _ _
                                  have hgg : gb ≠ g := fun e => hne g hgl hgr e.symm
                                  refine hk σ8 _ (.slice (some ⟨gb, 0, none⟩) z.toNat c5) vs s6 hg6 (hA6.rd.keepG (hh r hrg) fun k hk => hh k (hS k hk).2.2.1) ((hc36.mono fun _ _ h => by rcases h with h | h; exact .inl h; exact .inr (.inr h)).trans' ((setCells_ch g _ _ _).mono fun _ _ h => .inr (.inl h))) hb8
                                    (.inr ⟨te5, gb, _, _, ca6, rfl, hA6.blk.keep (hh gb hgg), by rw [hcl6]; exact hsz5, hcap5⟩) ?_ (fun k hk => ?_) fun t ht => (he8 t ht).trans ((he7 t ht).trans (hk6 t ht))
                                  · refine ⟨.arr vs, rfl, gb, c5, by rw [hvl], ⟨by omega, hcap5⟩, ?_, fun i v hv => ?_⟩
                                    · rcases hgb with h | h
                                      · exact .inr (.inr ⟨by omega, by have := hb5.lt; omega⟩)
                                      · exact .inr (.inl (rowIs_iff.2 h))
                                    · have hrv := hA6.done i v hv
                                      have hsz := hrv.size
                                      have hng : ∀ k, Ob (Wa (fun k => k = r ∨ (k < w3.heap.size ∧ ¬ S k)) gb) w6 k → k ≠ g := fun k hko e => by
                                        rw [e] at hko
                                        exact hko.2 (.inl (.inr ⟨by omega, fun h => (hS _ h).2.2.1 rfl⟩))
                                      refine ⟨_, hrv.keepMono (fun k hk => hh k (hng k hk)) (fun k hk => ?_), hsz, fun j u hu => ?_⟩
                                      · by_cases hkS : S k
                                        · exact .inl hkS
                                        · refine .inr (.inr ⟨?_, by have := hk.1; omega⟩)
                                          rcases Nat.lt_or_ge k w3.heap.size with h | h
                                          · exact absurd (Or.inl (Or.inr ⟨h, hkS⟩)) hk.2
                                          · omega
                                      · rw [List.getElem?_take] at hu
                                        split at hu
                                        · rw [List.getElem?_drop] at hu
                                          rw [(hA6.blk.keep (hh gb hgg)).cell]
                                          exact hu
                                        · cases hu
                                  · have := rowIs_iff.1 hk
                                    simp only [Option.some.injEq, Addr.mk.injEq, and_true] at this
                                    subst this
                                    rcases hgb with h | h
                                    · exact .inr (by omega)
                                    · exact .inl (rowIs_iff.2 h)
                          · cases h
                        · cases h
                      · cases h
                    · cases h
                  · cases h
                · cases h
              · cases h
            · cases h
          · cases h
        · cases h
      · cases h
    · cases h
  · cases h
theorem rdArrIn_use (n : Nat) (hX : X.Sound) (hL : LIn X fx q p L) {k off : Nat} {nul : Option Int} (hvn : nul = none ∨ 0 ≤ ver) {e : Ty} {body : Nat → Nat → Nat → List Code → Bool} {gd : Dc V} {cs : List Code} (h : rdArr X fx L q p T k nul e body cs = some (cs.drop n)) (hf : T.fld k = some (.arr e, off))
    (hbd : ∀ a ix ln cs, body a ix ln cs = true → ∀ (W : Nat → Prop) (ga : Nat) (te : TypeId) (m c : Nat), EStep X S W r tR e ga te m (ln :: a :: L) ix (InArr X fx ver q p r g o a ga m c) gd cs)
    {σ : Fm} {w : World} {cells : List Value} {cv : Value} {l : List UInt8} {Q : Exit → Fm → World → Prop} (hR : RdIs w S r tR ⟨l, false⟩) (hb : Blk w g tG cells) (hcv : cells[o + off]? = some cv) (hP : RP X fx ver q p r g o σ) (herr : w.cell? ⟨X.gE, 0, none⟩ = some X.eV)
    (hE : X.gE < w.heap.size ∧ X.gE ≠ r ∧ X.gE ≠ g ∧ ¬ rowIs cv X.gE) (hS : ∀ k, S k → k < w.heap.size ∧ k ≠ r ∧ k ≠ g ∧ ¬ rowIs cv k) (hrg : r ≠ g) (hrr : ¬ rowIs cv r) (hgr : ¬ rowIs cv g) (hrow : RowOf w e.size cv) (hone : ∀ u ∈ zeroC e, u.oneCell' = true) (hdz : nul = none ∨ ∃ n, decLen fx l = some n ∧ 0 < n.1)
    (hr : ((decLen fx l).bind fun n => decN gd n.1.toNat n.2) = none → ∀ σ' w', Ch (fun k => k = r ∨ rowIs cv k) w w' → σ' X.res = X.eV → Q .ret σ' w')
    (hk : ∀ σ' w' cv' vs s', GotN ((decLen fx l).bind fun n => decN gd n.1.toNat n.2) vs s' → RdIs w' S r tR s' → Ch (fun k => k = r ∨ k = g ∨ rowIs cv k) w w' → Blk w' g tG (cells.set (o + off) cv') → RowOf w' e.size cv' →
      (∃ v : V, v.elems = vs ∧ Rep w' (fun k => S k ∨ rowIs cv k ∨ (w.heap.size ≤ k ∧ k < w'.heap.size)) (.arr e) v [cv']) → (∀ k, rowIs cv' k → rowIs cv k ∨ w.heap.size ≤ k) → (∀ t ∈ L, σ' t = σ t) → CWL X.P X.n (cs.drop n) σ' w' Q) : CWL X.P X.n cs σ w Q :=
  rdArrIn_sound hX hL hvn h hf hbd hR hb hcv hP herr hE hS hrg hrr hgr hrow hone hdz hr hk
end
end Go.Kx

/- Rules for walks with known tags, where the reference's texts are at hand. -/
namespace Go.Kx
open Go.RowKit
set_option linter.unusedSimpArgs false
set_option linter.unusedVariables false

theorem all_pinE {σ : Fm} {k : Nat} {v : Value} {l : List (Nat × Value)} (h : σ k = v) (ht : ∀ x ∈ l, σ x.1 = x.2) : ∀ x ∈ (k, v) :: l, σ x.1 = x.2 := by
  intro x hx
  rcases List.mem_cons.1 hx with rfl | hx
  · exact h
  · exact ht x hx
end Go.Kx

/- A reading function up to the tags that a message knows: what stands then; the fields of the tags are as Default left them. -/
namespace Go.Kx
open Go.RowKit
set_option linter.unusedSimpArgs false
set_option linter.unusedVariables false

def preW (P : Program) (tab : List (Nat × Rf)) (gE : Nat) (eV : Value) (tR : TypeId) (fn : Func) (T T4 : Ty) (s : Sch) (m : Int) (fx : Bool) : Option (List (Nat × V) × (Nat × Nat × Nat × Nat) × List Code) :=
  match fn.body, resTmp fn with
  | some c, some res => if fits fn.ntmps c && Nat.ble 3 fn.ntmps && noNul s then match flat c with
    | c0 :: c1 :: c2 :: c3 :: c4 :: c5 :: c6 :: c7 :: rest3 =>
      if isIdle [0, 1, 2] c0 then match dfltOf ⟨P, fn.ntmps, tab, gE, eV, res, ⟨0, none, 0⟩, 2⟩ [0, 1, 2] 0 T c1 with
      | some ps => match newRd tR [0, 2] 1 c2 with
        | some q => match loadOf P [0, 2, q] 0 T4 0 (.int .i16) c3 with
          | some ver => if isIdle [0, 2, q, ver] c4 then match flexOf [0, 2, q, ver] ver m c5 with
            | some fl => if isIdle [0, 2, q, ver, fl] c6 then match movOf [0, 2, q, ver, fl] 0 c7 with
                | some p => match rdS ⟨P, fn.ntmps, tab, gE, eV, res, ⟨ver, some fl, ver⟩, 2⟩ fx q s T4 p [p, 0, 2, q, ver, fl] rest3 with
                  | some l => some (ps, (q, ver, fl, p), l)
                  | none => none
                | none => none
              else none
            | none => none
            else none
          | none => none
        | none => none
      | none => none
      else none
    | _ => none
    else none
  | _, _ => none

theorem preW_calls {P : Program} {tab : List (Nat × Rf)} {gE : Nat} {eV : Value} {tR : TypeId} {f : FuncId} {fn : Func} {T T4 : Ty} {s : Sch} {m : Int} {fx : Bool} {ps : List (Nat × V)} {q vr fl p res : Nat} {rest : List Code} (hT : RdT P tR)
    (hX : ∀ f a, rfAt tab f = some a → Callable P f ∧ RfOk P gE eV f a) (hf : P.funcs[f]? = some fn) (hres0 : resTmp fn = some res) (h : preW P tab gE eV tR fn T T4 s m fx = some (ps, (q, vr, fl, p), rest)) {w : World} {S : Nat → Prop} {g : Nat} {tG : TypeId} {v0 : V} {l4 : List V} {cells cr : List Value} {src : Value} {l : List UInt8} {ver : Int} {R : Value → World → Prop}
    (hb : Blk w g tG cells) (hrep : Rep w (fun _ => False) T v0 cells) (hsplit : ∀ w c, Rep w (fun _ => False) T (v0.puts ps) c → ∃ c4, c = c4 ++ cr ∧ Rep w (fun _ => False) T4 (.st l4) c4) (herr : w.cell? ⟨gE, 0, none⟩ = some eV) (hgE : gE < w.heap.size ∧ gE ≠ g) (hsrc : SrcIs w S l src) (hS : ∀ k, S k → k < w.heap.size ∧ k ≠ g)
    (hver : (V.st l4).fld 0 = .i ver) (hfx : fx = decide (ver ≥ m)) (hok : okB ver fx s = true) (hst : startB s (.st l4) = true)
    (hearly : dec ver fx s (.st l4) l = none → ∀ w', Ch (fun k => k = g) w w' → R eV w')
    (hcont : ∀ (r : Nat) σ' w' v' s' c4', St (dec ver fx s (.st l4) l) v' s' → c4'.length = T4.size → Mem ⟨P, fn.ntmps, tab, gE, eV, res, ⟨vr, some fl, vr⟩, 2⟩ S (fun k => k = r ∨ k = g) r tR T4 g 0 tG w' v' s' (c4' ++ cr) → w.heap.size ≤ r → Ch (fun k => k = g) w w' → σ' q = .pointer (some ⟨r, 0, none⟩) → σ' p = .pointer (some ⟨g, 0, none⟩) →
      σ' vr = .int .i16 ver → σ' fl = .bool fx → σ' 2 = .bool false → CWL P fn.ntmps rest σ' w' (Ends fn R)) :
    Calls P f #[.pointer (some ⟨g, 0, none⟩), src, .bool false] w fun en w' => ∃ x, en = .returned x ∧ R x w' := by
  unfold preW at h
  split at h
  · rename_i c res' hbody hres
    obtain rfl : res = res' := Option.some.inj (hres0.symm.trans hres)
    split at h
    · rename_i hfit
      simp only [Bool.and_eq_true] at hfit
      refine Calls.of_CW hf hbody hfit.1.1 (by simpa using hfit.1.2) (CW.of_flat ?_)
      split at h
      · rename_i c0 c1 c2 c3 c4 c5 c6 c7 rest3 hflat
        rw [hflat]
        split at h
        · rename_i h0
          refine CWL.idle h0 fun σ0 he0 => ?_
          have hp0 : σ0 0 = .pointer (some ⟨g, 0, none⟩) := (he0 0 (by simp)).trans rfl
          have hs0 : σ0 1 = src := (he0 1 (by simp)).trans rfl
          have hu0 : σ0 2 = .bool false := (he0 2 (by simp)).trans rfl
          split at h
          · rename_i ps' hdf
            split at h
            · rename_i q' hnr
              split at h
              · rename_i vr' hld
                have hpsE0 : ps = ps' := by
                  revert h
                  repeat' split
                  all_goals intro h
                  all_goals first | (cases h; done) | (simp only [Option.some.injEq, Prod.mk.injEq] at h; exact h.1.symm)
                rw [hpsE0] at hsplit
                -- the function that lays the defaults
                have hD : ∀ {Q : Exit → Fm → World → Prop} {rest : List Code}, (∀ σ' w' c', Blk w' g tG c' → Rep w' (fun _ => False) T (v0.puts ps') c' → Ch (fun k => k = g) w w' → (∀ t ∈ [0, 1, 2], σ' t = σ0 t) → CWL P fn.ntmps rest σ' w' Q) →
                    CWL P fn.ntmps (c1 :: rest) σ0 w Q := by
                  intro Q rest hk
                  unfold dfltOf at hdf
                  split at hdf
                  · rename_i op ty b hc
                    split at hdf
                    · rename_i f' u2 hop
                      split at hdf
                      · rename_i T' ps2 htab
                        split at hdf
                        · rename_i hh
                          simp only [Option.some.injEq] at hdf
                          subst hdf
                          simp only [Bool.and_eq_true, beq_iff_eq, decide_eq_true_eq] at hh
                          obtain ⟨⟨rfl, rfl⟩, hfree⟩ := hh
                          obtain ⟨hcall, hrf⟩ := hX f' _ htab
                          refine CWL.reg hc (OpK.asCall hop hcall rfl ?_)
                          simp only [List.map_cons, List.map_nil, ev_tmp, enF_two, hp0]
                          have hcs := hrep.size
                          refine (hrf w (fun _ => False) g 0 tG cells v0 hb (by rw [List.drop_zero, List.take_of_length_le (by omega)]; exact hrep) (by omega) (fun h => h)).mono fun en w' ⟨he, c', hb', hr', hc'⟩ => ⟨_, he, ?_⟩
                          have hcl' := hr'.size
                          rw [show spl cells 0 c' = c' by unfold spl; rw [List.take_zero, List.nil_append, List.drop_of_length_le (by omega), List.append_nil]] at hb'
                          refine hk _ w' c' hb' hr' hc' fun t ht => ?_
                          rw [outF_free hfree ht, upd_odd _ _ _ _ (by omega), enF_two]
                        · cases hdf
                      · cases hdf
                    · cases hdf
                  · cases hdf
                refine hD fun σ1 w1 c' hb1 hr1 hc1 he1 => ?_
                obtain ⟨c4, rfl, hr4⟩ := hsplit w1 c' hr1
                have hsrc1 : SrcIs w1 S l src := hsrc.keep fun k hk => hc1.block k (hS k hk).1 (hS k hk).2
                obtain ⟨a, cc, hsl, _⟩ := hsrc1.form
                subst hsl
                refine newRd_sound hT hnr ((he1 1 (by simp)).trans hs0) fun σ2 he2 hq2 => ?_
                generalize hw2 : w1.alloc (.cells [Value.slice a l.length cc, .bool false].toArray tR) = w2
                have hc2 : Ch (fun _ => False) w1 w2 := hw2 ▸ Ch.alloc _ w1 _
                have hsz2 : w2.heap.size = w1.heap.size + 1 := by rw [← hw2]; simp
                have hbR : Blk w2 w1.heap.size tR [.slice a l.length cc, .bool false] := hw2 ▸ Blk.new w1 tR _
                have hgs : g < w1.heap.size := hb1.lt
                have hcl := hr4.size
                have hM : ∀ X : Cx, X.gE = gE → X.eV = eV → Mem X S (fun k => k = w1.heap.size ∨ k = g) w1.heap.size tR T4 g 0 tG w2 (.st l4) ⟨l, false⟩ (c4 ++ cr) := by
                  intro X hE hV
                  have htk : (((c4 ++ cr).drop 0).take T4.size) = c4 := by rw [List.drop_zero, List.take_append_of_le_length (by omega), List.take_of_length_le (by omega)]
                  refine ⟨⟨_, hbR, hsrc1.keep fun k hk => hc2.block k (Nat.lt_of_lt_of_le (hS k hk).1 hc1.size) fun h => h, fun h => ?_⟩, hb1.keep (hc2.block g hgs fun h => h), ?_, by rw [List.length_append]; omega, ?_, fun k hk => ?_, fun k hk => ⟨?_, fun hw => ?_⟩, .inl rfl, .inr rfl, by omega, ?_, ?_, ?_⟩
                  · have := (hS _ h).1; have := hc1.size; omega
                  · rw [htk]
                    exact hr4.keepMono (fun k hk => hk.elim) fun k hk => hk.elim
                  · rw [hE, hV]
                    rw [ch_cell hc2 (a := ⟨gE, 0, none⟩) (Nat.lt_of_lt_of_le hgE.1 hc1.size) (fun h => h) rfl, ch_cell hc1 (a := ⟨gE, 0, none⟩) hgE.1 hgE.2 rfl]
                    exact herr
                  · rcases hk with rfl | rfl <;> omega
                  · have := (hS k hk).1; have := hc1.size; omega
                  · rcases hw with rfl | rfl
                    · have := (hS _ hk).1; have := hc1.size; omega
                    · exact (hS _ hk).2 rfl
                  · rw [hE]; have := hc1.size; omega
                  · rw [hE]; have := hc1.size; omega
                  · rw [hE]; exact hgE.2
                have hp2 : σ2 0 = .pointer (some ⟨g, 0, none⟩) := (he2 0 (by simp)).trans ((he1 0 (by simp)).trans hp0)
                have hu2 : σ2 2 = .bool false := (he2 2 (by simp)).trans ((he1 2 (by simp)).trans hu0)
                have hMX := hM ⟨P, fn.ntmps, tab, gE, eV, res, ⟨0, none, 0⟩, 2⟩ rfl rfl
                have early : dec ver fx s (.st l4) l = none → ∀ σ' w', Ch (rg w1.heap.size g) w2 w' → σ' res = eV → Ends fn R .ret σ' w' := by
                  intro hd σ' w' hc' hσ'
                  simp only [Ends]
                  unfold resTmp at hres
                  split at hres
                  · rename_i t ht
                    simp only [Option.some.injEq] at hres
                    subst hres
                    refine ⟨_, by simp only [resOf, ht]; rfl, ?_⟩
                    rw [hσ']
                    refine hearly hd w' ?_
                    refine hc1.trans' ((hc2.mono fun _ _ h => h.elim : Ch (fun k => k = g) w1 w2).trans hc' fun i hi hT' => ?_)
                    rcases hT' with rfl | rfl
                    · omega
                    · rfl
                  · cases hres
                refine loadOf_sound hld hp2 hMX.is fun σ3 he3 ⟨cs3, hr3, hv3⟩ => ?_
                rw [hver] at hr3
                obtain ⟨rfl, _⟩ : cs3 = [.int .i16 ver] ∧ _ := hr3
                have hv3' : σ3 vr' = .int .i16 ver := hv3
                split at h
                · rename_i h4
                  refine CWL.idle h4 fun σ4 he4 => ?_
                  have hk4 : ∀ t ∈ [0, 2, q'], σ4 t = σ2 t := fun t ht => (he4 t (by simp at ht ⊢; rcases ht with h | h | h <;> simp [h])).trans (he3 t ht)
                  have hv4 : σ4 vr' = .int .i16 ver := (he4 vr' (by simp)).trans hv3'
                  have hq4 : σ4 q' = .pointer (some ⟨w1.heap.size, 0, none⟩) := (hk4 q' (by simp)).trans hq2
                  have hp4 : σ4 0 = .pointer (some ⟨g, 0, none⟩) := (hk4 0 (by simp)).trans hp2
                  have hu4 : σ4 2 = .bool false := (hk4 2 (by simp)).trans hu2
                  split at h
                  · rename_i fl' hfl
                    split at h
                    · rename_i h6
                      split at h
                      · rename_i p' hmv
                        split at h
                        · rename_i lst hrd
                          simp only [Option.some.injEq, Prod.mk.injEq] at h
                          obtain ⟨_, ⟨rfl, rfl, rfl, rfl⟩, rfl⟩ := h
                          refine flexOf_sound hfl hv4 fun σ5 he5 hf5 => ?_
                          refine CWL.idle h6 fun σ6 he6 => ?_
                          refine movOf_sound hmv fun σ7 he7 hp7 => ?_
                          have hk7 : ∀ t ∈ [0, 2, q', vr'], σ7 t = σ4 t := fun t ht => (he7 t (by simp at ht ⊢; rcases ht with h | h | h | h <;> simp [h])).trans ((he6 t (by simp at ht ⊢; rcases ht with h | h | h | h <;> simp [h])).trans (he5 t ht))
                          have hf7 : σ7 fl' = .bool fx := by rw [hfx, (he7 fl' (by simp)).trans (he6 fl' (by simp)), hf5]
                          have hp7' : σ7 p' = .pointer (some ⟨g, 0, none⟩) := hp7.trans (((he6 0 (by simp)).trans (he5 0 (by simp))).trans hp4)
                          have hXs : (⟨P, fn.ntmps, tab, gE, eV, res, ⟨vr', some fl', vr'⟩, 2⟩ : Cx).Sound := ⟨hX⟩
                          have hL : LIn ⟨P, fn.ntmps, tab, gE, eV, res, ⟨vr', some fl', vr'⟩, 2⟩ fx q' p' [p', 0, 2, q', vr', fl'] := ⟨by simp, fun x hx => by simp [Cx.kn] at hx; rcases hx with rfl | rfl <;> simp, by simp, by simp⟩
                          have hstep := rdS_step0 (X := ⟨P, fn.ntmps, tab, gE, eV, res, ⟨vr', some fl', vr'⟩, 2⟩) (S := S) (r := w1.heap.size) (tR := tR) (ver := ver) hXs s (.inl hfit.2) (W := fun k => k = w1.heap.size ∨ k = g) (g := g) (o := 0) (tG := tG) hrd hL hok
                          refine hstep σ7 w2 (some (.st l4, l)) (.st l4) ⟨l, false⟩ (c4 ++ cr) _ ⟨(hk7 vr' (by simp)).trans hv4, fun s b hm => ?_, (hk7 q' (by simp)).trans hq4, hp7'⟩ (fun x hx => by cases hx; exact hst) ⟨rfl, rfl⟩ (hM _ rfl rfl) (fun hn σ' w' hc' => early hn σ' w' hc') fun σ8 w8 v8 s8 cells8 hS8 hM8 hc8 ho8 he8 => ?_
                          · simp [Cx.kn] at hm
                            rcases hm with ⟨rfl, rfl⟩ | ⟨rfl, rfl⟩
                            · exact (hk7 2 (by simp)).trans hu4
                            · exact hf7
                          · obtain ⟨c4', hc4, hl4, _⟩ := from_outside ho8 rfl (by omega : c4.length = T4.size)
                            subst hc4
                            refine hcont w1.heap.size σ8 w8 v8 s8 c4' hS8 hl4 hM8 hc1.size ?_ ((he8 q' (by simp)).trans ((hk7 q' (by simp)).trans hq4)) ((he8 p' (by simp)).trans hp7') ((he8 vr' (by simp)).trans ((hk7 vr' (by simp)).trans hv4)) ((he8 fl' (by simp)).trans hf7) ((he8 2 (by simp)).trans ((hk7 2 (by simp)).trans hu4))
                            refine hc1.trans' ((hc2.mono fun _ _ h => h.elim : Ch (fun k => k = g) w1 w2).trans hc8 fun i hi hT' => ?_)
                            rcases hT' with rfl | rfl
                            · omega
                            · rfl
                        · cases h
                      · cases h
                    · cases h
                  · cases h
                · cases h
              · cases h
            · cases h
          · cases h
        · cases h
      · cases h
    · cases h
  · cases h
theorem preW_use {P : Program} {tab : List (Nat × Rf)} {gE : Nat} {eV : Value} {tR : TypeId} {f : FuncId} {fn : Func} {T T4 : Ty} {s : Sch} {m : Int} {fx : Bool} {ps : List (Nat × V)} {q vr fl p res : Nat} {c : Code} (hbody : fn.body = some c) (n : Nat) (hT : RdT P tR)
    (hX : ∀ f a, rfAt tab f = some a → Callable P f ∧ RfOk P gE eV f a) (hf : P.funcs[f]? = some fn) (hres0 : resTmp fn = some res) (h : preW P tab gE eV tR fn T T4 s m fx = some (ps, (q, vr, fl, p), (flat c).drop n)) {w : World} {S : Nat → Prop} {g : Nat} {tG : TypeId} {v0 : V} {l4 : List V} {cells cr : List Value} {src : Value} {l : List UInt8} {ver : Int} {R : Value → World → Prop}
    (hb : Blk w g tG cells) (hrep : Rep w (fun _ => False) T v0 cells) (hsplit : ∀ w c, Rep w (fun _ => False) T (v0.puts ps) c → ∃ c4, c = c4 ++ cr ∧ Rep w (fun _ => False) T4 (.st l4) c4) (herr : w.cell? ⟨gE, 0, none⟩ = some eV) (hgE : gE < w.heap.size ∧ gE ≠ g) (hsrc : SrcIs w S l src) (hS : ∀ k, S k → k < w.heap.size ∧ k ≠ g)
    (hver : (V.st l4).fld 0 = .i ver) (hfx : fx = decide (ver ≥ m)) (hok : okB ver fx s = true) (hst : startB s (.st l4) = true)
    (hearly : dec ver fx s (.st l4) l = none → ∀ w', Ch (fun k => k = g) w w' → R eV w')
    (hcont : ∀ (r : Nat) σ' w' v' s' c4', St (dec ver fx s (.st l4) l) v' s' → c4'.length = T4.size → Mem ⟨P, fn.ntmps, tab, gE, eV, res, ⟨vr, some fl, vr⟩, 2⟩ S (fun k => k = r ∨ k = g) r tR T4 g 0 tG w' v' s' (c4' ++ cr) → w.heap.size ≤ r → Ch (fun k => k = g) w w' → σ' q = .pointer (some ⟨r, 0, none⟩) → σ' p = .pointer (some ⟨g, 0, none⟩) →
      σ' vr = .int .i16 ver → σ' fl = .bool fx → σ' 2 = .bool false → CWL P fn.ntmps ((flat c).drop n) σ' w' (Ends fn R)) :
    Calls P f #[.pointer (some ⟨g, 0, none⟩), src, .bool false] w fun en w' => ∃ x, en = .returned x ∧ R x w' :=
  preW_calls hT hX hf hres0 h hb hrep hsplit herr hgE hsrc hS hver hfx hok hst hearly hcont
end Go.Kx
