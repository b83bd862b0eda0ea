/- The things of a list; all fields of a part; a whole function that reads a message. -/
import Derived.Test.YtlmelgjepdbakaaDoorRKxRx7
namespace Go.Kx
open Go.RowKit
set_option linter.unusedSimpArgs false
set_option linter.unusedVariables false

theorem GotN.step {oi : Option (List V × List UInt8)} {vs : List V} {s s' : Rs} {f : Dc V} {x : V} (h : GotN oi vs s) (hg : Got s.o f x s') : GotN (oi.bind fun y => (f y.2).map fun z => (y.1 ++ [z.1], z.2)) (vs ++ [x]) s' := by
  cases oi with
  | none =>
    have : s.o = none := by unfold Rs.o; rw [show s.bad = true from h]; rfl
    rw [Got, this] at hg
    exact hg
  | some y =>
    obtain ⟨rfl, rfl⟩ := h
    have : (⟨y.2, false⟩ : Rs).o = some y.2 := rfl
    rw [Got, this] at hg
    simp only [Option.bind_some] at hg ⊢
    cases hd : f y.2 with
    | none => rw [hd] at hg; exact hg
    | some z => rw [hd] at hg; exact ⟨by rw [hg.1], hg.2⟩

/-- 'a[i] = v' -/
def idxStore (P : Program) (L : List Nat) (a ix v : Nat) (T : Ty) (c : Code) : Bool :=
  match canR c with
  | some ⟨[(.indexAddr t (.tmp a2) (.tmp i2), _), (.store st (.tmp 1) (.tmp v2), _)], b⟩ => a2 == 2 * a && i2 == 2 * ix && v2 == 2 * v && elemSize P t == some T.size && (P.info? st).map (·.size) == some T.size && free L b
  | _ => false
/-- 'v := &a[i]' -/
def idxAddr (P : Program) (L : List Nat) (a ix sz : Nat) (c : Code) : Option Nat :=
  match canR c with
  | some ⟨[(.indexAddr t (.tmp v2) (.tmp i2), _)], (u, 1) :: b⟩ => if v2 == 2 * a && i2 == 2 * ix && elemSize P t == some sz && free L ((u, 1) :: b) then some u else none
  | _ => none
/-- 'v.Default()' -/
def dfltOf (X : Cx) (L : List Nat) (u : Nat) (T : Ty) (c : Code) : Option (List (Nat × V)) :=
  match canR c with
  | some ⟨[(op, _)], b⟩ => match asCall op with
    | some (f, [.tmp u2]) => match rfAt X.tab f with
      | some (.dflt T' ps) => if u2 == 2 * u && decide (T' = T) && free L b then some ps else none
      | _ => none
    | _ => none
  | _ => none

section
variable {X : Cx} {n : Nat} {L : List Nat} {σ : Fm} {w : World} {Q : Exit → Fm → World → Prop} {rest : List Code} {c : Code}

theorem idxStore_sound {a ix v : Nat} {T : Ty} (h : idxStore X.P L a ix v T c = true) {ga m cc j : Nat} {te : TypeId} {ca : List Value} {cu : List Value} (ha : σ a = .slice (some ⟨ga, 0, none⟩) m cc) (hi : σ ix = .int .i32 (j : Int)) (hj : j < m)
    (hb : Blk w ga te ca) (hl : j * T.size + T.size ≤ ca.length) (hcu : cu.length = T.size) (h1 : ∀ u ∈ cu, u.oneCell' = true) (hv : Sv cu (σ v))
    (hk : ∀ σ', (∀ t ∈ L, σ' t = σ t) → CWL X.P X.n rest σ' (w.setCells ga (j * T.size) cu) Q) : CWL X.P X.n (c :: rest) σ w Q := by
  unfold idxStore at h
  split at h
  · rename_i t a2 i2 ty1 st v2 ty2 b hc
    simp only [Bool.and_eq_true, beq_iff_eq] at h
    obtain ⟨⟨⟨⟨⟨rfl, rfl⟩, rfl⟩, hs⟩, hst⟩, hfree⟩ := h
    refine CWL.reg hc (OpK.indexAddr hs (k := .i32) (j := j) (by simp only [ev_tmp, enF_two]; exact ha) (by simp only [ev_tmp, enF_two]; exact hi) hj ?_)
    refine OpK.storeV (c := cu) (v := σ v) (g := ga) (o := j * T.size) (tG := te) (cells := ca) (by rw [hst, hcu]) (by simp [upd, add_at]) (by simp only [ev_tmp]; rw [upd_odd _ _ _ _ (by omega), enF_two]) hv h1 hb (by omega) ?_
    simp only [RC]
    refine hk _ fun t ht => ?_
    rw [outF_free hfree ht, upd_odd _ _ _ _ (by omega), upd_odd _ _ _ _ (by omega), enF_two]
  · cases h
theorem idxAddr_sound {a ix u sz : Nat} (h : idxAddr X.P L a ix sz c = some u) {ga m cc j : Nat} (ha : σ a = .slice (some ⟨ga, 0, none⟩) m cc) (hi : σ ix = .int .i32 (j : Int)) (hj : j < m)
    (hk : ∀ σ', (∀ t ∈ L, σ' t = σ t) → σ' u = .pointer (some ⟨ga, j * sz, none⟩) → CWL X.P X.n rest σ' w Q) : CWL X.P X.n (c :: rest) σ w Q := by
  unfold idxAddr at h
  split at h
  · rename_i t v2 i2 ty1 u' b hc
    split at h
    · rename_i hh
      simp only [Option.some.injEq] at h
      subst h
      simp only [Bool.and_eq_true, beq_iff_eq] at hh
      obtain ⟨⟨⟨rfl, rfl⟩, hs⟩, hfree⟩ := hh
      refine CWL.reg hc (OpK.indexAddr hs (k := .i32) (j := j) (by simp only [ev_tmp, enF_two]; exact ha) (by simp only [ev_tmp, enF_two]; exact hi) hj ?_)
      simp only [RC]
      refine hk _ (fun t ht => ?_) (by rw [outF_head]; simp [upd, add_at])
      rw [outF_free hfree ht, upd_odd _ _ _ _ (by omega), enF_two]
    · cases h
  · cases h
theorem dfltOf_sound (hX : X.Sound) {u : Nat} {T : Ty} {ps : List (Nat × V)} (h : dfltOf X L u T c = some ps) {S W : Nat → Prop} {r : Nat} {tR : TypeId} {g o : Nat} {tG : TypeId} {v : V} {s : Rs} {cells : List Value}
    (hu : σ u = .pointer (some ⟨g, o, none⟩)) (hM : Mem X S W r tR T g o tG w v s cells)
    (hk : ∀ σ' w' cells', Mem X S W r tR T g o tG w' (v.puts ps) s cells' → Outside cells cells' o T.size → Ch (fun k => k = g) w w' → (∀ t ∈ L, σ' t = σ t) → CWL X.P X.n rest σ' w' Q) : CWL X.P X.n (c :: rest) σ w Q := by
  unfold dfltOf at h
  split at h
  · rename_i op ty b hc
    split at h
    · rename_i f u2 hop
      split at h
      · rename_i T' ps' htab
        split at h
        · rename_i hh
          simp only [Option.some.injEq] at h
          subst h
          simp only [Bool.and_eq_true, beq_iff_eq, decide_eq_true_eq] at hh
          obtain ⟨⟨rfl, rfl⟩, hfree⟩ := hh
          obtain ⟨hcall, hrf⟩ := hX.ok f _ htab
          have := hrf w (Ob W w) g o tG cells v hM.blk hM.rep hM.len (fun h => h.2 hM.wg)
          refine CWL.reg hc (OpK.asCall hop hcall rfl ?_)
          simp only [List.map_cons, List.map_nil, ev_tmp, enF_two, hu]
          refine this.mono fun en w' ⟨he, c', hb', hr', hc'⟩ => ⟨_, he, ?_⟩
          obtain ⟨hM', hO⟩ := hM.turn hb' hr' hc'
          refine hk _ w' _ hM' hO hc' fun t ht => ?_
          rw [outF_free hfree ht, upd_odd _ _ _ _ (by omega), enF_two]
        · cases h
      · cases h
    · cases h
  · cases h
end

/-- A list of values. -/
def elV (X : Cx) (fx : Bool) (L : List Nat) (q : Nat) (w : Wt) (a ix ln : Nat) (cs : List Code) : Bool :=
  match reach (X.kn fx) (ix :: ln :: a :: L) q 8 cs with
  | some (f, d, cs1) => match rfAt X.tab f with
    | some (.val fx' w') => valMatch fx w fx' w' && match movs (ix :: ln :: a :: L) 4 d cs1 with
        | (d', [c]) => idxStore X.P (ix :: ln :: a :: L) a ix d' w.ty c
        | _ => false
    | _ => false
  | none => false

theorem ArrSt.call {X : Cx} {S W : Nat → Prop} {r : Nat} {tR : TypeId} {T : Ty} {ga : Nat} {te : TypeId} {m : Nat} {w w' : World} {vs : List V} {s s' : Rs} {ca : List Value} (h : ArrSt X S W r tR T ga te m w vs s ca) (hr : RdIs w' S r tR s') (hc : Ch (fun k => k = r) w w') : ArrSt X S W r tR T ga te m w' vs s' ca :=
  ⟨hr, h.blk.keep (hc.block ga h.blk.lt fun e => h.ne e.symm), h.len, fun j x hx => (h.done j x hx).keepMono (fun k hk => hc.block k hk.1 fun e => hk.2 (.inl (e ▸ h.wr))) (Ob.up hc.size), h.todo,
    (ch_cell hc (a := ⟨X.gE, 0, none⟩) h.eW.1 (fun e => h.eW.2.1 e) rfl).trans h.err, fun k hk => Nat.lt_of_lt_of_le (h.bound k hk) hc.size, fun k hk => ⟨Nat.lt_of_lt_of_le (h.src k hk).1 hc.size, (h.src k hk).2⟩, h.wr, h.ne, Nat.lt_of_lt_of_le h.eW.1 hc.size, h.eW.2⟩

theorem Wt.wf (w : Wt) : wfT w.ty = true := by cases w <;> rfl

section
variable {X : Cx} {S : Nat → Prop} {r : Nat} {tR : TypeId} {L : List Nat} {fx : Bool} {ver : Int} {q p g o : Nat}

theorem elV_step (hX : X.Sound) (hL : LIn X fx q p L) {w : Wt} {a ix ln : Nat} {cs : List Code} (h : elV X fx L q w a ix ln cs = true) (W : Nat → Prop) (ga : Nat) (te : TypeId) (m c : Nat) :
    EStep X S W r tR w.ty ga te m (ln :: a :: L) ix (InArr X fx ver q p r g o a ga m c) (decW fx w) cs := by
  intro σ w1 oi vs s ca Q ⟨hP, ha⟩ hlt hix hg hA hr hk
  unfold elV at h
  split at h
  · rename_i f d cs1 hre
    split at h
    · rename_i fx' w' hf
      simp only [Bool.and_eq_true] at h
      obtain ⟨hm, h⟩ := h
      split at h
      · rename_i d' c1 hmv
        obtain ⟨hcall, hok⟩ := hX.ok f _ hf
        obtain ⟨hty, hdec⟩ := valMatch_spec hm
        have hc := hok w1 S r tR s (fun k hk => (hA.src k hk).1) hA.rd
        rw [← hP.rdr] at hc
        refine reach_sound (L := ix :: ln :: a :: L) (R := fun x w2 => ∃ u cu s', x = ldv w'.ty cu ∧ RdIs w2 S r tR s' ∧ Ch (fun k => k = r) w1 w2 ∧ Rep w2 (NewB S w1 w2) w'.ty u cu ∧ Got s.o (decW fx' w') u s') (fun x hx => by simp [hL.kn x hx]) (by simp [hL.rdr]) hcall 8 hre hP.kn
          (hc.mono fun en w2 ⟨u, cu, s', he, h1, h2, h3, h4⟩ => ⟨_, he, u, cu, s', rfl, h1, h2, h3, h4⟩) fun σ1 w2 x ⟨u, cu, s', hx, h1, h2, h3, h4⟩ hd1 he1 => ?_
        rw [hty] at hx h3
        rw [hdec] at h4
        refine movs_sound 4 hmv fun σ2 he2 hd2 => ?_
        have hA2 := hA.call h1 h2
        have hM2 := hA2.mem w.wf hlt
        have hu : Rep w2 (Ob (Wa W ga) w2) w.ty u cu := h3.mono fun k hk => by
          rcases hk with hk | ⟨g1, g2⟩
          · exact ⟨(hA2.src k hk).1, (hA2.src k hk).2⟩
          · exact ⟨g2, fun hw => by have := hA.bound k hw; omega⟩
        have hsz := hu.size
        have hk2 : ∀ t ∈ ix :: ln :: a :: L, σ2 t = σ t := fun t ht => (he2 t ht).trans (he1 t ht)
        have hlen := mul_lt_le (n := w.ty.size) hlt
        refine idxStore_sound h (j := vs.length) (cu := cu) ((hk2 a (by simp)).trans ha) ((hk2 ix (by simp)).trans hix) hlt hA2.blk (Nat.le_trans hlen hA2.len) hsz (rep_one hu) ?_ fun σ3 he3 => ?_
        · rw [hd2, hd1, hx]
          exact ldv_sv hu w.ty_ne.1 w.ty_ne.2
        · have hz := hM2.rep.size
          have hw := hM2.write (c := cu) (p := 0) (v' := u) (by omega) (by
            have e : spl ((ca.drop (vs.length * w.ty.size)).take w.ty.size) 0 cu = cu := by
              simp only [spl, List.take_zero, List.nil_append, Nat.zero_add]
              rw [List.drop_of_length_le (by omega), List.append_nil]
            rw [e]
            exact hu)
          have ho := Outside.spl (cs := ca) (c := cu) (o := vs.length * w.ty.size) (n := w.ty.size) (p := 0) (by omega) hM2.len
          rw [Nat.add_zero] at hw ho
          have hch : Ch (rg r ga) w1 (w2.setCells ga (vs.length * w.ty.size) cu) := (h2.mono fun _ _ h => .inl h).trans' ((setCells_ch ga cu _ w2).mono fun _ _ h => .inr h)
          exact hk σ3 _ u s' _ (hg.step h4) (hA.next hw ho hch) hch fun t ht => (he3 t ht).trans (hk2 t ht)
      · cases h
    · cases h
  · cases h
end

/-- A list of parts. -/
def elS (X : Cx) (L : List Nat) (e : Ty) (d : V) (s : Sch) (rec : Ty → Nat → List Nat → List Code → Option (List Code)) (a ix ln : Nat) (cs : List Code) : Bool :=
  match cs with
  | c1 :: c2 :: c3 :: cs3 => match idxAddr X.P (ix :: ln :: a :: L) a ix e.size c1 with
    | some u => match dfltOf X (u :: ix :: ln :: a :: L) u e c2 with
      | some ps => match movOf (u :: ix :: ln :: a :: L) u c3 with
        | some p' => veq ((zeroV e).puts ps) d && startB s d && wfT e && match rec e p' (p' :: ix :: ln :: a :: L) cs3 with
          | some [] => true
          | _ => false
        | none => false
      | none => false
    | none => false
  | _ => false

section
variable {X : Cx} {S : Nat → Prop} {r : Nat} {tR : TypeId} {L : List Nat} {fx : Bool} {ver : Int} {q p g o : Nat}

theorem elS_step (hX : X.Sound) (hL : LIn X fx q p L) {e : Ty} {d : V} {s : Sch} {rec : Ty → Nat → List Nat → List Code → Option (List Code)} {a ix ln : Nat} {cs : List Code} (h : elS X L e d s rec a ix ln cs = true) (W : Nat → Prop) (ga : Nat) (te : TypeId) (m c : Nat)
    (hrec : ∀ {p' : Nat} {L' : List Nat} {cs' : List Code} {g' o' : Nat} {W' : Nat → Prop} {tG : TypeId}, rec e p' L' cs' = some [] → LIn X fx q p' L' → RStep X S W' r tR e g' o' tG L' (RP X fx ver q p' r g' o') (fun v => startB s v = true) (fun v l => dec ver fx s v l) cs' []) :
    EStep X S W r tR e ga te m (ln :: a :: L) ix (InArr X fx ver q p r g o a ga m c) (dec ver fx s d) cs := by
  intro σ w1 oi vs st ca Q ⟨hP, ha⟩ hlt hix hg hA hr hk
  unfold elS at h
  split at h
  · rename_i c1 c2 c3 cs3
    split at h
    · rename_i u h1
      split at h
      · rename_i ps h2
        split at h
        · rename_i p' h3
          simp only [Bool.and_eq_true] at h
          obtain ⟨⟨⟨hveq, hstart⟩, hwf⟩, h⟩ := h
          have hd := veq_eq _ _ hveq
          split at h
          · rename_i hrc
            refine idxAddr_sound h1 (j := vs.length) ha hix hlt fun σ1 he1 hu1 => ?_
            refine dfltOf_sound hX h2 hu1 (hA.mem hwf hlt) fun σ2 w2 ca2 hM2 ho2 hc2 he2 => ?_
            rw [hd] at hM2
            refine movOf_sound h3 fun σ3 he3 hp3 => ?_
            have hk3 : ∀ t ∈ ix :: ln :: a :: L, σ3 t = σ t := fun t ht => (he3 t (List.mem_cons_of_mem _ ht)).trans ((he2 t (List.mem_cons_of_mem _ ht)).trans (he1 t ht))
            have hp3' : σ3 p' = .pointer (some ⟨ga, vs.length * e.size, none⟩) := hp3.trans ((he2 u (by simp)).trans hu1)
            have hP3 : RP X fx ver q p' r ga (vs.length * e.size) σ3 := by
              have := hP.keep (hL.more (L' := ix :: ln :: a :: L) fun t ht => by simp [ht]) hk3
              exact ⟨this.ver, this.kn, this.rdr, hp3'⟩
            have hL' : LIn X fx q p' (p' :: ix :: ln :: a :: L) := (hL.more (L' := p' :: ix :: ln :: a :: L) fun t ht => by simp [ht]).to (by simp)
            have hstep := hrec (W' := Wa W ga) (g' := ga) (o' := vs.length * e.size) (tG := te) hrc hL'
            have e1 : ((oi.map fun y => (d, y.2)).bind fun x => dec ver fx s x.1 x.2) = oi.bind fun y => dec ver fx s d y.2 := by cases oi <;> rfl
            refine hstep σ3 w2 (oi.map fun y => (d, y.2)) d st ca2 _ hP3 (fun x hx => ?_) ?_ hM2 (fun hn σ' w' hc hres => ?_) fun σ' w' v' s' ca' hS' hM' hc' ho' hk' => ?_
            · obtain ⟨y, _, rfl⟩ := Option.map_eq_some_iff.1 hx
              exact hstart
            · cases oi with
              | none => exact hg
              | some y => exact ⟨rfl, hg.2⟩
            · rw [e1] at hn
              refine hr ?_ σ' w' ((hc2.mono fun _ _ h => .inr h).trans' hc) hres
              cases oi with
              | none => rfl
              | some y => simp only [Option.bind_some] at hn ⊢; rw [hn]; rfl
            · rw [e1] at hS'
              have hch : Ch (rg r ga) w1 w' := (hc2.mono fun _ _ h => .inr h).trans' hc'
              refine hk σ' w' v' s' ca' ?_ (hA.next hM' (ho2.trans ho') hch) hch fun t ht => (hk' t (List.mem_cons_of_mem _ ht)).trans (hk3 t ht)
              cases oi with
              | none => exact hS'
              | some y =>
                simp only [Option.bind_some] at hS' ⊢
                cases hdd : dec ver fx s d y.2 with
                | none => rw [hdd] at hS'; exact hS'
                | some z =>
                  rw [hdd] at hS'
                  obtain ⟨rfl, rfl⟩ := hS'
                  exact ⟨by rw [hg.1], rfl⟩
          · cases h
        · cases h
      · cases h
    · cases h
  · cases h
end

/-- All fields of a part. -/
def rdS (X : Cx) (fx : Bool) (q : Nat) : Sch → Ty → Nat → List Nat → List Code → Option (List Code)
  | .nil, _, _, _, cs => some cs
  | .val c k w r, T, p, L, cs => match rdVc X L c (fun cs => if w = .uuid then rdUuid X L q p T k cs else rdVal X fx L q p T k w cs) cs with
    | some cs' => rdS X fx q r T p L cs'
    | none => none
  | .arrV c k nul w r, T, p, L, cs => match rdVc X L c (rdArr X fx L q p T k nul w.ty (elV X fx L q w)) cs with
    | some cs' => rdS X fx q r T p L cs'
    | none => none
  | .arrS c k nul d s r, T, p, L, cs => match T.fld k with
    | some (.arr e, _) => match rdVc X L c (rdArr X fx L q p T k nul e (elS X L e d s fun T' p' L' cs' => rdS X fx q s T' p' L' cs')) cs with
      | some cs' => rdS X fx q r T p L cs'
      | none => none
    | _ => none
  | .opt _ _ _ _ _, _, _, _, _ => none
  | .tags k r, T, p, L, cs => match rdTags X fx L q p T k cs with
    | some cs' => rdS X fx q r T p L cs'
    | none => none

theorem okR_fresh {s r : Sch} {k : Nat} {v : V} (hk : s.keys = k :: r.keys) (hf : freshB s v = true → freshB r v = true) (hc : r.keys.contains k = false) (h : startB s v = true) (x : V) : startB r v = true ∧ startB r (v.put k x) = true := by
  obtain ⟨h1, _⟩ := startB_tail (s := s) (r := r) (k := k) hk hf h
  exact ⟨h1, startB_put hc h1⟩

section
variable {X : Cx} {S : Nat → Prop} {r : Nat} {tR : TypeId} {fx : Bool} {ver : Int} {q : Nat}

theorem rdS_step (hX : X.Sound) (hver : 0 ≤ ver) (s : Sch) : ∀ {W : Nat → Prop} {T : Ty} {p g o : Nat} {tG : TypeId} {L : List Nat} {cs rest : List Code}, rdS X fx q s T p L cs = some rest → LIn X fx q p L → okB ver fx s = true →
    RStep X S W r tR T g o tG L (RP X fx ver q p r g o) (fun v => startB s v = true) (fun v l => dec ver fx s v l) cs rest := by
  induction s with
  | nil =>
    intro W T p g o tG L cs rest h hL hok
    simp only [rdS, Option.some.injEq] at h
    subst h
    exact RStep.refl fun v l => rfl
  | val c k w r' ih =>
    intro W T p g o tG L cs rest h hL hok
    simp only [rdS] at h
    split at h
    · rename_i cs' hc
      simp only [okB, Bool.and_eq_true] at hok
      obtain ⟨hk1, hk2⟩ := notin hok.1
      have h1 := rdVc_step (S := S) (W := W) (r := r) (tR := tR) (T := T) (g := g) (o := o) (tG := tG) (Pre := RP X fx ver q p r g o) (A := fun v => startB (.val c k w r') v = true) (f := fun v l => (decW fx w l).map fun x => (v.put k x.1, x.2)) (ver := ver) hc (fun σ σ' hp he => hp.keep hL he) (fun σ hp => hp.ver) fun _ cs rest hb => by
        split at hb
        · rename_i hw; subst hw; exact rdUuid_step hX hL hb
        · exact rdVal_step hX hL hb
      refine (h1.trans (ih h hL hok.2) (fun v l y hA hy => ?_) fun σ σ' hp he => hp.keep hL he).congr fun v l => ?_
      · have hst := okR_fresh (s := .val c k w r') (r := r') (k := k) rfl (fun h => h) hk1 hA
        split at hy
        · obtain ⟨x, _, rfl⟩ := Option.map_eq_some_iff.1 hy
          exact (hst x.1).2
        · simp only [Option.some.injEq] at hy; subst hy; exact (hst .nstN).1
      · simp only [dec]
        split
        · cases decW fx w l <;> rfl
        · rfl
    · cases h
  | arrV c k nul w r' ih =>
    intro W T p g o tG L cs rest h hL hok
    simp only [rdS] at h
    split at h
    · rename_i cs' hc
      simp only [okB, Bool.and_eq_true] at hok
      obtain ⟨hk1, hk2⟩ := notin hok.1
      have h1 := rdVc_step (S := S) (W := W) (r := r) (tR := tR) (T := T) (g := g) (o := o) (tG := tG) (Pre := RP X fx ver q p r g o) (A := fun v => startB (.arrV c k nul w r') v = true) (f := fun v l => (decLen fx l).bind fun n => (decN (decW fx w) n.1.toNat n.2).map fun x => (v.put k (arrOf ver nul n.1 x.1), x.2)) (ver := ver) hc (fun σ σ' hp he => hp.keep hL he) (fun σ hp => hp.ver) fun _ cs rest hb =>
        (rdArr_step (gd := decW fx w) hX hL hb fun a ix ln cs hb => elV_step hX hL hb).wk fun v hA => by
          have := startB_fresh hA
          simp only [freshB, Bool.and_eq_true] at this
          have hn := this.1
          split at hn
          · assumption
          · cases hn
      refine (h1.trans (ih h hL hok.2) (fun v l y hA hy => ?_) fun σ σ' hp he => hp.keep hL he).congr fun v l => ?_
      · have hst := okR_fresh (s := .arrV c k nul w r') (r := r') (k := k) rfl (fun h => by simp only [freshB, Bool.and_eq_true] at h; exact h.2) hk1 hA
        split at hy
        · obtain ⟨x, _, hy⟩ := Option.bind_eq_some_iff.1 hy
          obtain ⟨x, _, rfl⟩ := Option.map_eq_some_iff.1 hy
          exact (hst _).2
        · simp only [Option.some.injEq] at hy; subst hy; exact (hst .nstN).1
      · simp only [dec]
        split
        · cases decLen fx l with
          | none => rfl
          | some n =>
            simp only [Option.bind_some]
            cases decN (decW fx w) n.1.toNat n.2 <;> rfl
        · rfl
    · cases h
  | arrS c k nul d s' r' ihs ih =>
    intro W T p g o tG L cs rest h hL hok
    simp only [rdS] at h
    split at h
    · rename_i e off hfld
      split at h
      · rename_i cs' hc
        simp only [okB, Bool.and_eq_true] at hok
        obtain ⟨⟨hk, hoke⟩, hok⟩ := hok
        obtain ⟨hk1, hk2⟩ := notin hk
        have h1 := rdVc_step (S := S) (W := W) (r := r) (tR := tR) (T := T) (g := g) (o := o) (tG := tG) (Pre := RP X fx ver q p r g o) (A := fun v => startB (.arrS c k nul d s' r') v = true) (f := fun v l => (decLen fx l).bind fun n => (decN (dec ver fx s' d) n.1.toNat n.2).map fun x => (v.put k (arrOf ver nul n.1 x.1), x.2)) (ver := ver) hc (fun σ σ' hp he => hp.keep hL he) (fun σ hp => hp.ver) fun hcv cs rest hb => by
          rw [hcv] at hoke
          simp only [Bool.not_true, Bool.false_or, Bool.and_eq_true] at hoke
          obtain ⟨⟨hpos, hoe⟩, hstd⟩ := hoke
          exact (rdArr_step (gd := dec ver fx s' d) hX hL hb fun a ix ln cs hb W ga te m c => elS_step hX hL hb W ga te m c fun hrc hL' => ihs hrc hL' hoe).wk fun v hA => by
            have := startB_fresh hA
            simp only [freshB, Bool.and_eq_true] at this
            have hn := this.1
            split at hn
            · assumption
            · cases hn
        refine (h1.trans (ih h hL hok) (fun v l y hA hy => ?_) fun σ σ' hp he => hp.keep hL he).congr fun v l => ?_
        · have hst := okR_fresh (s := .arrS c k nul d s' r') (r := r') (k := k) rfl (fun h => by simp only [freshB, Bool.and_eq_true] at h; exact h.2) hk1 hA
          split at hy
          · obtain ⟨x, _, hy⟩ := Option.bind_eq_some_iff.1 hy
            obtain ⟨x, _, rfl⟩ := Option.map_eq_some_iff.1 hy
            exact (hst _).2
          · simp only [Option.some.injEq] at hy; subst hy; exact (hst .nstN).1
        · simp only [dec]
          split
          · cases decLen fx l with
            | none => rfl
            | some n =>
              simp only [Option.bind_some]
              cases decN (dec ver fx s' d) n.1.toNat n.2 <;> rfl
          · rfl
      · cases h
    · cases h
  | opt c k d s' r' _ _ => intro W T p g o tG L cs rest h; simp only [rdS] at h; cases h
  | tags k r' ih =>
    intro W T p g o tG L cs rest h hL hok
    simp only [rdS] at h
    split at h
    · rename_i cs' hc
      simp only [okB, Bool.and_eq_true] at hok
      obtain ⟨hk1, hk2⟩ := notin hok.1
      have h1 := rdTags_step (S := S) (W := W) (r := r) (tR := tR) (T := T) (g := g) (o := o) (tG := tG) (ver := ver) (A := fun v => startB (.tags k r') v = true) hX hL hc
      refine (h1.trans (ih h hL hok.2) (fun v l y hA hy => ?_) fun σ σ' hp he => hp.keep hL he).congr fun v l => ?_
      · have hst := okR_fresh (s := .tags k r') (r := r') (k := k) rfl (fun h => h) hk1 hA
        split at hy
        · obtain ⟨x, _, rfl⟩ := Option.map_eq_some_iff.1 hy
          exact (hst _).2
        · simp only [Option.some.injEq] at hy; subst hy; exact (hst .nstN).1
      · simp only [dec]
        split
        · cases decTags l <;> rfl
        · rfl
    · cases h
end
end Go.Kx
