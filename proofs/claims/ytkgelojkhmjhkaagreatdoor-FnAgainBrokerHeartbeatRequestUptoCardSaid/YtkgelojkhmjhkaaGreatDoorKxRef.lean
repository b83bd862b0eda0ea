/- Library texts KnW KnU Ref, joined. -/
import Derived.Test.YtkgelojkhmjhkaaGreatDoorKxPre2
import Derived.Test.YtkgelojkhmjhkaaGreatDoorKxBe
import Derived.Test.YtkgelojkhmjhkaaGreatDoorKxAgn
/- A list is written behind its load; a slice of octets is cut; the keys of tags. -/
namespace Go.Kx
open Go.RowKit
set_option linter.unusedSimpArgs false
set_option linter.unusedVariables false

section
variable {P : Program} {ρ : Operand → Value} {w : World} {K : Value → World → Prop} {d : Option Tmp} {ty : TypeId} {pos : String} {af : Array Edge} {g : Option (Nat × Bool)}
theorem Yi.sliceTo {S : World → Prop} {x hi : Operand} {t e : TypeId} {s : Nat} {a : Option Addr} {n c j : Nat} {k : IntKind} (ht : P.underlying t = some (.slice e)) (hs : (P.info? e).map (·.size) = some s) (hx : ρ x = .slice a n c) (hj : ρ hi = .int k (j : Int)) (hn : j ≤ c) : Yi P S ρ ⟨d, .slice t x none (some hi) none, ty, pos, af, g⟩ (.slice a j c) :=
  yi_of_OpK rfl fun w _ => OpK.sliceTo ht hs hx hj hn ⟨rfl, rfl⟩
theorem Yi.sliceFrom {S : World → Prop} {x lo : Operand} {t e : TypeId} {a : Option Addr} {n c j : Nat} {k : IntKind} (ht : P.underlying t = some (.slice e)) (hs : (P.info? e).map (·.size) = some 1) (hx : ρ x = .slice a n c) (hj : ρ lo = .int k (j : Int)) (hn : j ≤ n) (hc : n ≤ c) : Yi P S ρ ⟨d, .slice t x (some lo) none none, ty, pos, af, g⟩ (.slice (if c = j then a else a.map (·.add j)) (n - j) (c - j)) :=
  yi_of_OpK rfl fun w _ => OpK.sliceFrom ht hs hx hj hn hc ⟨rfl, rfl⟩
end
/-- The first octets of a slice. -/
theorem Own.take {e : TypeId} {w : World} {a : Option Addr} {n c j : Nat} {bs : List UInt8} (h : Own e w (.slice a n c) bs) (hj : j ≤ bs.length) : Own e w (.slice a j c) (bs.take j) := by
  obtain ⟨h1, h2⟩ := h
  refine ⟨by simp, ?_⟩
  rcases h2 with ⟨h2, h3⟩ | ⟨g, cap, cur, h2, hb, hg, hnc, hm, hs, ht⟩
  · cases h2
    have : j = 0 := by omega
    subst this
    exact .inl ⟨rfl, by simp⟩
  · cases h2
    have hl : (bs.take j).length = j := by rw [List.length_take]; omega
    refine .inr ⟨g, _, cur, by rw [hl], hb, hg, by rw [hl]; omega, hm, hs, ?_⟩
    rw [hl, List.map_take, ← ht, List.take_take, Nat.mul_one, Nat.mul_one, Nat.min_eq_left hj]
theorem KW.cut {e eK : TypeId} {w : World} {te : Value} {keys : List Nat} {wl : World} {a : Option Addr} {n c j : Nat} {bs : List UInt8} (h : KW e eK w te keys wl (.slice a n c) bs) (hj : j ≤ bs.length) : KW e eK w te keys wl (.slice a j c) (bs.take j) := by
  have hb : (Value.slice a j c).ownBlock = (Value.slice a n c).ownBlock := by cases a <;> rfl
  exact ⟨⟨h.grew.own.take hj, h.grew.ch, fun k hk => h.grew.blk k (hb ▸ hk)⟩, h.keys, fun k hk => by rw [hb]; exact h.apart k hk⟩

section
variable {P : Program} {n : Nat} {e : TypeId} {w0 : World} {d0 : Value} {S : Nat → Prop} {full : Bool} {tab : List (Nat × Ap)} {x : Sl} {ver : Int} {fx : Bool}
end
end Go.Kx

/- Lists of sixteen octets: their things are read, and written. -/
namespace Go.Kx
open Go.RowKit
section
variable {P : Program} {ρ : Operand → Value} {w : World} {K : Value → World → Prop} {d : Option Tmp} {ty : TypeId} {pos : String} {af : Array Edge} {g : Option (Nat × Bool)}
theorem OpK.neNilSlice {x : Operand} {t u : TypeId} {s : Nat} {a : Option Addr} {n c : Nat} (ht : elemSize P t = some s) (hx : ρ x = .slice a n c) (hn : ρ (.const (.slice none 0 0)) = .slice none 0 0) (h : K (.bool a.isSome) w) :
    OpK P ρ ⟨d, .binOp .neq t x (.const (.slice none 0 0)) u, ty, pos, af, g⟩ w K := by
  unfold elemSize at ht
  split at ht
  · rename_i e he
    have hr : (binOp .neq t (.slice a n c) (.slice none 0 0)).run P w = .ok (.bool a.isSome) w := by
      simp only [binOp]
      have := Lib.run_equalIn_slice_nil (P := P) w 9999 t e a n c 0 0 he
      cases a <;> simp_all [Op.equal, Op.maxDepth]
    simp only [OpK, execOp, hx, hn, eqGuard, Sem.run_bind]
    simp [hr, After]
    exact h
  · cases ht
end
end Go.Kx
namespace Go.Kx
open Go.RowKit
set_option linter.unusedSimpArgs false
set_option linter.unusedVariables false

/-- 'v := b.Uuid(); a[i] = v' -/
def elU (X : Cx) (L : List Nat) (q : Nat) (a ix ln : Nat) (cs : List Code) : Bool :=
  match cs with
  | [c1, c2] => match canR c1, canR c2 with
    | some ⟨[(op, _), (.alloc at', _), (.store st1 (.tmp 3) (.tmp 1), _)], (d, 3) :: b1⟩, some ⟨[(.load lt (.tmp d2), _), (.indexAddr t (.tmp a2) (.tmp i2), _), (.store st (.tmp 3) (.tmp 1), _)], b2⟩ =>
      match asCall op with
      | some (f, [.tmp q2]) => q2 == 2 * q && isUuid X f && uuOk X.P at' && st1 == at' && lt == at' && st == at' && d2 == 2 * d && a2 == 2 * a && i2 == 2 * ix && elemSize X.P t == some 16 && free (ix :: ln :: a :: L) ((d, 3) :: b1) && free (ix :: ln :: a :: L) b2
      | _ => false
    | _, _ => false
  | _ => false

section
variable {X : Cx} {S : Nat → Prop} {r : Nat} {tR : TypeId} {L : List Nat} {fx : Bool} {ver : Int} {q p g o : Nat}

theorem elU_step (hX : X.Sound) (hL : LIn X fx q p L) {a ix ln : Nat} {cs : List Code} (h : elU X L q a ix ln cs = true) (W : Nat → Prop) (ga : Nat) (te : TypeId) (m c : Nat) :
    EStep X S W r tR .uuid ga te m (ln :: a :: L) ix (InArr X fx ver q p r g o a ga m c) (decW fx .uuid) cs := by
  intro σ w1 oi vs s ca Q ⟨hP, ha⟩ hlt hix hg hA hr hk
  unfold elU at h
  split at h
  · rename_i c1 c2
    split at h
    · rename_i op ty1 at' ty2 st1 ty3 d b1 lt d2 ty4 t a2 i2 ty5 st ty7 b2 hcan1 hcan2
      split at h
      · rename_i f q2 hop
        simp only [Bool.and_eq_true, beq_iff_eq] at h
        obtain ⟨⟨⟨⟨⟨⟨⟨⟨⟨⟨⟨rfl, hu⟩, hok⟩, rfl⟩, rfl⟩, rfl⟩, rfl⟩, rfl⟩, rfl⟩, hes⟩, hfree1⟩, hfree2⟩ := h
        obtain ⟨fx', htab⟩ := isUuid_spec hu
        obtain ⟨hcall, hrf⟩ := hX.ok f _ htab
        obtain ⟨e, i, z, hund, hinf, hsz, hz, hzs⟩ := uuOk_spec hok
        have hc := hrf w1 S r tR s (fun k hk => (hA.src k hk).1) hA.rd
        refine CWL.reg hcan1 (OpK.asCall hop hcall rfl ?_)
        simp only [List.map_cons, List.map_nil, ev_tmp, enF_two, hP.rdr]
        refine hc.mono fun en w2 ⟨u, cu, s', he, h1, h2, h3, h4⟩ => ⟨_, he, ?_⟩
        obtain ⟨l, rfl, h16, rfl⟩ := rep_uuid h3
        have hall : (l.map bv).toArray.all (·.oneCell') = true := by
          rw [Array.all_eq_true']
          intro x hx
          simp only [List.mem_toArray, List.mem_map] at hx
          obtain ⟨b, _, rfl⟩ := hx
          rfl
        refine OpK.allocArr hinf hz ?_
        refine OpK.storeArr (c' := (l.map bv).toArray) (by simp [hinf, hsz, h16]) (by simp [hzs, h16]) hall (by simp [upd]) (by simp [upd, ldv, Wt.ty]) ?_
        simp only [RC]
        have hA1 := hA.call h1 h2
        have hA2 := hA1.call (h1.keepG (w' := w2.alloc (.cells (l.map bv).toArray st)) (alloc_old w2 _ _ h1.lt) fun k hk => alloc_old w2 _ k (hA1.src k hk).1) (Ch.alloc _ w2 _)
        generalize hσ1 : outF ((d, 3) :: b1) (upd (upd (upd (enF σ) (some (2 * 0 + 1)) (ldv Wt.uuid.ty (List.map bv l))) (some (2 * (0 + 1) + 1)) (Value.pointer (some ⟨w2.heap.size, 0, none⟩))) (some (2 * (0 + 1 + 1) + 1)) undef) = σ1
        have hd1 : σ1 d = .pointer (some ⟨w2.heap.size, 0, none⟩) := by rw [← hσ1, outF_head]; simp [upd]
        have hk1 : ∀ t ∈ ix :: ln :: a :: L, σ1 t = σ t := fun t ht => by
          rw [← hσ1, outF_free hfree1 ht, upd_odd _ _ _ _ (by omega), upd_odd _ _ _ _ (by omega), upd_odd _ _ _ _ (by omega), enF_two]
        have hnew := Blk.new w2 st (l.map bv)
        have hM2 := hA2.mem (T := .uuid) rfl hlt
        have hu : Rep (w2.alloc (.cells (l.map bv).toArray st)) (Ob (Wa W ga) (w2.alloc (.cells (l.map bv).toArray st))) .uuid (.u l) (l.map bv) := ⟨h16, rfl⟩
        have hlen := Nat.le_trans (mul_lt_le (n := Ty.uuid.size) hlt) hA2.len
        have hll : (l.map bv).length = 16 := by rw [List.length_map]; exact h16
        refine CWL.reg hcan2 ?_
        refine OpK.loadKind (loadOk_uuid hok) (S := fun _ => True) (g := w2.heap.size) (o := 0) (v := .u l) (by simp only [ev_tmp, enF_two]; exact hd1) ⟨l.map bv, ⟨h16, rfl⟩, fun i u hu => by rw [Nat.zero_add, hnew.cell]; exact hu⟩ fun cs hr' => ?_
        obtain ⟨l', hl', _, rfl⟩ := rep_uuid hr'
        cases hl'
        refine OpK.indexAddr hes (k := .i32) (j := vs.length) (by simp only [ev_tmp]; rw [upd_odd _ _ _ _ (by omega), enF_two]; exact (hk1 a (by simp)).trans ha) (by simp only [ev_tmp]; rw [upd_odd _ _ _ _ (by omega), enF_two]; exact (hk1 ix (by simp)).trans hix) hlt ?_
        refine OpK.storeV (c := l.map bv) (v := .agg (l.map bv).toArray) (g := ga) (o := vs.length * 16) (tG := te) (cells := ca) (by simp [hinf, hsz, h16]) (by simp [upd, add_at]) (by simp [upd, ldv]) (.inl rfl) (bv_one l) hA2.blk (by rw [hll]; exact hlen) ?_
        simp only [RC]
        have hw := hM2.write (c := l.map bv) (p := 0) (v' := .u l) (by rw [hll]; exact Nat.le_refl _) (by
          have hz' := hM2.rep.size
          have e : spl ((ca.drop (vs.length * Ty.uuid.size)).take Ty.uuid.size) 0 (l.map bv) = l.map bv := by
            simp only [spl, List.take_zero, List.nil_append, Nat.zero_add]
            rw [List.drop_of_length_le (by rw [hll]; exact Nat.le_of_eq hz'), List.append_nil]
          rw [e]
          exact hu)
        have ho := Outside.spl (cs := ca) (c := l.map bv) (o := vs.length * Ty.uuid.size) (n := Ty.uuid.size) (p := 0) (by rw [hll]; exact Nat.le_refl _) hM2.len
        rw [Nat.add_zero] at hw ho
        have hch : Ch (rg r ga) w1 ((w2.alloc (.cells (l.map bv).toArray st)).setCells ga (vs.length * 16) (l.map bv)) := ((h2.trans' (Ch.alloc _ _ _)).mono fun _ _ h => .inl h).trans' ((setCells_ch ga _ _ _).mono fun _ _ h => .inr h)
        have hg' := hg.step h4
        rw [show decW fx' .uuid = decW fx .uuid from by funext l; rfl] at hg'
        refine hk _ _ (.u l) s' _ ho.1 hg' (hA2.next hw ho ((setCells_ch ga _ _ _).mono fun _ _ h => .inr h)) hch fun t ht => ?_
        rw [outF_free hfree2 ht, upd_odd _ _ _ _ (by omega), upd_odd _ _ _ _ (by omega), upd_odd _ _ _ _ (by omega), enF_two]
        exact hk1 t ht
      · cases h
    · cases h
  · cases h
end
end Go.Kx
namespace Go.Kx
open Go.RowKit
/-! ### They are written -/
def uuElem (P : Program) (L : List Nat) (v i : Nat) (c : Code) : Option Nat :=
  match canR c with
  | some ⟨[(.indexAddr t (.tmp v2) (.tmp i2), _), (.load lt (.tmp 1), _), (.alloc at', _), (.store st (.tmp 5) (.tmp 3), _)], (u, 5) :: b⟩ => if v2 == 2 * v && i2 == 2 * i && elemSize P t == some 16 && uuOk P lt && at' == lt && st == lt && free L ((u, 5) :: b) then some u else none
  | _ => none
theorem uuElem_sound {P : Program} {n : Nat} {L : List Nat} {v i u : Nat} {c : Code} (h : uuElem P L v i c = some u) {rest : List Code} {σ : Fm} {w : World} {Q : Exit → Fm → World → Prop} {S : Nat → Prop} {g N cc j : Nat} {l : List UInt8} (hv : σ v = .slice (some ⟨g, 0, none⟩) N cc) (hi : σ i = .int .i64 (j : Int)) (hj : j < N)
    (his : Is w S g (j * 16) .uuid (.u l)) (h16 : l.length = 16) (hk : ∀ σ' t, (∀ t ∈ L, σ' t = σ t) → σ' u = .pointer (some ⟨w.heap.size, 0, none⟩) → CWL P n rest σ' (w.alloc (.cells (l.map bv).toArray t)) Q) : CWL P n (c :: rest) σ w Q := by
  unfold uuElem at h
  split at h
  · rename_i t v2 i2 ty1 lt ty2 at' ty3 st ty4 u' b hc
    split at h
    · rename_i hh
      simp only [Option.some.injEq] at h
      subst h
      simp only [Bool.and_eq_true, beq_iff_eq] at hh
      obtain ⟨⟨⟨⟨⟨⟨rfl, rfl⟩, hs⟩, hu⟩, rfl⟩, rfl⟩, hfree⟩ := hh
      obtain ⟨e, ii, z, hund, hinf, hsz, hz, hzs⟩ := uuOk_spec hu
      refine CWL.reg hc (OpK.indexAddr hs (k := .i64) (j := j) (by simp only [ev_tmp, enF_two]; exact hv) (by simp only [ev_tmp, enF_two]; exact hi) hj ?_)
      refine OpK.loadKind (loadOk_uuid hu) (S := S) (g := g) (o := j * 16) (v := .u l) (by simp [upd, add_at]) his fun cs hr => ?_
      obtain ⟨l', hl', _, rfl⟩ := rep_uuid hr
      cases hl'
      refine OpK.allocArr hinf hz ?_
      refine OpK.storeArr (c' := (l.map bv).toArray) (by simp [hinf, hsz, h16]) (by simp [hzs, h16]) ?_ (by simp [upd]) (by simp [upd, ldv]) ?_
      · rw [Array.all_eq_true']
        intro x hx
        simp only [List.mem_toArray, List.mem_map] at hx
        obtain ⟨b, _, rfl⟩ := hx
        rfl
      simp only [RC]
      refine hk _ _ (fun t ht => ?_) ?_
      · rw [outF_free hfree ht, upd_odd _ _ _ _ (by omega), upd_odd _ _ _ _ (by omega), upd_odd _ _ _ _ (by omega), upd_odd _ _ _ _ (by omega), enF_two]
      · rw [outF_head]; simp [upd]
    · cases h
  · cases h

def arrTailU (P : Program) (tab : List (Nat × Ap)) (x : Sl) (nul : Bool) (L : List Nat) (v : Nat) (cs : List Code) : Option (List Code) :=
  match chkLen P tab x L v nul cs with
  | some r2 => match chkLoop P L x.dst v r2 with
    | some lp => match flat lp.inner with
      | [c1, c2, c3] => match idxOf (x.dst :: lp.ix :: lp.ln :: v :: L) lp.ix c1 with
        | some i => match uuElem P (x.dst :: lp.ix :: lp.ln :: v :: L) v i c2 with
          | some u => if uuCall P tab (lp.ix :: lp.ln :: v :: L) x.dst u c3 then some lp.rest else none
          | none => none
        | none => none
      | _ => none
    | none => none
  | none => none
section
variable {P : Program} {n : Nat} {e : TypeId} {w0 : World} {d0 : Value} {S : Nat → Prop} {full : Bool} {tab : List (Nat × Ap)} {x : Sl} {ver : Int} {fx : Bool}
theorem arrTailU_use (m : Nat) (hs : Sound P e full tab) (hS : Clear w0 S d0) (hfx : x.flx = none → fx = false) {p g o s : Nat} {nul : Bool} {L : List Nat} {v : V} {cs1 : List Value} {cs : List Code}
    (hr0 : Rep w0 S (.arr .uuid) v cs1) (hV : x.ver ∈ L) (hF : ∀ t, x.flx = some t → t ∈ L) (hpL : p ∈ L) (h : arrTailU P tab x nul L s cs = some (cs.drop m)) {σ : Fm} {w1 : World} {bs : List UInt8} {Q : Exit → Fm → World → Prop} (hp : Pr x ver fx p g o σ) (hv1 : σ s = ldv (.arr .uuid) cs1) (hgr : Grew e w0 d0 w1 (σ x.dst) bs)
    (hl : bs.length + (encLen fx nul v ++ v.elems.flatMap (encW fx .uuid)).length ≤ Lim)
    (hk : ∀ σ' w', Grew e w0 d0 w' (σ' x.dst) (bs ++ (encLen fx nul v ++ v.elems.flatMap (encW fx .uuid))) → (∀ t ∈ L, σ' t = σ t) → CWL P n (cs.drop m) σ' w' Q) : CWL P n cs σ w1 Q := by
  unfold arrTailU at h
  split at h
  · rename_i r2 hlen
    split at h
    · rename_i lp hlp
      split at h
      · rename_i c1 c2 c3 hin
        split at h
        · rename_i i hix
          split at h
          · rename_i u hel
            split at h
            · rename_i hout
              simp only [Option.some.injEq] at h
              rw [← h] at hk
              obtain ⟨a, cc, hval, hnil, hmax, helm⟩ := rep_arr hr0
              rw [List.length_append] at hl
              refine chkLen_step (t := .uuid) (v := v) (S := S) hs hfx hlen σ w1 bs Q ⟨hp.flx, cs1, hr0, hv1⟩ hgr (by omega) fun σ2 w2 hg2 he2 => ?_
              have hstep := chkLoop_step (P := P) (n := n) (e := e) (w0 := w0) (d0 := d0) (Pre := fun σ => Pr x ver fx p g o σ ∧ σ s = .slice a v.elems.length cc) hlp v.elems hmax (encW fx .uuid)
                (fun σ σ' hpp he => ⟨hpp.1.keep (L := s :: L) (List.mem_cons_of_mem _ hV) (fun t ht => List.mem_cons_of_mem _ (hF t ht)) (List.mem_cons_of_mem _ hpL) he, (he _ (by simp)).trans hpp.2⟩)
                (fun σ hpp => ⟨a, cc, hpp.2⟩)
                (fun j uu hu => by
                  obtain ⟨g', ha, hg', hiu⟩ := helm j uu hu
                  subst ha
                  obtain ⟨cu, hru, hau⟩ := hiu
                  obtain ⟨l, rfl, h16, rfl⟩ := rep_uuid hru
                  have hj := (List.getElem?_eq_some_iff.1 hu).1
                  rw [hin]
                  intro σ w1 bs Q ⟨⟨hp, hsl⟩, hixv⟩ hgr hl hk
                  refine idxOf_sound hix fun σ1 he1 hi1 => ?_
                  have hS' := he1 s (by simp)
                  refine uuElem_sound (S := S) hel (g := g') (N := v.elems.length) (cc := cc) (j := j) (l := l) (hS'.trans hsl) (hi1.trans hixv) hj ⟨_, ⟨h16, rfl⟩, hau.keep (hS.keep hgr _ hg')⟩ h16 fun σ2 t2 he2 hu2 => ?_
                  have hk2 : ∀ t ∈ x.dst :: lp.ix :: lp.ln :: s :: L, σ2 t = σ t := fun t ht => (he2 t ht).trans (he1 t ht)
                  refine uuCall_step (S := S) hs hS hout h16 hu2 (fun i u hu => ?_) (by rw [hk2 _ (by simp)]; exact hgr.alloc _) hl fun σ3 w3 hg3 he3 => ?_
                  · rw [Nat.zero_add, (Blk.new w1 t2 (l.map bv)).cell i, hu]
                  · exact hk σ3 w3 hg3 fun t ht => (he3 t ht).trans (hk2 t (List.mem_cons_of_mem _ ht)))
              refine hstep σ2 w2 _ Q ⟨hp.keep (L := s :: L) (List.mem_cons_of_mem _ hV) (fun t ht => List.mem_cons_of_mem _ (hF t ht)) (List.mem_cons_of_mem _ hpL) he2, ?_⟩ hg2 (by rw [List.length_append]; omega) fun σ3 w3 hg3 he3 => ?_
              · rw [he2 _ (by simp), hv1, hval]
              · exact hk σ3 w3 (by rw [← List.append_assoc]; exact hg3) fun t ht => (he3 t ht).trans (he2 t (List.mem_cons_of_mem _ ht))
            · cases h
          · cases h
        · cases h
      · cases h
    · cases h
  · cases h
end
end Go.Kx

/- What the reference writes of a part that has known tags (lists of values), in plain Lean. -/
namespace Go.Kx
open Go.RowKit
set_option linter.unusedSimpArgs false
set_option linter.unusedVariables false

def knStep (n : Nat) (f : Fld) : Nat := if f.tag ≥ 0 then max n (f.tag.toNat + 1) else n
/-- One more than all numbers of known tags. -/
def knownF (flds : List Fld) : Nat := flds.foldl knStep 0
/-- The unknown tags above the known ones. -/
def unkK (K : Nat) (u : List (UInt32 × List UInt8)) : List (Nat × List UInt8) := (((u.take 32767).map fun x => (x.1.toNat, x.2)).filter fun x => decide (K ≤ x.1)).foldl insU []
theorem insU_mem {t y : Nat × List UInt8} {out : List (Nat × List UInt8)} (h : y ∈ insU out t) : y ∈ out ∨ y = t := by
  unfold insU at h
  split at h
  · exact .inl h
  · rcases insTag_mem.1 h with h | h
    · exact .inr h
    · exact .inl h
theorem fold_mem : ∀ (l : List (Nat × List UInt8)) {out : List (Nat × List UInt8)} {y : Nat × List UInt8}, y ∈ l.foldl insU out → y ∈ out ∨ y ∈ l
  | [], _, _, h => .inl h
  | t :: l, out, y, h => by
    rcases fold_mem l h with h | h
    · rcases insU_mem h with h | h
      · exact .inl h
      · exact .inr (by simp [h])
    · exact .inr (by simp [h])
theorem unkK_props (K : Nat) (u : List (UInt32 × List UInt8)) : Rising (unkK K u) ∧ (∀ y ∈ unkK K u, K ≤ y.1 ∧ y.1 < 4294967296) ∧ (unkK K u).length ≤ 32767 := by
  obtain ⟨h1, h2, h3⟩ := unk_fold (N := 4294967296) (((u.take 32767).map fun x => (x.1.toNat, x.2)).filter fun x => decide (K ≤ x.1)) (out := []) (fun y hy => by
    obtain ⟨a, _, rfl⟩ := List.mem_map.1 (List.mem_filter.1 hy).1
    exact a.1.toNat_lt) trivial (fun _ h => by cases h)
  refine ⟨h1, fun y hy => ⟨?_, h2 y hy⟩, ?_⟩
  · rcases fold_mem _ hy with h | h
    · cases h
    · have := (List.mem_filter.1 h).2
      simpa using this
  · have h4 := List.length_filter_le (fun x : Nat × List UInt8 => decide (K ≤ x.1)) ((u.take 32767).map fun x => (x.1.toNat, x.2))
    rw [List.length_map, List.length_take] at h4
    rw [List.length_nil] at h3
    unfold unkK
    omega
def tagN (x : Nat × List UInt8) : List UInt8 := uvar x.1 ++ uvar x.2.length ++ x.2
/-- A field as a known tag: where it has this number, and says something. -/
def knT (ver : Int) (t : Tr) (j : Nat) (x : Fld × Nat) : List (Nat × List UInt8) := if x.1.tag = (j : Int) ∧ 0 < (t.at x.2).l.length then [(j, fldL (fun _ _ => []) x.1 ver true (t.at x.2))] else []
def knJ (ver : Int) (flds : List Fld) (t : Tr) (j : Nat) : List (Nat × List UInt8) := flds.zipIdx.flatMap (knT ver t j)
def knL (ver : Int) (flds : List Fld) (t : Tr) (K : Nat) : List (Nat × List UInt8) := (List.range K).flatMap (knJ ver flds t)
def partK (ver : Int) (flds : List Fld) (t : Tr) : List UInt8 :=
  (acts ver flds).flatMap (fun x => fldL (fun _ _ => []) x.1 ver true (t.at x.2)) ++
    (uvar ((knL ver flds t (knownF flds)).length + (unkK (knownF flds) t.u).length) ++ ((knL ver flds t (knownF flds)).flatMap tagN ++ (unkK (knownF flds) t.u).flatMap tagL))
theorem known_take {flds : List Fld} {i : Nat} {f : Fld} (h : flds[i]? = some f) : knownF (flds.take (i + 1)) = knStep (knownF (flds.take i)) f := by
  unfold knownF
  rw [List.take_add_one, h]
  simp
theorem zip_take {flds : List Fld} {i : Nat} {f : Fld} (h : flds[i]? = some f) {β : Type} (g : Fld × Nat → List β) : (flds.zipIdx.take (i + 1)).flatMap g = (flds.zipIdx.take i).flatMap g ++ g (f, i) := by
  have hz : flds.zipIdx[i]? = some (f, i) := by simp [List.getElem?_zipIdx, h]
  rw [List.take_add_one, hz]
  simp
section
variable {P : Program} {ρ : Operand → Value} {w : World} {K : Value → World → Prop} {d : Option Tmp} {ty : TypeId} {pos : String} {af : Array Edge} {gd : Option (Nat × Bool)}
theorem OpK.maxN {x y : Operand} {ats : Array TypeId} {k k' : IntKind} {a b : Nat} (hx : ρ x = .int k (a : Int)) (hy : ρ y = .int k' (b : Int)) (h : K (.int k ((max a b : Nat) : Int)) w) : OpK P ρ ⟨d, .call ⟨.builtin .max, #[x, y], ats⟩, ty, pos, af, gd⟩ w K := by
  refine OpK.bi (v := .int k (if (b : Int) > (a : Int) then (b : Int) else (a : Int))) (w' := w) (fun cs => ?_) ?_
  · have e : (#[x, y] : Array Operand).map ρ = #[.int k (a : Int), .int k' (b : Int)] := by simp [hx, hy]
    rw [e]
    simp only [builtin, Sem.run_bind, run_max_int2, Result.andThen_ok, Sem.run_pure]
  · have e : (if (b : Int) > (a : Int) then (b : Int) else (a : Int)) = ((max a b : Nat) : Int) := by split <;> omega
    rw [e]
    exact h
end
/-- What grew is there later. -/
theorem Grew.laterG {e : TypeId} {w w1 w2 : World} {d0 d : Value} {bs : List UInt8} (h : Grew e w d0 w1 d bs) (hc : Ch (fun _ => False) w1 w2) : Grew e w d0 w2 d bs :=
  ⟨h.own.keep fun k hk => hc.block k (h.own.lt hk) fun h => h, h.ch.trans hc fun _ _ h => h.elim, h.blk⟩
end Go.Kx
