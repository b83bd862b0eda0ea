/- Library texts App5 App6 Be, joined. -/
import Derived.Test.YthcpchmmpnakaaaGreatDoorKxApp4
import Derived.Deep.WholeRow
/- The check of all fields of a part, by its fields; what passes it writes what 'enc' says. -/
namespace Go.Kx
open Go.RowKit
set_option linter.unusedSimpArgs false
set_option linter.unusedVariables false

/-! ### Sixteen octets: an array has a variable of its own -/
def uuOk (P : Program) (t : TypeId) : Bool :=
  (match P.underlying t with | some (.array 16 _) => true | _ => false) && (match P.info? t with | some i => i.size == 16 && (match i.zero with | some z => z.cells.size == 16 | none => false) | none => false)

theorem uuOk_spec {P : Program} {t : TypeId} (h : uuOk P t = true) : ∃ e i z, P.underlying t = some (.array 16 e) ∧ P.info? t = some i ∧ i.size = 16 ∧ i.zero = some z ∧ z.cells.size = 16 := by
  unfold uuOk at h
  simp only [Bool.and_eq_true] at h
  obtain ⟨h1, h2⟩ := h
  split at h1
  · rename_i e he
    split at h2
    · rename_i i hi
      simp only [Bool.and_eq_true, beq_iff_eq] at h2
      obtain ⟨h3, h4⟩ := h2
      split at h4
      · rename_i z hz
        exact ⟨e, i, z, he, hi, h3, hz, beq_iff_eq.1 h4⟩
      · cases h4
    · cases h2
  · cases h1

theorem loadOk_uuid {P : Program} {t : TypeId} (h : uuOk P t = true) : loadOk P t .uuid = true := by
  obtain ⟨e, i, z, hu, hi, hs, _, _⟩ := uuOk_spec h
  simp [loadOk, hu, hi, hs]

def uuLoad (P : Program) (L : List Nat) (p : Nat) (T : Ty) (k : Nat) (c : Code) : Option Nat :=
  match canR c with
  | some ⟨[(.nilCheck (.tmp p2), _), (.fieldAddr tid (.tmp 1) k', _), (.load lt (.tmp 3), _), (.alloc at', _), (.store st (.tmp 7) (.tmp 5), _)], (v, 7) :: b⟩ =>
    match T.fld k with
    | some (ty', off) => if p2 == 2 * p && fieldOff P tid k' == some off && decide (ty' = .uuid) && uuOk P lt && at' == lt && st == lt && free L ((v, 7) :: b) then some v else none
    | none => none
  | _ => none

theorem OpK.allocArr {P : Program} {ρ : Operand → Value} {w : World} {K : Value → World → Prop} {d : Option Tmp} {tt t : TypeId} {pos : String} {af : Array Edge} {gd : Option (Nat × Bool)} {i : TypeInfo} {z : Value}
    (hi : P.info? t = some i) (hz : i.zero = some z) (h : K (.pointer (some ⟨w.heap.size, 0, none⟩)) (w.alloc (.cells z.cells t))) : OpK P ρ ⟨d, .alloc t, tt, pos, af, gd⟩ w K := by
  simp [OpK, execOp, Instr.alloc, zeroValue, typeInfo, hi, hz, newVar, newRow, After]
  exact h

theorem OpK.storeArr {P : Program} {ρ : Operand → Value} {w : World} {K : Value → World → Prop} {d : Option Tmp} {tt t : TypeId} {pos : String} {af : Array Edge} {gd : Option (Nat × Bool)} {x y : Operand} {c c' : Array Value}
    (hi : (P.info? t).map (·.size) = some c'.size) (ho : c.size = c'.size) (h1 : c'.all (·.oneCell') = true) (hx : ρ x = .pointer (some ⟨w.heap.size, 0, none⟩)) (hy : ρ y = .agg c')
    (h : K undef (w.alloc (.cells c' t))) : OpK P ρ ⟨d, .store t x y, tt, pos, af, gd⟩ (w.alloc (.cells c t)) K := by
  have hr := run_storeAt_new (P := P) w t c c' hi ho h1
  simp only [OpK, execOp, hx, hy, Sem.run_bind, hr, Result.andThen_ok, Sem.run_pure, After]
  exact h

theorem Grew.alloc {e : TypeId} {w0 w : World} {d0 d : Value} {bs : List UInt8} (h : Grew e w0 d0 w d bs) (o : Obj) : Grew e w0 d0 (w.alloc o) d bs :=
  ⟨h.own.keep fun k hk => alloc_old w o k (h.own.lt hk), h.ch.trans (Ch.alloc (fun _ => False) w o) fun _ _ h => h.elim, h.blk⟩

theorem rep_uuid {w : World} {S : Nat → Prop} {v : V} {cs : List Value} (h : Rep w S .uuid v cs) : ∃ l, v = .u l ∧ l.length = 16 ∧ cs = l.map bv := by
  cases v with
  | u l => exact ⟨l, rfl, h.1, h.2⟩
  | _ => exact h.elim

theorem uuLoad_sound {P : Program} {n : Nat} {L : List Nat} {p : Nat} {T : Ty} {k : Nat} {c : Code} {s : Nat} (h : uuLoad P L p T k c = some s) {rest : List Code} {σ : Fm} {w : World}
    {Q : Exit → Fm → World → Prop} {S : Nat → Prop} {g o : Nat} {v : V} (hp : σ p = .pointer (some ⟨g, o, none⟩)) (hi : Is w S g o T v)
    (hk : ∀ σ' l t, v.fld k = .u l → l.length = 16 → (∀ t ∈ L, σ' t = σ t) → σ' s = .pointer (some ⟨w.heap.size, 0, none⟩) → CWL P n rest σ' (w.alloc (.cells (l.map bv).toArray t)) Q) : CWL P n (c :: rest) σ w Q := by
  unfold uuLoad at h
  split at h
  · rename_i p2 ty1 tid k' ty2 lt ty3 at' ty4 st ty5 s' b hc
    split at h
    · rename_i ty' off hf
      split at h
      · rename_i hh
        simp only [Option.some.injEq] at h
        subst h
        simp only [Bool.and_eq_true, beq_iff_eq, decide_eq_true_eq] at hh
        obtain ⟨⟨⟨⟨⟨⟨rfl, hoff⟩, rfl⟩, hu⟩, rfl⟩, rfl⟩, hfree⟩ := hh
        obtain ⟨e, i, z, hund, hinf, hsz, hz, hzs⟩ := uuOk_spec hu
        refine CWL.reg hc ?_
        refine OpK.nilCheck (a := ⟨g, o, none⟩) (by simp only [ev_tmp, enF_two]; exact hp) ?_
        refine OpK.fieldAddr hoff (a := ⟨g, o, none⟩) (by simp [upd]) ?_
        refine OpK.loadKind (loadOk_uuid hu) (S := S) (g := g) (o := o + off) (v := v.fld k) (by simp [upd, add_at]) (hi.fld hf) fun cs hr => ?_
        obtain ⟨l, hl, h16, rfl⟩ := rep_uuid hr
        refine OpK.allocArr hinf hz ?_
        refine OpK.storeArr (c' := (l.map bv).toArray) (by simp [hinf, hsz, h16]) (by simp [hzs, h16]) ?_ (by simp [upd]) (by simp [upd, ldv]) ?_
        · rw [Array.all_eq_true']
          intro x hx
          simp only [List.mem_toArray, List.mem_map] at hx
          obtain ⟨b, _, rfl⟩ := hx
          rfl
        simp only [RC]
        refine hk _ l _ hl h16 (fun t ht => ?_) ?_
        · rw [outF_free hfree ht, upd_odd _ _ _ _ (by omega), upd_odd _ _ _ _ (by omega), upd_odd _ _ _ _ (by omega), upd_odd _ _ _ _ (by omega), upd_odd _ _ _ _ (by omega), enF_two]
        · rw [outF_head]; simp [upd]
      · cases h
    · cases h
  · cases h

def uuCall (P : Program) (tab : List (Nat × Ap)) (L : List Nat) (dst v : Nat) (c : Code) : Bool :=
  match canR c with
  | some ⟨[(.load lt (.tmp v2), _), (o1, _)], (d, 3) :: b⟩ => match asCall o1 with
    | some (f, [.tmp d2, .tmp 1]) => v2 == 2 * v && d2 == 2 * dst && d == dst && uuOk P lt && apAt tab f == some (.val false .uuid) && free L ((d, 3) :: b)
    | _ => false
  | _ => false

theorem uuCall_step {P : Program} {n : Nat} {e : TypeId} {w0 : World} {d0 : Value} {S : Nat → Prop} {full : Bool} {tab : List (Nat × Ap)} {L : List Nat} {dst s : Nat} {c : Code} {rest : List Code} (hs : Sound P e full tab) (hS : Clear w0 S d0)
    (h : uuCall P tab L dst s c = true) {l : List UInt8} (h16 : l.length = 16) {σ : Fm} {w : World} {bs : List UInt8} {Q : Exit → Fm → World → Prop} {g : Nat} (hp : σ s = .pointer (some ⟨g, 0, none⟩)) (ha : At w g 0 (l.map bv))
    (hg : Grew e w0 d0 w (σ dst) bs) (hl : bs.length + l.length ≤ Lim) (hk : ∀ σ' w', Grew e w0 d0 w' (σ' dst) (bs ++ l) → (∀ t ∈ L, σ' t = σ t) → CWL P n rest σ' w' Q) : CWL P n (c :: rest) σ w Q := by
  unfold uuCall at h
  split at h
  · rename_i lt v2 ty1 o1 ty2 d b hcan
    split at h
    · rename_i f d2 h1
      simp only [Bool.and_eq_true, beq_iff_eq] at h
      obtain ⟨⟨⟨⟨⟨rfl, rfl⟩, rfl⟩, hu⟩, hf⟩, hfree⟩ := h
      obtain ⟨hcall, hok⟩ := hs.ok _ _ hf
      have hrep : Rep w S .uuid (.u l) (l.map bv) := ⟨h16, rfl⟩
      refine CWL.reg hcan (OpK.loadKind (loadOk_uuid hu) (S := S) (g := g) (o := 0) (v := .u l) (by simp only [ev_tmp, enF_two]; exact hp) ⟨l.map bv, hrep, ha⟩ fun cs hr => ?_)
      obtain ⟨l', hl', _, rfl⟩ := rep_uuid hr
      cases hl'
      refine OpK.asCall h1 hcall rfl ?_
      have := hok w S (.u l) (l.map bv) (σ d) bs hrep hg.own (hS.step hg) hl
      simp only [List.map_cons, List.map_nil, ev_tmp]
      rw [show upd (enF σ) (some (2 * 0 + 1)) (ldv Ty.uuid (List.map bv l)) (2 * d) = σ d by rw [upd_odd _ _ _ _ (by omega), enF_two]]
      refine this.mono fun en w' ⟨d', he, hg'⟩ => ⟨d', he, hk _ w' ?_ fun t ht => ?_⟩
      · rw [outF_head]; simpa [upd, encW] using hg.trans hg'
      · rw [outF_free hfree ht, upd_odd _ _ _ _ (by omega), upd_odd _ _ _ _ (by omega), enF_two]
    · cases h
  · cases h

def uuBody (P : Program) (tab : List (Nat × Ap)) (x : Sl) (p : Nat) (T : Ty) (k : Nat) (L : List Nat) : List Code → Option (List Code)
  | c :: c2 :: rest => match uuLoad P (x.dst :: L) p T k c with
    | some v => if uuCall P tab L x.dst v c2 then some rest else none
    | none => none
  | _ => none

def valBody (P : Program) (tab : List (Nat × Ap)) (x : Sl) (p : Nat) (T : Ty) (k : Nat) (w : Wt) (L : List Nat) : List Code → Option (List Code)
  | c :: rest => if w = .uuid then uuBody P tab x p T k L (c :: rest) else match loadOf P (x.dst :: L) p T k w.ty c with
    | some v => chkOut P tab x L v w rest
    | none => none
  | [] => none

def arrHead (P : Program) (tab : List (Nat × Ap)) (x : Sl) (p : Nat) (T : Ty) (k : Nat) (nul : Bool) (e : Ty) (L : List Nat) : List Code → Option (Nat × Lp)
  | c :: rest => match loadOf P (x.dst :: L) p T k (.arr e) c with
    | some v => match chkLen P tab x L v nul rest with
      | some r2 => match chkLoop P L x.dst v r2 with
        | some lp => some (v, lp)
        | none => none
      | none => none
    | none => none
  | [] => none

def arrVBody (P : Program) (tab : List (Nat × Ap)) (x : Sl) (p : Nat) (T : Ty) (k : Nat) (nul : Bool) (w : Wt) (L : List Nat) (cs : List Code) : Option (List Code) :=
  match arrHead P tab x p T k nul w.ty L cs with
  | some (v, lp) => match flat lp.inner with
    | c1 :: c2 :: body => match idxOf (x.dst :: lp.ix :: lp.ln :: v :: L) lp.ix c1 with
      | some i => match elemLoad P (x.dst :: lp.ix :: lp.ln :: v :: L) v i w.ty c2 with
        | some u => match chkOut P tab x (lp.ix :: lp.ln :: v :: L) u w body with
          | some [] => some lp.rest
          | _ => none
        | none => none
      | none => none
    | _ => none
  | none => none

def arrSBody (P : Program) (tab : List (Nat × Ap)) (x : Sl) (p : Nat) (T : Ty) (k : Nat) (nul : Bool) (L : List Nat) (rec : Ty → Nat → List Nat → List Code → Option (List Code)) (cs : List Code) : Option (List Code) :=
  match T.fld k with
  | some (.arr e, _) => match arrHead P tab x p T k nul e L cs with
    | some (v, lp) => match flat lp.inner with
      | c1 :: c2 :: body => match idxOf (x.dst :: lp.ix :: lp.ln :: v :: L) lp.ix c1 with
        | some i => match elemAddr P (x.dst :: lp.ix :: lp.ln :: v :: L) v i e.size c2 with
          | some u => match rec e u (u :: lp.ix :: lp.ln :: v :: L) body with
            | some [] => some lp.rest
            | _ => none
          | none => none
        | none => none
      | _ => none
    | none => none
  | _ => none

def optBody (P : Program) (e : TypeId) (x : Sl) (p : Nat) (T : Ty) (k : Nat) (L : List Nat) (rec : Ty → Nat → List Nat → List Code → Option (List Code)) (cs : List Code) : Option (List Code) :=
  match T.fld k, cs with
  | some (.nst t, _), c :: rest => match loadOf P (x.dst :: L) p T k (.nst t) c with
    | some v => match nilOf P (x.dst :: v :: L) v rest with
      | some (A, B, r2) => match flat A, flat B with
        | [ca], cb :: body => if octOf P e (v :: L) x.dst 255 ca && octOf P e (v :: L) x.dst 1 cb then
            match rec t v (v :: L) body with
            | some [] => some r2
            | _ => none
          else none
        | _, _ => none
      | none => none
    | none => none
  | _, _ => none

def tagBody (P : Program) (tab : List (Nat × Ap)) (x : Sl) (p : Nat) (T : Ty) (k : Nat) (L : List Nat) (cs : List Code) : Option (List Code) :=
  match condFlex x L cs with
  | some (A, B, rest) => match flat A with
    | [c1, c2] => if (flat B).isEmpty && tagLen P tab L x.dst p T k c1 && tagEach P tab L x.dst p T k c2 then some rest else none
    | _ => none
  | none => none

def appS (P : Program) (tab : List (Nat × Ap)) (e : TypeId) (x : Sl) : Sch → Ty → Nat → List Nat → List Code → Option (List Code)
  | .nil, _, _, _, cs => some cs
  | .val c k w r, T, p, L, cs => match withVc x L c (valBody P tab x p T k w L) cs with
    | some cs' => appS P tab e x r T p L cs'
    | none => none
  | .arrV c k nul w r, T, p, L, cs => match withVc x L c (arrVBody P tab x p T k nul.isSome w L) cs with
    | some cs' => appS P tab e x r T p L cs'
    | none => none
  | .arrS c k nul _ s r, T, p, L, cs => match withVc x L c (arrSBody P tab x p T k nul.isSome L (fun T' p' L' cs' => appS P tab e x s T' p' L' cs')) cs with
    | some cs' => appS P tab e x r T p L cs'
    | none => none
  | .opt c k _ s r, T, p, L, cs => match withVc x L c (optBody P e x p T k L (fun T' p' L' cs' => appS P tab e x s T' p' L' cs')) cs with
    | some cs' => appS P tab e x r T p L cs'
    | none => none
  | .tags k r, T, p, L, cs => match tagBody P tab x p T k L cs with
    | some cs' => appS P tab e x r T p L cs'
    | none => none

/-- What the slots hold while a part is written. -/
structure Pr (x : Sl) (ver : Int) (fx : Bool) (p g o : Nat) (σ : Fm) : Prop where
  ver : σ x.ver = .int .i16 ver
  flx : Flx x fx σ
  ptr : σ p = .pointer (some ⟨g, o, none⟩)

theorem Pr.keep {x : Sl} {ver : Int} {fx : Bool} {p g o : Nat} {σ σ' : Fm} {L : List Nat} (h : Pr x ver fx p g o σ) (hv : x.ver ∈ L) (hf : ∀ t, x.flx = some t → t ∈ L) (hp : p ∈ L) (he : ∀ t ∈ L, σ' t = σ t) : Pr x ver fx p g o σ' :=
  ⟨(he _ hv).trans h.ver, fun t ht => (he t (hf t ht)).trans (h.flx t ht), (he _ hp).trans h.ptr⟩

section
variable {P : Program} {n : Nat} {e : TypeId} {w0 : World} {d0 : Value} {S : Nat → Prop} {full : Bool} {tab : List (Nat × Ap)} {x : Sl} {ver : Int} {fx : Bool}

theorem valBody_step (hs : Sound P e full tab) (hS : Clear w0 S d0) (hfx : x.flx = none → fx = false) {p g o k : Nat} {T : Ty} {w : Wt} {L : List Nat} {v : V} {cs rest : List Code} (hi : Is w0 S g o T v) (hg : S g)
    (hF : ∀ t, x.flx = some t → t ∈ L) (h : valBody P tab x p T k w L cs = some rest) : Step P n e w0 d0 x.dst L (Pr x ver fx p g o) cs rest (encW fx w (v.fld k)) := by
  intro σ w1 bs Q hp hgr hl hk
  unfold valBody at h
  split at h
  · rename_i c rest'
    split at h
    · rename_i hw
      subst hw
      unfold uuBody at h
      split at h
      · rename_i c1 c2 rest2 he
        split at h
        · rename_i s hl1
          split at h
          · rename_i hcall
            simp only [Option.some.injEq] at h
            subst h
            obtain ⟨rfl, rfl⟩ := List.cons.inj he
            refine uuLoad_sound hl1 hp.ptr (hi.keep (hS.keep hgr) hg) fun σ1 l t hv h16 he1 hs1 => ?_
            rw [hv] at hl hk
            refine uuCall_step hs hS hcall h16 hs1 (fun i u hu => ?_) (by rw [he1 _ (by simp)]; exact hgr.alloc _) hl fun σ2 w2 hg2 he2 => ?_
            · have := (Blk.new w1 t (l.map bv)).cell i
              rw [Nat.zero_add, this, hu]
            · exact hk σ2 w2 hg2 fun t ht => (he2 t ht).trans (he1 t (List.mem_cons_of_mem _ ht))
          · cases h
        · cases h
      · cases h
    split at h
    · rename_i s hl1
      refine loadOf_sound hl1 hp.ptr (hi.keep (hS.keep hgr) hg) fun σ1 he1 ⟨cs1, hr1, hv1⟩ => ?_
      -- the cells say the same in the world where the writing began
      have hrep : Has w0 S w.ty (v.fld k) s σ1 := by
        obtain ⟨cs2, hr2, hv2⟩ : ∃ cs, Rep w0 S w.ty (v.fld k) cs ∧ σ1 s = ldv w.ty cs := ⟨cs1, hr1.keep (fun k hk => (hS.keep hgr k hk).symm), hv1⟩
        exact ⟨cs2, hr2, hv2⟩
      refine chkOut_step hs hS hfx h σ1 w1 bs Q ⟨fun t ht => (he1 t (List.mem_cons_of_mem _ (hF t ht))).trans (hp.flx t ht), hrep⟩ (by rw [he1 _ (by simp)]; exact hgr) hl fun σ2 w2 hg2 he2 => ?_
      exact hk σ2 w2 hg2 fun t ht => (he2 t ht).trans (he1 t (List.mem_cons_of_mem _ ht))
    · cases h
  · cases h

/-- The head of a list: the count is written, then round for round. -/
theorem arrHead_step (hs : Sound P e full tab) (hS : Clear w0 S d0) (hfx : x.flx = none → fx = false) {p g o k : Nat} {T t : Ty} {nul : Bool} {L : List Nat} {v : V} {cs : List Code} {s : Nat} {lp : Lp} (hi : Is w0 S g o T v) (hg : S g)
    (hV : x.ver ∈ L) (hF : ∀ t, x.flx = some t → t ∈ L) (hpL : p ∈ L) (h : arrHead P tab x p T k nul t L cs = some (s, lp)) (f : V → List UInt8)
    (hin : ∀ (i : Nat) (u : V) (g' N cc : Nat), (v.fld k).elems[i]? = some u → S g' → Is w0 S g' (i * t.size) t u → i < N →
      Step P n e w0 d0 x.dst (lp.ix :: lp.ln :: s :: L) (fun σ => Pr x ver fx p g o σ ∧ σ s = .slice (some ⟨g', 0, none⟩) N cc ∧ σ lp.ix = .int .i64 (i : Int)) (flat lp.inner) [] (f u)) :
    Step P n e w0 d0 x.dst L (Pr x ver fx p g o) cs lp.rest (encLen fx nul (v.fld k) ++ (v.fld k).elems.flatMap f) := by
  intro σ w1 bs Q hp hgr hl hk
  unfold arrHead at h
  split at h
  · rename_i c rest'
    split at h
    · rename_i s' hl1
      split at h
      · rename_i r2 hlen
        split at h
        · rename_i lp' hlp
          simp only [Option.some.injEq, Prod.mk.injEq] at h
          obtain ⟨rfl, rfl⟩ := h
          refine loadOf_sound hl1 hp.ptr (hi.keep (hS.keep hgr) hg) fun σ1 he1 ⟨cs1, hr1, hv1⟩ => ?_
          have hr0 : Rep w0 S (.arr t) (v.fld k) cs1 := hr1.keep (fun k hk => (hS.keep hgr k hk).symm)
          obtain ⟨a, cc, hval, hnil, hmax, hel⟩ := rep_arr hr0
          have hp1 : Pr x ver fx p g o σ1 := hp.keep hV hF hpL fun t ht => he1 t (List.mem_cons_of_mem _ ht)
          rw [List.length_append] at hl
          refine chkLen_step (t := t) (v := v.fld k) (S := S) hs hfx hlen σ1 w1 bs Q ⟨hp1.flx, cs1, hr0, hv1⟩ (by rw [he1 _ (by simp)]; exact hgr) (by omega) fun σ2 w2 hg2 he2 => ?_
          have hstep := chkLoop_step (P := P) (n := n) (e := e) (w0 := w0) (d0 := d0) (Pre := fun σ => Pr x ver fx p g o σ ∧ σ s' = .slice a (v.fld k).elems.length cc) hlp (v.fld k).elems hmax f
            (fun σ σ' hpp he => ⟨hpp.1.keep (L := s' :: L) (List.mem_cons_of_mem _ hV) (fun t ht => List.mem_cons_of_mem _ (hF t ht)) (List.mem_cons_of_mem _ hpL) he, (he _ (by simp)).trans hpp.2⟩)
            (fun σ hpp => ⟨a, cc, hpp.2⟩)
            (fun i u hu => by
              obtain ⟨g', ha, hg', hiu⟩ := hel i u hu
              subst ha
              exact (hin i u g' _ cc hu hg' hiu (List.getElem?_eq_some_iff.1 hu).1).pre fun σ hpp => ⟨hpp.1.1, hpp.1.2, hpp.2⟩)
          refine hstep σ2 w2 _ Q ⟨hp1.keep (L := s' :: L) (List.mem_cons_of_mem _ hV) (fun t ht => List.mem_cons_of_mem _ (hF t ht)) (List.mem_cons_of_mem _ hpL) he2, ?_⟩ hg2 (by rw [List.length_append]; omega) fun σ3 w3 hg3 he3 => ?_
          · rw [he2 _ (by simp), hv1, hval]
          · refine hk σ3 w3 (by rw [← List.append_assoc]; exact hg3) fun t ht => (he3 t ht).trans ((he2 t (List.mem_cons_of_mem _ ht)).trans (he1 t (List.mem_cons_of_mem _ ht)))
        · cases h
      · cases h
    · cases h
  · cases h

theorem arrVBody_step (hs : Sound P e full tab) (hS : Clear w0 S d0) (hfx : x.flx = none → fx = false) {p g o k : Nat} {T : Ty} {nul : Bool} {w : Wt} {L : List Nat} {v : V} {cs rest : List Code} (hi : Is w0 S g o T v) (hg : S g)
    (hV : x.ver ∈ L) (hF : ∀ t, x.flx = some t → t ∈ L) (hpL : p ∈ L) (h : arrVBody P tab x p T k nul w L cs = some rest) :
    Step P n e w0 d0 x.dst L (Pr x ver fx p g o) cs rest (encLen fx nul (v.fld k) ++ (v.fld k).elems.flatMap (encW fx w)) := by
  unfold arrVBody at h
  split at h
  · rename_i s lp hh
    split at h
    · rename_i c1 c2 body hin
      split at h
      · rename_i i hix
        split at h
        · rename_i u hel
          split at h
          · rename_i hout
            simp only [Option.some.injEq] at h
            subst h
            refine arrHead_step hs hS hfx hi hg hV hF hpL hh (encW fx w) fun j uu g' N cc hu hg' hiu hj => ?_
            rw [hin]
            intro σ w1 bs Q ⟨hp, hsl, hixv⟩ hgr hl hk
            refine idxOf_sound hix fun σ1 he1 hi1 => ?_
            have hS' := he1 s (by simp)
            refine elemLoad_sound hel (S := S) (g := g') (N := N) (cc := cc) (j := j) (x := uu) (hS'.trans hsl) (hi1.trans hixv) hj (hiu.keep (hS.keep hgr) hg') fun σ2 he2 ⟨cs2, hr2, hv2⟩ => ?_
            have hk2 : ∀ t ∈ x.dst :: lp.ix :: lp.ln :: s :: L, σ2 t = σ t := fun t ht => (he2 t ht).trans (he1 t ht)
            refine chkOut_step hs hS hfx hout σ2 w1 bs Q ⟨fun t ht => (hk2 t (by simp [hF t ht])).trans (hp.flx t ht), cs2, hr2.keep (fun k hk => (hS.keep hgr k hk).symm), hv2⟩ (by rw [hk2 _ (by simp)]; exact hgr) hl fun σ3 w3 hg3 he3 => ?_
            exact hk σ3 w3 hg3 fun t ht => (he3 t ht).trans (hk2 t (List.mem_cons_of_mem _ ht))
          · cases h
        · cases h
      · cases h
    · cases h
  · cases h

theorem arrSBody_step (hs : Sound P e full tab) (hS : Clear w0 S d0) (hfx : x.flx = none → fx = false) {p g o k : Nat} {T : Ty} {nul : Bool} {L : List Nat} {v : V} {cs rest : List Code} {rec : Ty → Nat → List Nat → List Code → Option (List Code)} {f : V → List UInt8} {nt : V → Prop}
    (hi : Is w0 S g o T v) (hg : S g) (hV : x.ver ∈ L) (hF : ∀ t, x.flx = some t → t ∈ L) (hpL : p ∈ L) (hnt : ∀ (i : Nat) (u : V), (v.fld k).elems[i]? = some u → nt u) (h : arrSBody P tab x p T k nul L rec cs = some rest)
    (hrec : ∀ {t : Ty} {p' g' o' : Nat} {L' : List Nat} {cs' rest' : List Code} {u : V}, rec t p' L' cs' = some rest' → p' ∈ L' → x.ver ∈ L' → (∀ t, x.flx = some t → t ∈ L') → Is w0 S g' o' t u → S g' → nt u →
      Step P n e w0 d0 x.dst L' (Pr x ver fx p' g' o') cs' rest' (f u)) :
    Step P n e w0 d0 x.dst L (Pr x ver fx p g o) cs rest (encLen fx nul (v.fld k) ++ (v.fld k).elems.flatMap f) := by
  unfold arrSBody at h
  split at h
  · rename_i t off hfld
    split at h
    · rename_i s lp hh
      split at h
      · rename_i c1 c2 body hin
        split at h
        · rename_i i hix
          split at h
          · rename_i u hel
            split at h
            · rename_i hout
              simp only [Option.some.injEq] at h
              subst h
              refine arrHead_step hs hS hfx hi hg hV hF hpL hh f fun j uu g' N cc hu hg' hiu hj => ?_
              rw [hin]
              intro σ w1 bs Q ⟨hp, hsl, hixv⟩ hgr hl hk
              refine idxOf_sound hix fun σ1 he1 hi1 => ?_
              have hS' := he1 s (by simp)
              refine elemAddr_sound hel (g := g') (N := N) (cc := cc) (j := j) (hS'.trans hsl) (hi1.trans hixv) hj fun σ2 he2 hu2 => ?_
              have hk2 : ∀ t ∈ x.dst :: lp.ix :: lp.ln :: s :: L, σ2 t = σ t := fun t ht => (he2 t ht).trans (he1 t ht)
              have hVL : x.ver ∈ x.dst :: lp.ix :: lp.ln :: s :: L := by simp [hV]
              refine hrec hout (by simp) (by simp [hV]) (fun t ht => by simp [hF t ht]) hiu hg' (hnt j uu hu) σ2 w1 bs Q
                ⟨(hk2 _ hVL).trans hp.ver, fun t ht => (hk2 t (by simp [hF t ht])).trans (hp.flx t ht), hu2⟩ (by rw [hk2 _ (by simp)]; exact hgr) hl fun σ3 w3 hg3 he3 => ?_
              exact hk σ3 w3 hg3 fun t ht => (he3 t (List.mem_cons_of_mem _ ht)).trans (hk2 t (List.mem_cons_of_mem _ ht))
            · cases h
          · cases h
        · cases h
      · cases h
    · cases h
  · cases h

theorem optBody_step (hs : Sound P e full tab) (hS : Clear w0 S d0) {p g o k : Nat} {T : Ty} {L : List Nat} {v : V} {cs rest : List Code} {rec : Ty → Nat → List Nat → List Code → Option (List Code)} {f : V → List UInt8} {nt : V → Prop}
    (hi : Is w0 S g o T v) (hg : S g) (hV : x.ver ∈ L) (hF : ∀ t, x.flx = some t → t ∈ L) (hpL : p ∈ L) (hnt : ∀ u, v.fld k = .nst u → nt u) (h : optBody P e x p T k L rec cs = some rest)
    (hrec : ∀ {t : Ty} {p' g' o' : Nat} {L' : List Nat} {cs' rest' : List Code} {u : V}, rec t p' L' cs' = some rest' → p' ∈ L' → x.ver ∈ L' → (∀ t, x.flx = some t → t ∈ L') → Is w0 S g' o' t u → S g' → nt u →
      Step P n e w0 d0 x.dst L' (Pr x ver fx p' g' o') cs' rest' (f u)) :
    Step P n e w0 d0 x.dst L (Pr x ver fx p g o) cs rest (match v.fld k with | .nst u => 1 :: f u | _ => [255]) := by
  intro σ w1 bs Q hp hgr hl hk
  unfold optBody at h
  split at h
  · rename_i t off c rest' hfld
    split at h
    · rename_i s hl1
      split at h
      · rename_i A B r2 hnil
        split at h
        · rename_i ca cb body hA hB
          split at h
          · rename_i hoct
            split at h
            · rename_i hout
              simp only [Option.some.injEq] at h
              subst h
              simp only [Bool.and_eq_true] at hoct
              refine loadOf_sound hl1 hp.ptr (hi.keep (hS.keep hgr) hg) fun σ1 he1 ⟨cs1, hr1, hv1⟩ => ?_
              have hr0 : Rep w0 S (.nst t) (v.fld k) cs1 := hr1.keep (fun k hk => (hS.keep hgr k hk).symm)
              have hp1 : Pr x ver fx p g o σ1 := hp.keep hV hF hpL fun t ht => he1 t (List.mem_cons_of_mem _ ht)
              cases hfv : v.fld k with
              | nstN =>
                rw [hfv] at hr0 hl hk
                simp only [Rep] at hr0
                subst hr0
                simp only [ldv, List.headD_cons] at hv1
                refine nilOf_sound hnil hv1 fun σ2 he2 => ?_
                simp only [Option.isNone_none, if_true, hA]
                refine (octOf_step (Pre := fun _ => True) hs.u8 hoct.1).inner trivial (by rw [he2 _ (by simp), he1 _ (by simp)]; exact hgr) hl fun σ3 w3 hg3 he3 => ?_
                exact hk σ3 w3 hg3 fun t ht => (he3 t (List.mem_cons_of_mem _ ht)).trans ((he2 t (by simp [ht])).trans (he1 t (List.mem_cons_of_mem _ ht)))
              | nst u =>
                rw [hfv] at hr0 hl hk
                simp only [Rep] at hr0
                obtain ⟨g', ci, rfl, hg', hru, hnu, hau⟩ := hr0
                simp only [ldv, List.headD_cons] at hv1
                refine nilOf_sound hnil hv1 fun σ2 he2 => ?_
                simp only [Option.isNone_some, Bool.false_eq_true, if_false, hB]
                have hk2 : ∀ t ∈ x.dst :: L, σ2 t = σ t := fun t ht => (he2 t (by simp at ht ⊢; rcases ht with h | h <;> simp [h])).trans (he1 t ht)
                have hs2 : σ2 s = .pointer (some ⟨g', 0, none⟩) := (he2 _ (by simp)).trans hv1
                simp only [List.length_cons] at hl
                refine octOf_step (Pre := fun _ => True) hs.u8 hoct.2 σ2 w1 bs _ trivial (by rw [hk2 _ (by simp)]; exact hgr) (by simp; omega) fun σ3 w3 hg3 he3 => ?_
                have hk3 : ∀ t ∈ L, σ3 t = σ t := fun t ht => (he3 t (List.mem_cons_of_mem _ ht)).trans (hk2 t (List.mem_cons_of_mem _ ht))
                refine (hrec hout (by simp) (List.mem_cons_of_mem _ hV) (fun t ht => List.mem_cons_of_mem _ (hF t ht)) ⟨ci, hru, hau⟩ hg' (hnt u hfv)).inner
                  ⟨(hk3 _ hV).trans hp.ver, fun t ht => (hk3 t (hF t ht)).trans (hp.flx t ht), (he3 _ (by simp)).trans hs2⟩ hg3 (by simp; omega) fun σ4 w4 hg4 he4 => ?_
                exact hk σ4 w4 (by simpa using hg4) fun t ht => (he4 t (List.mem_cons_of_mem _ ht)).trans (hk3 t ht)
              | _ => rw [hfv] at hr0; exact hr0.elim
            · cases h
          · cases h
        · cases h
      · cases h
    · cases h
  · cases h

theorem tagBody_step (hs : Sound P e full tab) (hS : Clear w0 S d0) {p g o k : Nat} {T : Ty} {L : List Nat} {v : V} {cs rest : List Code} (hft : full = true ∨ (v.fld k).tagsOf = []) (hi : Is w0 S g o T v) (hg : S g)
    (hV : x.ver ∈ L) (hF : ∀ t, x.flx = some t → t ∈ L) (hpL : p ∈ L) (h : tagBody P tab x p T k L cs = some rest) :
    Step P n e w0 d0 x.dst L (Pr x ver fx p g o) cs rest (if fx then encTags (v.fld k) else []) := by
  intro σ w1 bs Q hp hgr hl hk
  unfold tagBody at h
  split at h
  · rename_i A B rest' hc
    split at h
    · rename_i c1 c2 hA
      split at h
      · rename_i hh
        simp only [Option.some.injEq] at h
        subst h
        simp only [Bool.and_eq_true, List.isEmpty_iff] at hh
        obtain ⟨⟨hB, h1⟩, h2⟩ := hh
        refine condFlex_sound hc hp.flx fun σ1 hd hL => ?_
        cases fx
        · simp only [Bool.false_eq_true, if_false, hB, List.append_nil] at hk ⊢
          exact hk σ1 w1 (by rw [hd]; exact hgr) hL
        · simp only [if_true, hA] at hk hl ⊢
          unfold encTags at hk hl
          rw [List.length_append] at hl
          refine tagLen_step hft hs hS hi hg h1 σ1 w1 bs _ ((hL _ hpL).trans hp.ptr) (by rw [hd]; exact hgr) (by omega) fun σ2 w2 hg2 he2 => ?_
          refine tagEach_step hft hs hS hi hg h2 σ2 w2 _ _ ((he2 _ hpL).trans ((hL _ hpL).trans hp.ptr)) hg2 (by rw [List.length_append]; omega) fun σ3 w3 hg3 he3 => ?_
          exact hk σ3 w3 (by rw [← List.append_assoc]; exact hg3) fun t ht => (he3 t ht).trans ((he2 t ht).trans (hL t ht))
      · cases h
    · cases h
  · cases h

/-- All fields of a part. -/
theorem appS_step (hs : Sound P e full tab) (hS : Clear w0 S d0) (hfx : x.flx = none → fx = false) (s : Sch) : ∀ {T : Ty} {p g o : Nat} {L : List Nat} {v : V} {cs rest : List Code}, appS P tab e x s T p L cs = some rest →
    p ∈ L → x.ver ∈ L → (∀ t, x.flx = some t → t ∈ L) → Is w0 S g o T v → S g → (full = true ∨ noTags s v) → Step P n e w0 d0 x.dst L (Pr x ver fx p g o) cs rest (enc ver fx s v) := by
  induction s with
  | nil =>
    intro T p g o L v cs rest h hp hV hF hi hg hft
    simp only [appS, Option.some.injEq] at h
    subst h
    exact Step.refl rfl
  | val c k w r ih =>
    intro T p g o L v cs rest h hp hV hF hi hg hft
    simp only [appS] at h
    split at h
    · rename_i cs' hc
      exact (withVc_step hc (fun σ σ' hpp he => hpp.keep hV hF hp he) (fun σ hpp => hpp.ver) (fun cs rest hb => valBody_step hs hS hfx hi hg hF hb)).trans (ih h hp hV hF hi hg (hft.imp id fun h => h)) fun σ σ' hpp he => hpp.keep hV hF hp he
    · cases h
  | arrV c k nul w r ih =>
    intro T p g o L v cs rest h hp hV hF hi hg hft
    simp only [appS] at h
    split at h
    · rename_i cs' hc
      exact (withVc_step hc (fun σ σ' hpp he => hpp.keep hV hF hp he) (fun σ hpp => hpp.ver) (fun cs rest hb => arrVBody_step hs hS hfx hi hg hV hF hp hb)).trans (ih h hp hV hF hi hg (hft.imp id fun h => h)) fun σ σ' hpp he => hpp.keep hV hF hp he
    · cases h
  | arrS c k nul d s r ihs ih =>
    intro T p g o L v cs rest h hp hV hF hi hg hft
    simp only [appS] at h
    split at h
    · rename_i cs' hc
      exact (withVc_step hc (fun σ σ' hpp he => hpp.keep hV hF hp he) (fun σ hpp => hpp.ver) (fun cs rest hb => arrSBody_step (nt := fun u => full = true ∨ noTags s u) hs hS hfx hi hg hV hF hp (fun i u hu => hft.imp id fun h => h.1 i u hu) hb (fun h1 h2 h3 h4 h5 h6 h7 => ihs h1 h2 h3 h4 h5 h6 h7))).trans (ih h hp hV hF hi hg (hft.imp id fun h => h.2))
        fun σ σ' hpp he => hpp.keep hV hF hp he
    · cases h
  | opt c k d s r ihs ih =>
    intro T p g o L v cs rest h hp hV hF hi hg hft
    simp only [appS] at h
    split at h
    · rename_i cs' hc
      exact (withVc_step hc (fun σ σ' hpp he => hpp.keep hV hF hp he) (fun σ hpp => hpp.ver) (fun cs rest hb => optBody_step (nt := fun u => full = true ∨ noTags s u) hs hS hi hg hV hF hp (fun u hu => hft.imp id fun h => h.1 u hu) hb (fun h1 h2 h3 h4 h5 h6 h7 => ihs h1 h2 h3 h4 h5 h6 h7))).trans (ih h hp hV hF hi hg (hft.imp id fun h => h.2))
        fun σ σ' hpp he => hpp.keep hV hF hp he
    · cases h
  | tags k r ih =>
    intro T p g o L v cs rest h hp hV hF hi hg hft
    simp only [appS] at h
    split at h
    · rename_i cs' hc
      exact (tagBody_step hs hS (hft.imp id fun h => h.1) hi hg hV hF hp hc).trans (ih h hp hV hF hi hg (hft.imp id fun h => h.2)) fun σ σ' hpp he => hpp.keep hV hF hp he
    · cases h
end

end Go.Kx

/- A whole function that writes a message. -/
namespace Go.Kx
open Go.RowKit
set_option linter.unusedSimpArgs false
set_option linter.unusedVariables false

def endOf (r dst : Nat) (cs : List Code) : Bool :=
  match cs with
  | [c, .ret] => match canR c with
    | some ⟨[], (r', s) :: _⟩ => r' == r && s == 2 * dst
    | _ => false
  | _ => false

def flexOf (L : List Nat) (ver : Nat) (m : Int) (c : Code) : Option Nat :=
  match canR c with
  | some ⟨[(.binOp .geq _ (.tmp v2) (.const (.int .i16 m')) _, _)], (fl, 1) :: b⟩ => if v2 == 2 * ver && m == m' && free L ((fl, 1) :: b) then some fl else none
  | _ => none

def resTmp (fn : Func) : Option Nat := match fn.results.toList with | [.tmp t] => some t | _ => none

/-- T: the struct; s: its fields; ff: from which version on the message is flexible. -/
def chkApp (P : Program) (tab : List (Nat × Ap)) (e : TypeId) (fn : Func) (T : Ty) (s : Sch) (ff : Option Int) : Bool :=
  match fn.body, resTmp fn with
  | some c, some r => fits fn.ntmps c && Nat.ble 2 fn.ntmps && match flat c with
    | c0 :: c1 :: c2 :: rest => isIdle [0, 1] c0 && match loadOf P [1, 0] 0 T 0 (.int .i16) c1 with
      | some ver => isIdle [0, 1, ver] c2 && match ff, rest with
        | none, _ => (match appS P tab e ⟨ver, none, 1⟩ s T 0 [0, ver] rest with
          | some l => endOf r 1 l
          | none => false)
        | some m, c3 :: c4 :: rest' => (match flexOf [0, 1, ver] ver m c3 with
          | some fl => isIdle [0, 1, ver, fl] c4 && (match appS P tab e ⟨ver, some fl, 1⟩ s T 0 [0, ver, fl] rest' with
            | some l => endOf r 1 l
            | none => false)
          | none => false)
        | _, _ => false
      | none => false
    | _ => false
  | _, _ => false

theorem endOf_sound {P : Program} {fn : Func} {n r dst : Nat} {cs : List Code} (h : endOf r dst cs = true) (hr : resTmp fn = some r) {σ : Fm} {w : World} {R : Value → World → Prop} (hR : R (σ dst) w) :
    CWL P n cs σ w (Ends fn R) := by
  unfold endOf at h
  split at h
  · rename_i c
    split at h
    · rename_i r' s b hc
      simp only [Bool.and_eq_true, beq_iff_eq] at h
      obtain ⟨rfl, rfl⟩ := h
      refine CWL.reg hc ?_
      simp only [RC]
      refine CWL.cons (CW.ret ?_)
      simp only [Then, Ends]
      unfold resTmp at hr
      split at hr
      · rename_i t ht
        simp only [Option.some.injEq] at hr
        subst hr
        refine ⟨_, by simp only [resOf, ht]; rfl, ?_⟩
        rw [outF_head, enF_two]
        exact hR
      · cases hr
    · cases h
  · cases h

theorem flexOf_sound {P : Program} {n : Nat} {L : List Nat} {ver fl : Nat} {m : Int} {c : Code} (h : flexOf L ver m c = some fl) {rest : List Code} {σ : Fm} {w : World} {Q : Exit → Fm → World → Prop} {v : Int}
    (hv : σ ver = .int .i16 v) (hk : ∀ σ', (∀ t ∈ L, σ' t = σ t) → σ' fl = .bool (decide (v ≥ m)) → CWL P n rest σ' w Q) : CWL P n (c :: rest) σ w Q := by
  unfold flexOf at h
  split at h
  · rename_i t1 v2 m' t2 ty fl' b hc
    split at h
    · rename_i hh
      simp only [Option.some.injEq] at h
      subst h
      simp only [Bool.and_eq_true, beq_iff_eq] at hh
      obtain ⟨⟨rfl, rfl⟩, hfree⟩ := hh
      refine CWL.reg hc (OpK.cmp (op := .geq) (k := .i16) (a := v) (b := m) rfl (by simp only [ev_tmp, enF_two]; exact hv) rfl ?_)
      simp only [RC]
      refine hk _ (fun t ht => ?_) (by rw [outF_head]; simp [upd])
      rw [outF_free hfree ht, upd_odd _ _ _ _ (by omega), enF_two]
    · cases h
  · cases h

/-- Is a message flexible at a version? -/
def flexAt (ff : Option Int) (ver : Int) : Bool := match ff with | some m => decide (ver ≥ m) | none => false

/-- What passes the check writes what 'enc' says. -/
theorem chkApp_calls {P : Program} {full : Bool} {tab : List (Nat × Ap)} {e : TypeId} {f : FuncId} {fn : Func} {T : Ty} {s : Sch} {ff : Option Int} (hs : Sound P e full tab) (hf : P.funcs[f]? = some fn) (h : chkApp P tab e fn T s ff = true)
    {w : World} {S : Nat → Prop} {g o : Nat} {v : V} {ver : Int} {d : Value} {bs : List UInt8} (hft : full = true ∨ noTags s v) (hi : Is w S g o T v) (hg : S g) (hver : v.fld 0 = .i ver) (hd : Own e w d bs) (hS : Clear w S d)
    (hl : bs.length + (enc ver (flexAt ff ver) s v).length ≤ Lim) :
    Calls P f #[.pointer (some ⟨g, o, none⟩), d] w fun en w' => ∃ d', en = .returned d' ∧ Grew e w d w' d' (bs ++ enc ver (flexAt ff ver) s v) := by
  unfold chkApp at h
  split at h
  · rename_i c r hb hr
    simp only [Bool.and_eq_true] at h
    obtain ⟨⟨hfit, hn⟩, h⟩ := h
    refine Calls.of_CW hf hb hfit (by simpa using hn) (CW.of_flat ?_)
    split at h
    · rename_i c0 c1 c2 rest hflat
      rw [hflat]
      simp only [Bool.and_eq_true] at h
      obtain ⟨h0, h⟩ := h
      refine CWL.idle h0 fun σ0 he0 => ?_
      have hp0 : σ0 0 = .pointer (some ⟨g, o, none⟩) := (he0 0 (by simp)).trans rfl
      have hd0 : σ0 1 = d := (he0 1 (by simp)).trans rfl
      split at h
      · rename_i ver' hl1
        simp only [Bool.and_eq_true] at h
        obtain ⟨h2, h⟩ := h
        refine loadOf_sound hl1 hp0 hi fun σ1 he1 ⟨cs1, hr1, hv1⟩ => ?_
        rw [hver] at hr1
        obtain ⟨rfl, _⟩ : cs1 = [.int .i16 ver] ∧ _ := hr1
        have hv1' : σ1 ver' = .int .i16 ver := hv1
        refine CWL.idle h2 fun σ2 he2 => ?_
        have hp2 : σ2 0 = .pointer (some ⟨g, o, none⟩) := (he2 0 (by simp)).trans ((he1 0 (by simp)).trans hp0)
        have hd2 : σ2 1 = d := (he2 1 (by simp)).trans ((he1 1 (by simp)).trans hd0)
        have hv2 : σ2 ver' = .int .i16 ver := (he2 ver' (by simp)).trans hv1'
        split at h
        · split at h
          · rename_i l hap
            have hst := appS_step (n := fn.ntmps) (ver := ver) (fx := false) hs hS (fun _ => rfl) s hap (by simp) (by simp) (fun t ht => by cases ht) hi hg hft
            refine hst σ2 w bs _ ⟨hv2, (fun t ht => by cases ht), hp2⟩ (by rw [hd2]; exact Grew.refl hd) hl fun σ3 w3 hg3 he3 => ?_
            exact endOf_sound h hr hg3
          · cases h
        · rename_i m c3 c4 rest'
          split at h
          · rename_i fl hfl
            simp only [Bool.and_eq_true] at h
            obtain ⟨h4, h⟩ := h
            refine flexOf_sound hfl hv2 fun σ3 he3 hfl3 => ?_
            refine CWL.idle h4 fun σ4 he4 => ?_
            have hp4 : σ4 0 = .pointer (some ⟨g, o, none⟩) := (he4 0 (by simp)).trans ((he3 0 (by simp)).trans hp2)
            have hd4 : σ4 1 = d := (he4 1 (by simp)).trans ((he3 1 (by simp)).trans hd2)
            have hv4 : σ4 ver' = .int .i16 ver := (he4 ver' (by simp)).trans ((he3 ver' (by simp)).trans hv2)
            have hf4 : σ4 fl = .bool (decide (ver ≥ m)) := (he4 fl (by simp)).trans hfl3
            split at h
            · rename_i l hap
              have hst := appS_step (n := fn.ntmps) (ver := ver) (fx := decide (ver ≥ m)) hs hS (fun hx => by cases hx) s hap (by simp) (by simp) (fun t ht => by cases ht; simp) hi hg hft
              refine hst σ4 w bs _ ⟨hv4, (fun t ht => by cases ht; exact hf4), hp4⟩ (by rw [hd4]; exact Grew.refl hd) hl fun σ5 w5 hg5 he5 => ?_
              exact endOf_sound h hr hg5
            · cases h
          · cases h
        · cases h
      · cases h
    · cases h
  · cases h

end Go.Kx

/- Octets of numbers: plain lemmas that the writing functions want. -/
namespace Go.Kx
open Go.RowKit
set_option linter.unusedSimpArgs false
set_option linter.unusedVariables false

theorem byteAt_toNat (n : Int) (i : Nat) : ((byteAt n i).toNat : Int) = (n / (256 ^ i : Nat)) % 256 := by
  have h0 : 0 ≤ (n / (256 ^ i : Nat)) % 256 := Int.emod_nonneg _ (by omega)
  have h1 : (n / (256 ^ i : Nat)) % 256 < 256 := Int.emod_lt_of_pos _ (by omega)
  unfold byteAt
  generalize (n / (256 ^ i : Nat)) % 256 = m at h0 h1 ⊢
  rw [UInt8.toNat_ofNat']
  omega

/-- The i-th octet as the code has it: shifted, cut to eight bits. -/
theorem oct_shr (n : Int) (i j : Nat) (h : j = 8 * i) : (Value.int .u8 (IntKind.u8.wrap (n / 2 ^ j)) : Value) = bv (byteAt n i) := by
  unfold bv
  rw [byteAt_toNat, IntKind.wrap_u8, h]
  congr 2
  rw [Int.natCast_pow]
  rw [show ((2 : Int) ^ (8 * i)) = (256 : Int) ^ i by rw [Int.pow_mul]; rfl]
  rfl
theorem oct_low (n : Int) : (Value.int .u8 (IntKind.u8.wrap n) : Value) = bv (byteAt n 0) := by
  have := oct_shr n 0 0 rfl
  simpa using this

theorem byteAt_mod (n : Int) (i k : Nat) (h : i < k) : byteAt (n % (256 ^ k : Nat)) i = byteAt n i := by
  apply UInt8.toNat_inj.1
  have h1 := byteAt_toNat (n % (256 ^ k : Nat)) i
  have h2 := byteAt_toNat n i
  have : (n % (256 ^ k : Nat)) / (256 ^ i : Nat) % 256 = n / (256 ^ i : Nat) % 256 := by
    obtain ⟨j, rfl⟩ : ∃ j, k = i + (j + 1) := ⟨k - i - 1, by omega⟩
    have hp : (0 : Int) < (256 ^ i : Nat) := by exact_mod_cast Nat.pow_pos (by omega)
    have e1 : ((256 ^ (i + (j + 1)) : Nat) : Int) = (256 ^ i : Nat) * ((256 ^ j : Nat) * 256) := by
      rw [Nat.pow_add, Nat.pow_succ, Int.natCast_mul, Int.natCast_mul]
      rfl
    rw [e1]
    have e2 : n % ((256 ^ i : Nat) * ((256 ^ j : Nat) * 256)) = n - (256 ^ i : Nat) * (((256 ^ j : Nat) * 256) * (n / ((256 ^ i : Nat) * ((256 ^ j : Nat) * 256)))) := by
      rw [Int.emod_def, Int.mul_assoc]
    rw [e2]
    generalize n / ((256 ^ i : Nat) * ((256 ^ j : Nat) * 256)) = q
    have e3 : (n - (256 ^ i : Nat) * (((256 ^ j : Nat) * 256) * q)) / (256 ^ i : Nat) = n / (256 ^ i : Nat) - ((256 ^ j : Nat) * 256) * q := by
      rw [Int.sub_eq_add_neg, ← Int.mul_neg, Int.add_mul_ediv_left _ _ (by omega), Int.sub_eq_add_neg]
    rw [e3]
    have e4 : ((256 ^ j : Nat) : Int) * 256 * q = 256 * ((256 ^ j : Nat) * q) := by
      rw [Int.mul_comm ((256 ^ j : Nat) : Int) 256, Int.mul_assoc]
    rw [e4]
    omega
  omega

theorem be_mod (n : Int) (k : Nat) : ∀ j, j ≤ k → be j (n % (256 ^ k : Nat)) = be j n
  | 0, _ => rfl
  | j + 1, h => by rw [be, be, byteAt_mod n j k (by omega), be_mod n k j (by omega)]

theorem be2_u16 (n : Int) : be 2 (IntKind.u16.wrap n) = be 2 n := by
  rw [IntKind.wrap_u16]; exact be_mod n 2 2 (by omega)
theorem be4_u32 (n : Int) : be 4 (IntKind.u32.wrap n) = be 4 n := by
  rw [IntKind.wrap_u32]; exact be_mod n 4 4 (by omega)
theorem be8_u64 (n : Int) : be 8 (IntKind.u64.wrap n) = be 8 n := by
  rw [show IntKind.u64.wrap n = n % 18446744073709551616 by simp [IntKind.wrap, IntKind.bits, IntKind.signed]]; exact be_mod n 8 8 (by omega)

theorem u16_i16 (n : Int) : IntKind.u16.wrap (IntKind.i16.wrap n) = IntKind.u16.wrap n := by
  rw [IntKind.wrap_u16, IntKind.wrap_u16]
  simp only [IntKind.wrap, IntKind.bits, IntKind.signed, Bool.true_and, decide_eq_true_eq, show ((2 : Int) ^ 16) = 65536 from rfl, show ((2 : Int) ^ (16 - 1)) = 32768 from rfl]
  split <;> omega
theorem u32_i32 (n : Int) : IntKind.u32.wrap (IntKind.i32.wrap n) = IntKind.u32.wrap n := by
  rw [IntKind.wrap_u32, IntKind.wrap_u32, IntKind.wrap_i32]; omega
theorem be2_i16 (n : Int) : be 2 (IntKind.i16.wrap n) = be 2 n := by rw [← be2_u16, u16_i16, be2_u16]
theorem be4_i32 (n : Int) : be 4 (IntKind.i32.wrap n) = be 4 n := by rw [← be4_u32, u32_i32, be4_u32]

end Go.Kx
