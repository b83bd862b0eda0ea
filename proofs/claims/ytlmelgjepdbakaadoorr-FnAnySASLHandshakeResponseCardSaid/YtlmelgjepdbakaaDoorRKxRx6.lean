/- Lists, octets of fixed number and tags, as they are read. -/
import Derived.Test.YtlmelgjepdbakaaDoorRKxRx5
namespace Go.Kx
open Go.RowKit
set_option linter.unusedSimpArgs false
set_option linter.unusedVariables false

def isLen (X : Cx) (f : FuncId) (fx : Bool) : Bool := match rfAt X.tab f with | some (.len fx') => fx' == fx | _ => false
theorem isLen_spec {X : Cx} {f : FuncId} {fx : Bool} (h : isLen X f fx = true) : rfAt X.tab f = some (.len fx) := by
  unfold isLen at h
  split at h
  · rename_i fx' he; rw [he, beq_iff_eq.1 h]
  · cases h
def isTags (X : Cx) (f : FuncId) : Bool := match rfAt X.tab f with | some .tags => true | _ => false
theorem isTags_spec {X : Cx} {f : FuncId} (h : isTags X f = true) : rfAt X.tab f = some .tags := by
  unfold isTags at h
  split at h
  · assumption
  · cases h
def isUuid (X : Cx) (f : FuncId) : Bool := match rfAt X.tab f with | some (.val _ .uuid) => true | _ => false
theorem isUuid_spec {X : Cx} {f : FuncId} (h : isUuid X f = true) : ∃ fx, rfAt X.tab f = some (.val fx .uuid) := by
  unfold isUuid at h
  split at h
  · exact ⟨_, by assumption⟩
  · cases h

section
variable {X : Cx} {S W : Nat → Prop} {r : Nat} {tR : TypeId} {T : Ty} {g o : Nat} {tG : TypeId} {w w' : World} {v v' : V} {s s' : Rs} {cells cells' : List Value}
theorem Mem.is (h : Mem X S W r tR T g o tG w v s cells) : Is w (Ob W w) g o T v := by
  refine ⟨_, h.rep, fun i u hu => ?_⟩
  rw [List.getElem?_take] at hu
  split at hu
  · rw [List.getElem?_drop] at hu
    rw [h.blk.cell]
    exact hu
  · cases hu
/-- Another function has written the part. -/
theorem Mem.turn (h : Mem X S W r tR T g o tG w v s cells) {c : List Value} (hb : Blk w' g tG (spl cells o c)) (hr : Rep w' (Ob W w) T v' c) (hc : Ch (fun k => k = g) w w') : Mem X S W r tR T g o tG w' v' s (spl cells o c) ∧ Outside cells (spl cells o c) o T.size := by
  have hl := h.len
  have hsz := hr.size
  have hk : ∀ k, k < w.heap.size → k ≠ g → w'.heap[k]? = w.heap[k]? := fun k h1 h2 => hc.block k h1 h2
  refine ⟨⟨h.rd.keepG (hk r h.rd.lt h.ne) fun k hS => hk k (h.src k hS).1 fun e => (h.src k hS).2 (e ▸ h.wg), hb, ?_, by rw [spl_len (by omega)]; exact hl, ?_, fun k hw => Nat.lt_of_lt_of_le (h.bound k hw) hc.size,
    fun k hS => ⟨Nat.lt_of_lt_of_le (h.src k hS).1 hc.size, (h.src k hS).2⟩, h.wr, h.wg, h.ne, Nat.lt_of_lt_of_le h.eW.1 hc.size, h.eW.2⟩, ?_⟩
  · have := spl_at (cs := cells) (c := c) (o := o) (by omega)
    rw [← hsz, this]
    exact hr.mono (Ob.up hc.size)
  · exact (World.cell?_of_block (hk X.gE h.eW.1 h.eW.2.2)).trans h.err
  · have := Outside.spl (cs := cells) (c := c) (o := o) (p := 0) (n := T.size) (by omega) hl
    simpa using this
end

/-! ### Sixteen octets -/
def rdUuid (X : Cx) (L : List Nat) (q p : Nat) (T : Ty) (k : Nat) (cs : List Code) : Option (List Code) :=
  match cs with
  | c1 :: c2 :: rest =>
    match canR c1, canR c2 with
    | some ⟨[(op, _), (.alloc at', _), (.store st1 (.tmp 3) (.tmp 1), _)], (d, 3) :: b1⟩, some ⟨[(.load lt (.tmp d2), _), (.nilCheck (.tmp p2), _), (.fieldAddr tid (.tmp 3) k', _), (.store st (.tmp 5) (.tmp 1), _)], b2⟩ =>
      match asCall op, T.fld k with
      | some (f, [.tmp q2]), some (ty', off) => if q2 == 2 * q && isUuid X f && uuOk X.P at' && st1 == at' && lt == at' && st == at' && d2 == 2 * d && p2 == 2 * p && fieldOff X.P tid k' == some off && decide (ty' = .uuid) && free L ((d, 3) :: b1) && free L b2 then some rest else none
      | _, _ => none
    | _, _ => none
  | _ => none

theorem Mem.alloc {X : Cx} {S W : Nat → Prop} {r : Nat} {tR : TypeId} {T : Ty} {g o : Nat} {tG : TypeId} {w : World} {v : V} {s : Rs} {cells : List Value} (h : Mem X S W r tR T g o tG w v s cells) (ob : Obj) : Mem X S W r tR T g o tG (w.alloc ob) v s cells :=
  h.call (h.rd.keepG (alloc_old w ob _ h.rd.lt) fun k hk => alloc_old w ob k (h.src k hk).1) (Ch.alloc _ w ob)

section
variable {X : Cx} {S W : Nat → Prop} {r : Nat} {tR : TypeId} {T : Ty} {g o : Nat} {tG : TypeId} {L : List Nat} {fx : Bool} {ver : Int} {q p : Nat}

theorem rdUuid_step (hX : X.Sound) (hL : LIn X fx q p L) {k : Nat} {A : V → Prop} {cs rest : List Code} (h : rdUuid X L q p T k cs = some rest) :
    RStep X S W r tR T g o tG L (RP X fx ver q p r g o) A (fun v l => (decW fx .uuid l).map fun x => (v.put k x.1, x.2)) cs rest := by
  intro σ w1 oo v s cells Q hP hA hS hM hr hk
  unfold rdUuid at h
  split at h
  · rename_i c1 c2 rest'
    split at h
    · rename_i op ty1 at' ty2 st1 ty3 d b1 lt d2 ty4 p2 ty5 tid k' ty6 st ty7 b2 hcan1 hcan2
      split at h
      · rename_i f q2 ty' off hop hf
        split at h
        · rename_i hh
          simp only [Option.some.injEq] at h
          subst h
          simp only [Bool.and_eq_true, beq_iff_eq, decide_eq_true_eq] at hh
          obtain ⟨⟨⟨⟨⟨⟨⟨⟨⟨⟨⟨rfl, hu⟩, hok⟩, rfl⟩, rfl⟩, rfl⟩, rfl⟩, rfl⟩, hoff⟩, rfl⟩, hfree1⟩, hfree2⟩ := hh
          obtain ⟨fx', htab⟩ := isUuid_spec hu
          obtain ⟨hcall, hrf⟩ := hX.ok f _ htab
          obtain ⟨e, i, z, hund, hinf, hsz, hz, hzs⟩ := uuOk_spec hok
          have hc := hrf w1 S r tR s (fun k hk => (hM.src k hk).1) hM.rd
          refine CWL.reg hcan1 (OpK.asCall hop hcall rfl ?_)
          simp only [List.map_cons, List.map_nil, ev_tmp, enF_two, hP.rdr]
          refine hc.mono fun en w2 ⟨u, cu, s', he, h1, h2, h3, h4⟩ => ⟨_, he, ?_⟩
          obtain ⟨l, rfl, h16, rfl⟩ := rep_uuid h3
          have hall : (l.map bv).toArray.all (·.oneCell') = true := by
            rw [Array.all_eq_true']
            intro x hx
            simp only [List.mem_toArray, List.mem_map] at hx
            obtain ⟨b, _, rfl⟩ := hx
            rfl
          refine OpK.allocArr hinf hz ?_
          refine OpK.storeArr (c' := (l.map bv).toArray) (by simp [hinf, hsz, h16]) (by simp [hzs, h16]) hall (by simp [upd]) (by simp [upd, ldv, Wt.ty]) ?_
          simp only [RC]
          have hM2 := (hM.call h1 h2).alloc (.cells (l.map bv).toArray st)
          generalize hσ1 : outF ((d, 3) :: b1) (upd (upd (upd (enF σ) (some (2 * 0 + 1)) (ldv Wt.uuid.ty (List.map bv l))) (some (2 * (0 + 1) + 1)) (Value.pointer (some ⟨w2.heap.size, 0, none⟩))) (some (2 * (0 + 1 + 1) + 1)) undef) = σ1
          have hd1 : σ1 d = .pointer (some ⟨w2.heap.size, 0, none⟩) := by rw [← hσ1, outF_head]; simp [upd]
          have hk1 : ∀ t ∈ L, σ1 t = σ t := fun t ht => by
            rw [← hσ1, outF_free hfree1 ht, upd_odd _ _ _ _ (by omega), upd_odd _ _ _ _ (by omega), upd_odd _ _ _ _ (by omega), enF_two]
          have hp1 : σ1 p = .pointer (some ⟨g, o, none⟩) := (hk1 p hL.ptr).trans hP.ptr
          have hnew := Blk.new w2 st (l.map bv)
          have hrep : Rep (w2.alloc (.cells (l.map bv).toArray st)) (Ob W (w2.alloc (.cells (l.map bv).toArray st))) .uuid (.u l) (l.map bv) := ⟨h16, rfl⟩
          obtain ⟨hM3, hO⟩ := hM2.put hf hrep
          obtain ⟨_, _, _, _, hb⟩ := hM2.rep.fld hf
          have hsz2 := hM2.rep.size
          have hlen := hM2.len
          refine CWL.reg hcan2 ?_
          refine OpK.loadKind (loadOk_uuid hok) (S := fun _ => True) (g := w2.heap.size) (o := 0) (v := .u l) (by simp only [ev_tmp, enF_two]; exact hd1) ⟨l.map bv, ⟨h16, rfl⟩, fun i u hu => by rw [Nat.zero_add, hnew.cell]; exact hu⟩ fun cs hr' => ?_
          obtain ⟨l', hl', _, rfl⟩ := rep_uuid hr'
          cases hl'
          refine OpK.nilCheck (a := ⟨g, o, none⟩) (by simp only [ev_tmp]; rw [upd_odd _ _ _ _ (by omega), enF_two]; exact hp1) ?_
          refine OpK.fieldAddr hoff (a := ⟨g, o, none⟩) (by simp [upd]) ?_
          refine OpK.storeV (c := l.map bv) (v := .agg (l.map bv).toArray) (g := g) (o := o + off) (tG := tG) (cells := cells) (by simp [hinf, hsz, h16]) (by simp [upd, add_at]) (by simp [upd, ldv]) (.inl rfl) (bv_one l) hM2.blk (by simp only [Ty.size] at hb; rw [List.length_map]; omega) ?_
          simp only [RC]
          have hst := hS.step h4 fun v u => v.put k u
          rw [show decW fx' .uuid = decW fx .uuid from by funext l; rfl] at hst
          refine hk _ _ _ s' _ hst hM3 ?_ hO fun t ht => ?_
          · exact ((h2.trans' (Ch.alloc _ _ _)).mono fun _ _ h => .inl h).trans' ((setCells_ch _ _ _ _).mono fun _ _ h => .inr h)
          · rw [outF_free hfree2 ht, upd_odd _ _ _ _ (by omega), upd_odd _ _ _ _ (by omega), upd_odd _ _ _ _ (by omega), upd_odd _ _ _ _ (by omega), enF_two]
            exact hk1 t ht
        · cases h
      · cases h
    · cases h
  · cases h

/-! ### Tags -/
def tagStore (X : Cx) (L : List Nat) (q p : Nat) (T : Ty) (k : Nat) (c : Code) : Bool :=
  match canR c, T.fld k with
  | some ⟨[(op, _), (.nilCheck (.tmp p2), _), (.fieldAddr tid (.tmp 3) k', _), (.store st (.tmp 5) (.tmp 1), _)], b⟩, some (.tags, off) =>
    match asCall op with
    | some (f, [.tmp q2]) => q2 == 2 * q && p2 == 2 * p && isTags X f && fieldOff X.P tid k' == some off && (X.P.info? st).map (·.size) == some 1 && free L b
    | _ => false
  | _, _ => false
def rdTags (X : Cx) (fx : Bool) (L : List Nat) (q p : Nat) (T : Ty) (k : Nat) (cs : List Code) : Option (List Code) :=
  if X.x.flx.isSome then
    match condK (X.kn fx) L cs with
    | some (Y, rest) => if fx then (match Y with
        | [c] => if tagStore X L q p T k c then some rest else none
        | _ => none)
      else if Y.isEmpty then some rest else none
    | none => none
  else none

theorem rdTags_step (hX : X.Sound) (hL : LIn X fx q p L) {k : Nat} {A : V → Prop} {cs rest : List Code} (h : rdTags X fx L q p T k cs = some rest) :
    RStep X S W r tR T g o tG L (RP X fx ver q p r g o) A (fun v l => if fx then (decTags l).map fun x => (v.put k (.tags x.1), x.2) else some (v, l)) cs rest := by
  intro σ w1 oo v s cells Q hP hA hS hM hr hk
  unfold rdTags at h
  split at h
  · split at h
    · rename_i Y rest' hck
      have hrest : rest' = rest := by
        split at h
        · split at h
          · split at h
            · simp only [Option.some.injEq] at h; exact h
            · cases h
          · cases h
        · split at h
          · simp only [Option.some.injEq] at h; exact h
          · cases h
      rw [hrest] at hck h
      refine condK_sound hck hP.kn fun σ1 he1 => ?_
      cases fx
      · simp only [Bool.false_eq_true, if_false] at h hk
        split at h
        · rename_i hY
          simp only [List.isEmpty_iff] at hY
          subst hY
          refine hk σ1 w1 v s cells ?_ hM (Ch.refl _ _) (Outside.refl _ _ _) he1
          cases oo <;> exact hS
        · cases h
      · simp only [if_true] at h hk hr
        split at h
        · rename_i c
          split at h
          · rename_i hts
            unfold tagStore at hts
            split at hts
            · rename_i op ty1 p2 ty2 tid k' ty3 st ty4 b off hcan hf
              split at hts
              · rename_i f q2 hop
                simp only [Bool.and_eq_true, beq_iff_eq] at hts
                obtain ⟨⟨⟨⟨⟨rfl, rfl⟩, hf1⟩, hoff⟩, hst⟩, hfree⟩ := hts
                obtain ⟨hcall, hrf⟩ := hX.ok f _ (isTags_spec hf1)
                have hc := hrf w1 S r tR s (fun k hk => (hM.src k hk).1) hM.rd
                refine CWL.reg hcan (OpK.asCall hop hcall rfl ?_)
                simp only [List.map_cons, List.map_nil, ev_tmp, enF_two]
                rw [show σ1 q = .pointer (some ⟨r, 0, none⟩) from (he1 q hL.rdr).trans hP.rdr]
                refine hc.mono fun en w2 ⟨u, cu, s', he, h1, h2, h3, h4⟩ => ⟨_, he, ?_⟩
                have hM2 := hM.call h1 h2
                have hu := h3.mono (hM.newB h2.size)
                obtain ⟨hM3, hO⟩ := hM2.put hf hu
                obtain ⟨_, _, _, _, hb⟩ := hM2.rep.fld hf
                have hsz2 := hM2.rep.size
                have hlen := hM2.len
                refine OpK.nilCheck (a := ⟨g, o, none⟩) (by simp only [ev_tmp]; rw [upd_odd _ _ _ _ (by omega), enF_two, he1 p hL.ptr]; exact hP.ptr) ?_
                refine OpK.fieldAddr hoff (a := ⟨g, o, none⟩) (by simp [upd]) ?_
                refine OpK.storeV (c := [cu]) (v := .agg #[cu]) (g := g) (o := o + off) (tG := tG) (cells := cells) (by rw [hst]; rfl) (by simp [upd, add_at]) (by simp [upd]) (.inl rfl) (rep_one hu) hM2.blk (by simp only [Ty.size] at hb; simp only [List.length_cons, List.length_nil]; omega) ?_
                simp only [RC]
                refine hk _ _ _ s' _ (hS.step h4 fun v u => v.put k (.tags u)) hM3 ?_ hO fun t ht => ?_
                · exact (h2.mono fun _ _ h => .inl h).trans' ((setCells_ch _ _ _ _).mono fun _ _ h => .inr h)
                · rw [outF_free hfree ht, upd_odd _ _ _ _ (by omega), upd_odd _ _ _ _ (by omega), upd_odd _ _ _ _ (by omega), upd_odd _ _ _ _ (by omega), enF_two]
                  exact he1 t ht
              · cases hts
            · cases hts
          · cases h
        · cases h
    · cases h
  · cases h
end
end Go.Kx
