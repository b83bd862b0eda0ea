/- A message is read and written again: what the thin package answers. -/
import Derived.Test.YtlmelgjepdbakaaDoorRKxAgain
namespace Go.Kx
open Go.RowKit
set_option linter.unusedSimpArgs false
set_option linter.unusedVariables false

def isIface (P : Program) (t : TypeId) : Bool := match P.underlying t with | some (.interface _) => true | _ => false
theorem isIface_spec {P : Program} {t : TypeId} (h : isIface P t = true) : ∃ ms, P.underlying t = some (.interface ms) := by
  unfold isIface at h
  split at h
  · exact ⟨_, by assumption⟩
  · cases h
def isI16 (P : Program) (t : TypeId) : Bool := match P.underlying t with | some (.int .i16) => true | _ => false
theorem isI16_spec {P : Program} {t : TypeId} (h : isI16 P t = true) : P.underlying t = some (.int .i16) := by
  unfold isI16 at h
  split at h
  · assumption
  · cases h

structure AgF where
  np : FuncId
  sv : FuncId
  rf : FuncId
  at_ : FuncId

def resTwo (fn : Func) : Option (Nat × Nat) := match fn.results.toList with | [.tmp a, .tmp b] => some (a, b) | _ => none
/-- 'return nil, false' -/
def nilFalse (r : Nat × Nat) (cs : List Code) : Bool :=
  match cs with
  | [c, .ret] => match canR c with
    | some ⟨[(.assign (.const (.slice none 0 0)), _), (.assign (.const (.bool false)), _)], (r2, 3) :: (r1, 1) :: _⟩ => r1 == r.1 && r2 == r.2 && r1 != r2
    | _ => false
  | _ => false

def chkAg (P : Program) (e : TypeId) (fn : Func) (F : AgF) : Bool :=
  match fn.body, resTwo fn with
  | some c, some r => fits fn.ntmps c && Nat.ble 2 fn.ntmps && match flat c with
    | [c0, c1, c2, c3, .cond (.tmp t') A B, c4, .ret] => isIdle [0, 1] c0 && match canR c1, canR c2, canR c3, canR c4 with
      | some ⟨[(o1, _)], (v, 1) :: b1⟩, some ⟨[(.convert s16 t16 (.tmp 0), _), (o2, _)], b2⟩, some ⟨[(o3, _), (o4, _), (.binOp .neq ti (.tmp 3) (.const .nilIface) _, _)], (t, 5) :: b3⟩, some ⟨[(o5, _), (.assign (.const (.bool true)), _)], (r2, 3) :: (r1, 1) :: _⟩ =>
        match asCall o1, asCall o2, asApp o3, asCall o4, asCall o5 with
        | some (f1, []), some (f2, [.tmp v2, .tmp 1]), some (.const (.slice none 0 0), .tmp 2, ta, tb), some (f4, [.tmp v4, .tmp 1]), some (f5, [.tmp v5, .const (.slice none 0 0)]) =>
          f1 == F.np && f2 == F.sv && f4 == F.rf && f5 == F.at_ && v2 == 2 * v && v4 == 2 * v && v5 == 2 * v && (P.underlying s16).isSome && isI16 P t16 && isOct P e ta && ta == tb && isIface P ti && t == t' && nilFalse r (flat A) && (flat B).isEmpty &&
            r1 == r.1 && r2 == r.2 && r1 != r2 && free [0, 1] ((v, 1) :: b1) && free [1, v] b2 && free [v] ((t, 5) :: b3)
        | _, _, _, _, _ => false
      | _, _, _, _ => false
    | _ => false
  | _, _ => false

theorem own_src {e : TypeId} {w : World} {v : Value} {bs : List UInt8} (h : Own e w v bs) (hl : bs.length ≤ 4294967296) : SrcIs w (fun k => v.ownBlock = some k) bs v := by
  rcases h.2 with ⟨rfl, hn⟩ | ⟨g, cap, cur, rfl, hb, hg, hnc, hcm, hcs, htake⟩
  · exact .inl ⟨rfl, List.eq_nil_of_length_eq_zero hn⟩
  · refine .inr ⟨⟨g, 0, none⟩, cap, rfl, hnc, ⟨?_, hl⟩, rfl, fun i u hu => ?_⟩
    · simp only [maxLen] at hcm; omega
    · exact World.ownsRow.cells h (g := g) rfl i (bv u) (by simp [hu])
theorem own_oct {e : TypeId} {w : World} {v : Value} {bs : List UInt8} (h : Own e w v bs) : OctIs w (fun k => v.ownBlock = some k) bs v := by
  rcases h.2 with ⟨rfl, hn⟩ | ⟨g, cap, cur, rfl, hb, hg, hnc, hcm, hcs, htake⟩
  · exact .inl ⟨rfl, List.eq_nil_of_length_eq_zero hn⟩
  · refine .inr ⟨⟨g, 0, none⟩, cap, rfl, hnc, rfl, fun i u hu => ?_⟩
    exact World.ownsRow.cells h (g := g) rfl i (bv u) (by simp [hu])

/-- What is known of a message: its fields, its functions. -/
structure Msg (P : Program) (e : TypeId) (full : Bool) (tR : TypeId) (gE : Nat) (T : Ty) (s : Sch) (ff : Option Int) (tab : List (Nat × Rf)) (tabW : List (Nat × Ap)) (F : AgF) (rf : FuncId) (ps ps' : List (Nat × V)) (most : Int) : Prop where
  rdT : RdT P tR
  rd : ∀ eV f a, rfAt tab f = some a → Callable P f ∧ RfOk P gE eV f a
  wr : Sound P e full tabW
  full : full = true ∨ ∀ v, noTags s v
  np : ∃ fn t, P.funcs[F.np]? = some fn ∧ chkNp P tab fn T = some (t, ps) ∧ Callable P F.np
  sv : ∃ fn, P.funcs[F.sv]? = some fn ∧ chkSv P fn T = true ∧ Callable P F.sv
  rfn : ∃ fn, P.funcs[F.rf]? = some fn ∧ chkRF fn rf = true ∧ Callable P F.rf ∧ Callable P rf
  read : ∃ fn, P.funcs[rf]? = some fn ∧ ∀ eV fx, (fx = true → ff.isSome = true) → chkRd P tab gE eV tR fn T s ff fx = some ps'
  at_ : ∃ fn, P.funcs[F.at_]? = some fn ∧ chkApp P tabW e fn T s ff = true ∧ Callable P F.at_
  ok : ∀ ver, 0 ≤ ver → ver ≤ most → okB ver (flexAt ff ver) s = true
  start : ∀ ver, startB s ((((zeroV T).puts ps).put 0 (.i ver)).puts ps') = true
  ver : ∀ ver, ((((zeroV T).puts ps).put 0 (.i ver)).puts ps').fld 0 = .i ver
  key : s.keys.contains 0 = false
  most : most < 32768

/-- Where reading a message begins. -/
def V0 (T : Ty) (ps ps' : List (Nat × V)) (ver : Int) : V := (((zeroV T).puts ps).put 0 (.i ver)).puts ps'

/-- What reading and writing again answers. -/
def AgIs (w w' : World) (res : Option (List UInt8)) (x : Value) (b : Bool) : Prop :=
  match res with
  | some l => b = true ∧ OctIs w' (fun k => w.heap.size ≤ k ∧ k < w'.heap.size) l x
  | none => b = false ∧ x = .slice none 0 0

theorem chkAg_calls {P : Program} {e : TypeId} {full : Bool} {tR : TypeId} {gE : Nat} {T : Ty} {s : Sch} {ff : Option Int} {tab : List (Nat × Rf)} {tabW : List (Nat × Ap)} {F : AgF} {rf : FuncId} {ps ps' : List (Nat × V)} {most : Int}
    (M : Msg P e full tR gE T s ff tab tabW F rf ps ps' most) {f : FuncId} {fn : Func} (hf : P.funcs[f]? = some fn) (h : chkAg P e fn F = true) {w : World} {S : Nat → Prop} {ver : Int} {src : Value} {l : List UInt8} {tE : TypeId} {vE : Value}
    (hv0 : 0 ≤ ver) (hvm : ver ≤ most) (hsrc : OctIs w S l src) (hS : ∀ k, S k → k < w.heap.size) (hl : l.length < 1073741824) (herr : w.cell? ⟨gE, 0, none⟩ = some (.iface tE vE)) (hgE : gE < w.heap.size) :
    Calls P f #[.int .i64 ver, src] w fun en w' => ∃ x b, en = .returned (.tuple #[x, .bool b]) ∧ Ch (fun _ => False) w w' ∧ AgIs w w' ((dec ver (flexAt ff ver) s (V0 T ps ps' ver) l).map fun y => enc ver (flexAt ff ver) s y.1) x b := by
  have hi16 : IntKind.i16.wrap ver = ver := by
    have := M.most
    have := i16_len (n := ver.toNat) (by omega)
    rw [show ((ver.toNat : Nat) : Int) = ver by omega] at this
    exact this
  unfold chkAg at h
  split at h
  · rename_i c r hbody hres
    simp only [Bool.and_eq_true] at h
    obtain ⟨⟨hfit, hn⟩, h⟩ := h
    split at h
    · rename_i c0 c1 c2 c3 t' A B c4 hflat
      simp only [Bool.and_eq_true] at h
      obtain ⟨h0, h⟩ := h
      split at h
      · rename_i o1 ty1 v b1 s16 t16 ty2 o2 ty3 b2 o3 ty4 o4 ty5 ti u1 ty6 t b3 o5 ty7 ty8 r2 r1 b4 hc1 hc2 hc3 hc4
        split at h
        · rename_i f1 f2 v2 ta tb f4 v4 f5 v5 ho1 ho2 ho3 ho4 ho5
          simp only [Bool.and_eq_true, beq_iff_eq, bne_iff_ne, ne_eq, List.isEmpty_iff] at h
          obtain ⟨⟨⟨⟨⟨⟨⟨⟨⟨⟨⟨⟨⟨⟨⟨⟨⟨⟨⟨⟨rfl, rfl⟩, rfl⟩, rfl⟩, rfl⟩, rfl⟩, rfl⟩, hs16⟩, ht16⟩, hoct⟩, rfl⟩, hif⟩, rfl⟩, hA⟩, hB⟩, hr1⟩, hr2⟩, hr12⟩, hf1⟩, hf2⟩, hf3⟩ := h
          refine (Calls.of_CW hf hbody hfit (by simpa using hn) (CW.of_flat ?_) (R := fun y w' => ∃ x b, y = .tuple #[x, .bool b] ∧ Ch (fun _ => False) w w' ∧ AgIs w w' ((dec ver (flexAt ff ver) s (V0 T ps ps' ver) l).map fun y => enc ver (flexAt ff ver) s y.1) x b)).mono fun en w' ⟨y, he, x, b, hy, hR⟩ => ⟨x, b, by rw [he, hy], hR⟩
          rw [hflat]
          refine CWL.idle h0 fun σ0 he0 => ?_
          have e0 : σ0 0 = .int .i64 ver := (he0 0 (by simp)).trans rfl
          have e1 : σ0 1 = src := (he0 1 (by simp)).trans rfl
          -- a new message
          obtain ⟨fnp, tG, hnp1, hnp2, hnp3⟩ := M.np
          refine CWL.regG hc1 (OpK.asCall ho1 hnp3 rfl ?_)
          simp only [List.map_nil]
          refine (chkNp_calls (M.rd (.iface tE vE)) hnp1 hnp2 w).mono fun en w1 ⟨cells, he, hb1, hcl, hrep1, hch1⟩ => ⟨_, he, ?_⟩
          simp only [RC]
          intro σ1 hσ1
          have k1v : σ1 v = .pointer (some ⟨w.heap.size, 0, none⟩) := by rw [hσ1, outF_head]; simp
          have k1 : ∀ t ∈ [0, 1], σ1 t = σ0 t := fun t ht => by rw [hσ1, outF_free hf1 ht, upd_odd _ _ _ _ (by omega), enF_two]
          -- its version
          obtain ⟨fsv, hsv1, hsv2, hsv3⟩ := M.sv
          have htk : (cells.drop 0).take T.size = cells := by rw [List.drop_zero, List.take_of_length_le (by omega)]
          refine CWL.regG hc2 (OpK.convInt hs16 (isI16_spec ht16) (by simp only [ev_tmp]; exact (enF_two σ1 0).trans ((k1 0 (by simp)).trans e0)) ?_)
          rw [hi16]
          refine OpK.asCall ho2 hsv3 rfl ?_
          simp only [List.map_cons, List.map_nil, ev_tmp]
          rw [show upd (enF σ1) (some (2 * 0 + 1)) (Value.int .i16 ver) (2 * v) = .pointer (some ⟨w.heap.size, 0, none⟩) by rw [upd_odd _ _ _ _ (by omega), enF_two, k1v], show upd (enF σ1) (some (2 * 0 + 1)) (Value.int .i16 ver) 1 = .int .i16 ver from rfl]
          refine (chkSv_calls hsv1 hsv2 (S := fun _ => False) (v := (zeroV T).puts ps) hb1 (by rw [htk]; exact hrep1) (by omega) (fun h => h) hi16).mono fun en w2 ⟨he, c2', hb2, hrep2, hch2⟩ => ⟨_, he, ?_⟩
          simp only [RC]
          intro σ2 hσ2
          have k2 : ∀ t ∈ [1, v], σ2 t = σ1 t := fun t ht => by rw [hσ2, outF_free hf2 ht, upd_odd _ _ _ _ (by omega), upd_odd _ _ _ _ (by omega), enF_two]
          have hc2l := hrep2.size
          rw [splice_all (by omega)] at hb2
          have k2v : σ2 v = .pointer (some ⟨w.heap.size, 0, none⟩) := (k2 v (by simp)).trans k1v
          have k21 : σ2 1 = src := (k2 1 (by simp)).trans ((k1 1 (by simp)).trans e1)
          have hch12 : Ch (fun _ => False) w w2 := hch1.trans hch2 fun i hi e => by omega
          have hgs := hb2.lt
          -- a copy of the octets
          obtain rfl := asApp_spec ho3
          have hsrc2 : OctIs w2 S l src := hsrc.keep fun k hk => hch12.block k (hS k hk) fun h => h
          obtain ⟨a, cc, hsl, hnil, hO⟩ : ∃ a c, src = .slice a l.length c ∧ (a = none → l = []) ∧ ∀ a', a = some a' → Oct w2 a' l := by
            rcases hsrc2 with ⟨h1, h2⟩ | ⟨a, c, h1, h2, h3, h4⟩
            · exact ⟨none, 0, by rw [h1, h2]; rfl, fun _ => h2, fun _ h => by cases h⟩
            · exact ⟨some a, c, h1, (fun h => by cases h), fun a' h => by cases h; exact h4⟩
          have happ := run_append_oct (P := P) (w := w2) (t := ta) (ty := ty4) M.wr.u8 (isOct_spec hoct) (Own.nil e w2) (a := a) (l := l) (c := cc) hnil hO (by simp only [List.length_nil, Lim]; omega)
          obtain ⟨d, w3, hrun, hgrew⟩ := happ
          rw [List.nil_append] at hgrew
          refine CWL.regG hc3 (OpK.run rfl (v := d) (w' := w3) ?_ ?_)
          · simp only [ev_tmp, ev_const]
            rw [show enF σ2 2 = src from (enF_two σ2 1).trans k21, hsl]
            exact hrun
          have hch3 : Ch (fun _ => False) w2 w3 := hgrew.ch.mono fun k _ hk => by simp [Value.ownBlock] at hk
          have hch13 : Ch (fun _ => False) w w3 := hch12.trans' hch3
          have hb3 := hb2.keep (hch3.block _ hgs fun h => h)
          have hdnew : ∀ k, d.ownBlock = some k → w2.heap.size ≤ k ∧ k < w3.heap.size := fun k hk => by
            refine ⟨?_, hgrew.own.lt hk⟩
            rcases hgrew.blk k hk with h' | h'
            · simp [Value.ownBlock] at h'
            · exact h'
          -- it is read
          obtain ⟨frf, hrf1, hrf2, hrf3, hrf4⟩ := M.rfn
          obtain ⟨frd, hrd1, hrd2⟩ := M.read
          refine OpK.asCall ho4 hrf3 rfl ?_
          simp only [List.map_cons, List.map_nil, ev_tmp]
          rw [show upd (enF σ2) (some (2 * 0 + 1)) d (2 * v) = .pointer (some ⟨w.heap.size, 0, none⟩) by rw [upd_odd _ _ _ _ (by omega), enF_two, k2v], show upd (enF σ2) (some (2 * 0 + 1)) d 1 = d from rfl]
          have hrep3 : Rep w3 (fun k => k < w3.heap.size ∧ k ≠ w.heap.size) T ((((zeroV T).puts ps).put 0 (.i ver))) ((c2'.drop 0).take T.size) := by
            rw [List.drop_zero, List.take_of_length_le (by omega)]
            exact hrep2.keepMono (fun _ h => h.elim) fun _ h => h.elim
          have herr3 : w3.cell? ⟨gE, 0, none⟩ = some (.iface tE vE) := (ch_cell hch13 (a := ⟨gE, 0, none⟩) hgE (fun h => h) rfl).trans herr
          have hsz3 := hch13.size
          have hread := chkRd_calls M.rdT (M.rd (.iface tE vE)) hrd1 (hrd2 (.iface tE vE) (flexAt ff ver) (fun h => by cases ff <;> first | rfl | cases h)) (S := fun k => d.ownBlock = some k) (v0 := ((zeroV T).puts ps).put 0 (.i ver)) (ver := ver) (o := 0) hb3 hrep3 (by omega) herr3 ⟨by omega, by omega⟩
            (own_src hgrew.own (by omega)) (fun k hk => ⟨(hdnew k hk).2, by have := (hdnew k hk).1; omega⟩) (M.ver ver) hv0 rfl (M.ok ver hv0 hvm) (M.start ver)
          refine (chkRF_calls hrf1 hrf2 hrf4 hread).mono fun en w4 ⟨x, he, hto⟩ => ⟨x, he, ?_⟩
          obtain ⟨hch4, hto⟩ := hto
          have hch14 : Ch (fun _ => False) w w4 := hch13.trans hch4 fun i hi e => by omega
          obtain ⟨ms, hms⟩ := isIface_spec hif
          change match dec ver (flexAt ff ver) s (V0 T ps ps' ver) l with | some y => _ | none => _ at hto
          cases hd : dec ver (flexAt ff ver) s (V0 T ps ps' ver) l with
          | none =>
            rw [hd] at hto
            refine OpK.neqNilIface (b := true) hms (v := x) (by simp [upd]) rfl (.inr ⟨⟨tE, vE, hto⟩, rfl⟩) ?_
            simp only [RC]
            intro σ3 hσ3
            refine CWL.condT (by simp only [ev_tmp]; rw [hσ3, outF_head]; simp [upd]) (CWL.append ?_)
            unfold nilFalse at hA
            split at hA
            · rename_i cA hfA
              split at hA
              · rename_i ty9 ty10 q2 q1 b5 hcA
                simp only [Bool.and_eq_true, beq_iff_eq, bne_iff_ne, ne_eq] at hA
                obtain ⟨⟨rfl, rfl⟩, hq12⟩ := hA
                rw [hfA]
                refine CWL.reg hcA (OpK.assign (OpK.assign ?_))
                simp only [RC, ev_const]
                refine CWL.ret ?_
                simp only [Then, Ends]
                unfold resTwo at hres
                split at hres
                · rename_i a1 a2 hrs
                  simp only [Option.some.injEq] at hres
                  subst hres
                  refine ⟨_, by simp only [resOf, hrs]; rfl, .slice none 0 0, false, ?_, hch14, rfl, rfl⟩
                  simp only at hq12 ⊢
                  rw [outF_head]
                  simp [outF, look, Ne.symm hq12, upd]
                · cases hres
              · cases hA
            · cases hA
          | some y =>
            rw [hd] at hto
            obtain ⟨hx, cells4, hb4, hl4, hrep4⟩ := hto
            refine OpK.neqNilIface (b := false) hms (v := x) (by simp [upd]) rfl (.inl ⟨hx, rfl⟩) ?_
            simp only [RC]
            intro σ3 hσ3
            have k3v : σ3 v = .pointer (some ⟨w.heap.size, 0, none⟩) := by
              rw [hσ3, outF_free hf3 (by simp), upd_odd _ _ _ _ (by omega), upd_odd _ _ _ _ (by omega), upd_odd _ _ _ _ (by omega), enF_two, k2v]
            refine CWL.condF (by simp only [ev_tmp]; rw [hσ3, outF_head]; simp [upd]) ?_
            rw [hB, List.nil_append]
            -- it is written
            obtain ⟨fat, hat1, hat2, hat3⟩ := M.at_
            obtain ⟨hgood, hlen, hkeep⟩ := dec_good s (M.ok ver hv0 hvm) (M.start ver) hl hd
            have hver : y.1.fld 0 = .i ver := by
              rw [hkeep 0 (by have := M.key; rw [List.contains_eq_mem, decide_eq_false_iff_not] at this; exact this)]
              exact M.ver ver
            have his : Is w4 (fun k => k < w4.heap.size) w.heap.size 0 T y.1 := by
              refine ⟨_, hrep4.mono fun k hk => hk.1, fun i u hu => ?_⟩
              rw [List.getElem?_take] at hu
              split at hu
              · rw [List.getElem?_drop] at hu
                rw [hb4.cell]
                exact hu
              · cases hu
            refine CWL.regG hc4 (OpK.asCall ho5 hat3 rfl ?_)
            simp only [List.map_cons, List.map_nil, ev_tmp, ev_const]
            rw [show enF σ3 (2 * v) = .pointer (some ⟨w.heap.size, 0, none⟩) by rw [enF_two, k3v]]
            have hcall := chkApp_calls M.wr hat1 hat2 (w := w4) (S := fun k => k < w4.heap.size) (g := w.heap.size) (o := 0) (v := y.1) (ver := ver) (d := .slice none 0 0) (bs := []) (M.full.imp id fun h => h y.1) his hb4.lt hver (Own.nil e w4) (fun k hk => ⟨hk, by simp [Value.ownBlock]⟩) (by simp only [List.length_nil, Lim]; omega)
            rw [List.nil_append] at hcall
            refine hcall.mono fun en w5 ⟨d', he5, hg5⟩ => ⟨d', he5, ?_⟩
            refine OpK.assign ?_
            simp only [RC, ev_const]
            intro σ5 hσ5
            refine CWL.ret ?_
            simp only [Ends]
            unfold resTwo at hres
            split at hres
            · rename_i a1 a2 hrs
              simp only [Option.some.injEq] at hres
              subst hres
              have hch5 : Ch (fun _ => False) w4 w5 := hg5.ch.mono fun k _ hk => by simp [Value.ownBlock] at hk
              refine ⟨_, by simp only [resOf, hrs]; rfl, d', true, ?_, hch14.trans' hch5, rfl, ?_⟩
              · simp only at hr1 hr2
                subst hr1
                subst hr2
                rw [hσ5, outF_head]
                simp [outF, look, Ne.symm hr12, upd]
              · rcases own_oct hg5.own with h | ⟨a, c, h1, h2, h3, h4⟩
                · exact .inl h
                · refine .inr ⟨a, c, h1, h2, ?_, h4⟩
                  refine ⟨?_, hg5.own.lt h3⟩
                  rcases hg5.blk _ h3 with h' | h'
                  · simp [Value.ownBlock] at h'
                  · have := hch14.size; omega
            · cases hres
        · cases h
      · cases h
    · cases h
  · cases h
end Go.Kx
