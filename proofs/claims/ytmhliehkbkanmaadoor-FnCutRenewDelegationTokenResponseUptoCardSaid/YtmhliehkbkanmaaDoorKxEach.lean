/- Library texts Any2 Said Each, joined. -/
import Derived.Test.YtmhliehkbkanmaaDoorKxAny
import Derived.ProofKit
import Derived.OpenShut
import Derived.WalkKit
import Derived.LaidLaws
import Derived.Maps.RangeRun
/- The law 'Any' as a whole. -/
namespace Go.Kx
open Go.RowKit
set_option linter.unusedSimpArgs false
set_option linter.unusedVariables false

/-- A question in a region, and a return where it holds. -/
def lenGt (P : Program) (L : List Nat) (m : Int) (c : Code) : Option Nat :=
  match canR c with
  | some ⟨[(o, _), (.binOp .gtr _ (.tmp 1) (.const (.int .i64 m')) _, _)], (t, 3) :: b⟩ => match asLen o with
    | some (.tmp 2, tt) => if m' == m && (elemSize P tt).isSome && free L ((t, 3) :: b) then some t else none
    | _ => none
  | _ => none
theorem lenGt_sound {P : Program} {n : Nat} {L : List Nat} {m : Int} {c : Code} {t : Nat} (h : lenGt P L m c = some t) {rest : List Code} {σ : Fm} {w : World} {Q : Exit → Fm → World → Prop} {a : Option Addr} {k cc : Nat} (h1 : σ 1 = .slice a k cc)
    (hk : ∀ σ', (∀ t ∈ L, σ' t = σ t) → σ' t = .bool (decide ((k : Int) > m)) → CWL P n rest σ' w Q) : CWL P n (c :: rest) σ w Q := by
  unfold lenGt at h
  split at h
  · rename_i o ty1 u1 m' u2 ty2 t' b hc
    split at h
    · rename_i tt ho
      split at h
      · rename_i hh
        simp only [Option.some.injEq] at h
        subst h
        simp only [Bool.and_eq_true, beq_iff_eq] at hh
        obtain ⟨⟨rfl, hs⟩, hfree⟩ := hh
        obtain ⟨es, hes⟩ := Option.isSome_iff_exists.1 hs
        refine CWL.reg hc (OpK.asLen ho hes (by simp only [ev_tmp]; exact (enF_two σ 1).trans h1) ?_)
        refine OpK.cmp (op := .gtr) (k := .i64) (a := (k : Int)) (b := m') rfl (by simp [upd]) rfl ?_
        simp only [RC]
        refine hk _ (fun t ht => ?_) (by rw [outF_head]; simp [upd])
        rw [outF_free hfree ht, upd_odd _ _ _ _ (by omega), upd_odd _ _ _ _ (by omega), enF_two]
      · cases h
    · cases h
  · cases h

/-- A version, and the thin package's answer at it. -/
def verAg (F : AnyF) (L : List Nat) (mo src : Nat) (c : Code) : Option (Nat × Nat) :=
  match canR c with
  | some ⟨[(o1, _), (o2, _), (.extract (.tmp 3) 0, _), (.extract (.tmp 3) 1, _)], (ok, 7) :: (a, 5) :: b⟩ => match asCall o1, asCall o2 with
    | some (f1, [.tmp 0, .tmp m2]), some (f2, [.tmp 1, .tmp s2]) => if f1 == F.vf && f2 == F.ag && m2 == 2 * mo && s2 == 2 * src && ok != a && free L ((ok, 7) :: (a, 5) :: b) then some (a, ok) else none
    | _, _ => none
  | _ => none
theorem verAg_sound {P : Program} {n : Nat} {F : AnyF} {L : List Nat} {mo src : Nat} {c : Code} {a ok : Nat} (h : verAg F L mo src c = some (a, ok)) (hv : VerIs P F.vf) (hag : Callable P F.ag) {rest : List Code} {σ : Fm} {w : World} {Q : Exit → Fm → World → Prop} {k most : Nat} {vs : Value} {R : Value → Bool → World → Prop}
    (h0 : σ 0 = .int .u8 (k : Int)) (hk : k < 256) (hm : σ mo = .int .i64 (most : Int)) (hm2 : most < 1000) (hs : σ src = vs)
    (hc : Calls P F.ag #[.int .i64 ((k % (most + 1) : Nat) : Int), vs] w fun en w' => ∃ x b, en = .returned (.tuple #[x, .bool b]) ∧ R x b w')
    (hn : ∀ σ' w' x b, R x b w' → (∀ t ∈ L, σ' t = σ t) → σ' a = x → σ' ok = .bool b → CWL P n rest σ' w' Q) : CWL P n (c :: rest) σ w Q := by
  unfold verAg at h
  split at h
  · rename_i o1 ty1 o2 ty2 ty3 ty4 ok' a' b hcan
    split at h
    · rename_i f1 m2 f2 s2 ho1 ho2
      split at h
      · rename_i hh
        simp only [Option.some.injEq, Prod.mk.injEq] at h
        obtain ⟨rfl, rfl⟩ := h
        simp only [Bool.and_eq_true, beq_iff_eq, bne_iff_ne, ne_eq] at hh
        obtain ⟨⟨⟨⟨⟨rfl, rfl⟩, rfl⟩, rfl⟩, hne⟩, hfree⟩ := hh
        refine CWL.reg hcan (OpK.asCall ho1 hv.1 rfl ?_)
        simp only [List.map_cons, List.map_nil, ev_tmp]
        rw [show enF σ 0 = .int .u8 (k : Int) from (enF_two σ 0).trans h0, enF_two, hm]
        refine (hv.2 w k most hk hm2).mono fun en w1 ⟨v, he, hv1, hw⟩ => ⟨v, he, ?_⟩
        subst hw
        subst hv1
        refine OpK.asCall ho2 hag rfl ?_
        simp only [List.map_cons, List.map_nil, ev_tmp]
        rw [show upd (enF σ) (some (2 * 0 + 1)) (Value.int .i64 ((k % (most + 1) : Nat) : Int)) 1 = .int .i64 ((k % (most + 1) : Nat) : Int) from rfl, upd_odd _ _ _ _ (by omega), enF_two, hs]
        refine hc.mono fun en w2 ⟨x, b', he, hR⟩ => ⟨_, he, ?_⟩
        refine OpK.extract (vs := #[x, .bool b']) (v := x) (by simp [upd]) rfl ?_
        refine OpK.extract (vs := #[x, .bool b']) (v := .bool b') (by simp [upd]) rfl ?_
        simp only [RC]
        refine hn _ w2 x b' hR (fun t ht => ?_) ?_ ?_
        · rw [outF_free hfree ht, upd_odd _ _ _ _ (by omega), upd_odd _ _ _ _ (by omega), upd_odd _ _ _ _ (by omega), upd_odd _ _ _ _ (by omega), enF_two]
        · simp [outF, look, hne, upd]
        · rw [outF_head]; simp [upd]
      · cases h
    · cases h
  · cases h

def chkAny (P : Program) (fn : Func) (F : AnyF) : Bool :=
  match fn.body, resTmp fn with
  | some c, some res => fits fn.ntmps c && Nat.ble 2 fn.ntmps && match flat c with
    | [c0, c1, .cond (.tmp t1) A1 B1, c2, c3, .cond (.tmp t3) A3 B3, c4, .cond (.tmp t4) A4 B4, c5, c6, .cond (.tmp t6) A6 B6, c7, c8, c9] => isIdle [0, 1] c0 && match lenGt P [0, 1] 2147483647 c1, canR c2, canR c3 with
      | some t1', some ⟨[(o2, _)], (mo, 1) :: b2⟩, some ⟨[(.binOp .lss _ (.tmp m2) (.const (.int .i64 0)) _, _)], (t3', 1) :: b3⟩ => match asCall o2, lenGt P [0, 1, mo] 1000 c4, verAg F [0, 1, mo] mo 1 c5 with
        | some (f2, []), some t4', some (a, ok) => match canR c6, verAg F [a] mo a c7 with
          | some ⟨[(.unOp .not _ (.tmp ok2), _)], (t6', 1) :: b6⟩, some (b, too) => f2 == F.mx && m2 == 2 * mo && ok2 == 2 * ok && t1 == t1' && t3 == t3' && t4 == t4' && t6 == t6' && (flat B1).isEmpty && (flat B3).isEmpty && (flat B4).isEmpty && (flat B6).isEmpty &&
              retB res true (flat A1) && retB res false (flat A3) && retB res true (flat A4) && retB res true (flat A6) && free [0, 1] ((mo, 1) :: b2) && free [0, 1, mo] ((t3', 1) :: b3) && free [0, mo, a] ((t6', 1) :: b6) && sameEnd F res a b too [c8, c9]
          | _, _ => false
        | _, _, _ => false
      | _, _, _ => false
    | _ => false
  | _, _ => false

/-- THE LAW: whatever the octets. -/
theorem chkAny_calls {P : Program} {e : TypeId} {full : Bool} {tR : TypeId} {gE : Nat} {T : Ty} {s : Sch} {ff : Option Int} {tab : List (Nat × Rf)} {tabW : List (Nat × Ap)} {Fa : AgF} {rf : FuncId} {ps ps' : List (Nat × V)} {most : Nat}
    (M : Msg P e full tR gE T s ff tab tabW Fa rf ps ps' (most : Int)) {F : AnyF} {f : FuncId} {fn fag : Func} (hf : P.funcs[f]? = some fn) (h : chkAny P fn F = true) (hv : VerIs P F.vf) (hmx : MaxIs P F.mx most) (hm1000 : most < 1000) (hsame : SameIs P F.same)
    (hag1 : P.funcs[F.ag]? = some fag) (hag2 : chkAg P e fag Fa = true) (hag3 : Callable P F.ag) {w : World} {S : Nat → Prop} {n : Nat} {src : Value} {l : List UInt8} {tE : TypeId} {vE : Value}
    (hn : n < 256) (hsrc : OctIs w S l src) (hS : ∀ k, S k → k < w.heap.size) (herr : w.cell? ⟨gE, 0, none⟩ = some (.iface tE vE)) (hgE : gE < w.heap.size) :
    Calls P f #[.int .u8 (n : Int), src] w fun en w' => en = .returned (.bool true) ∧ Ch (fun _ => False) w w' := by
  unfold chkAny at h
  split at h
  · rename_i c res hbody hres
    simp only [Bool.and_eq_true] at h
    obtain ⟨⟨hfit, hnt⟩, h⟩ := h
    split at h
    · rename_i c0 c1 t1 A1 B1 c2 c3 t3 A3 B3 c4 t4 A4 B4 c5 c6 t6 A6 B6 c7 c8 c9 hflat
      simp only [Bool.and_eq_true] at h
      obtain ⟨h0, h⟩ := h
      split at h
      · rename_i t1' o2 ty2 mo b2 u3 m2 u4 ty3 t3' b3 hg1 hc2 hc3
        split at h
        · rename_i f2 t4' a ok ho2 hg4 hva
          split at h
          · rename_i u6 ok2 ty6 t6' b6 b too hc6 hvb
            simp only [Bool.and_eq_true, beq_iff_eq, List.isEmpty_iff] at h
            obtain ⟨⟨⟨⟨⟨⟨⟨⟨⟨⟨⟨⟨⟨⟨⟨⟨⟨⟨rfl, rfl⟩, rfl⟩, rfl⟩, rfl⟩, rfl⟩, rfl⟩, hB1⟩, hB3⟩, hB4⟩, hB6⟩, hA1⟩, hA3⟩, hA4⟩, hA6⟩, hf2⟩, hf3⟩, hf6⟩, hend⟩ := h
            refine (Calls.of_CW hf hbody hfit (by simpa using hnt) (CW.of_flat ?_) (R := fun x w' => x = .bool true ∧ Ch (fun _ => False) w w')).mono fun en w' ⟨x, he, hx, hR⟩ => ⟨by rw [he, hx], hR⟩
            rw [hflat]
            obtain ⟨ad, cc, hsl⟩ : ∃ a c, src = .slice a l.length c := by
              rcases hsrc with ⟨h1, h2⟩ | ⟨a, c, h1, _⟩
              · exact ⟨none, 0, by rw [h1, h2]; rfl⟩
              · exact ⟨some a, c, h1⟩
            refine CWL.idle h0 fun σ0 he0 => ?_
            have e0 : σ0 0 = .int .u8 (n : Int) := (he0 0 (by simp)).trans rfl
            have e1 : σ0 1 = src := (he0 1 (by simp)).trans rfl
            refine lenGt_sound hg1 (e1.trans hsl) fun σ1 k1 ht1 => ?_
            by_cases hbig : ((l.length : Int) > 2147483647)
            · refine CWL.condT (by simp only [ev_tmp, ht1]; simp [hbig]) (CWL.append ?_)
              exact retB_sound hA1 hres (fun _ _ h => h) ⟨rfl, Ch.refl _ _⟩
            refine CWL.condF (by simp only [ev_tmp, ht1]; simp [hbig]) ?_
            rw [hB1, List.nil_append]
            refine CWL.regG hc2 (OpK.asCall ho2 hmx.1 rfl ?_)
            simp only [List.map_nil]
            refine (hmx.2 w).mono fun en w1 ⟨he, hch1⟩ => ⟨_, he, ?_⟩
            simp only [RC]
            intro σ2 hσ2
            have k2m : σ2 mo = .int .i64 (most : Int) := by rw [hσ2, outF_head]; simp
            have k2 : ∀ t ∈ [0, 1], σ2 t = σ0 t := fun t ht => by rw [hσ2, outF_free hf2 ht, upd_odd _ _ _ _ (by omega), enF_two]; exact k1 t ht
            refine CWL.regG hc3 (OpK.cmp (op := .lss) (k := .i64) (a := (most : Int)) (b := 0) rfl (by simp only [ev_tmp, enF_two]; exact k2m) rfl ?_)
            simp only [RC]
            intro σ3 hσ3
            have k3 : ∀ t ∈ [0, 1, mo], σ3 t = σ2 t := fun t ht => by rw [hσ3, outF_free hf3 ht, upd_odd _ _ _ _ (by omega), enF_two]
            refine CWL.condF (by simp only [ev_tmp]; rw [hσ3, outF_head]; simp [upd]) ?_
            rw [hB3, List.nil_append]
            have e31 : σ3 1 = src := (k3 1 (by simp)).trans ((k2 1 (by simp)).trans e1)
            refine lenGt_sound hg4 (e31.trans hsl) fun σ4 k4 ht4 => ?_
            by_cases hbig2 : ((l.length : Int) > 1000)
            · refine CWL.condT (by simp only [ev_tmp, ht4]; simp [hbig2]) (CWL.append ?_)
              exact retB_sound hA4 hres (fun _ _ h => h) ⟨rfl, hch1⟩
            refine CWL.condF (by simp only [ev_tmp, ht4]; simp [hbig2]) ?_
            rw [hB4, List.nil_append]
            have e40 : σ4 0 = .int .u8 (n : Int) := (k4 0 (by simp)).trans ((k3 0 (by simp)).trans ((k2 0 (by simp)).trans e0))
            have e41 : σ4 1 = src := (k4 1 (by simp)).trans e31
            have e4m : σ4 mo = .int .i64 (most : Int) := (k4 mo (by simp)).trans ((k3 mo (by simp)).trans k2m)
            -- the version
            have hver0 : (0 : Int) ≤ ((n % (most + 1) : Nat) : Int) := by omega
            have hverm : ((n % (most + 1) : Nat) : Int) ≤ (most : Int) := by have := Nat.mod_lt n (show 0 < most + 1 by omega); omega
            generalize hvd : ((n % (most + 1) : Nat) : Int) = ver at hver0 hverm
            have hsrc1 : OctIs w1 S l src := hsrc.keep fun k hk => hch1.block k (hS k hk) fun h => h
            have herr1 : w1.cell? ⟨gE, 0, none⟩ = some (.iface tE vE) := (ch_cell hch1 (a := ⟨gE, 0, none⟩) hgE (fun h => h) rfl).trans herr
            have hs1 := hch1.size
            refine verAg_sound hva hv hag3 (R := fun x b w' => Ch (fun _ => False) w1 w' ∧ AgIs w1 w' ((dec ver (flexAt ff ver) s (V0 T ps ps' ver) l).map fun y => enc ver (flexAt ff ver) s y.1) x b) (k := n) (most := most) (vs := src) e40 hn e4m hm1000 e41 (by rw [hvd]; exact chkAg_calls M hag1 hag2 (ver := ver) hver0 hverm hsrc1 (fun k hk => Nat.lt_of_lt_of_le (hS k hk) hs1) (by omega) herr1 (by omega)) fun σ5 w5 x b' ⟨hch5, hag5⟩ k5 h5a h5k => ?_
            have hch05 : Ch (fun _ => False) w w5 := hch1.trans' hch5
            refine CWL.regG hc6 (OpK.not (b := b') (by simp only [ev_tmp, enF_two]; exact h5k) ?_)
            simp only [RC]
            intro σ6 hσ6
            have k6 : ∀ t ∈ [0, mo, a], σ6 t = σ5 t := fun t ht => by rw [hσ6, outF_free hf6 ht, upd_odd _ _ _ _ (by omega), enF_two]
            have ht6 : σ6 t6 = .bool (!b') := by rw [hσ6, outF_head]; simp [upd]
            cases hd : dec ver (flexAt ff ver) s (V0 T ps ps' ver) l with
            | none =>
              rw [hd] at hag5
              obtain ⟨rfl, _⟩ := hag5
              refine CWL.condT (by simp only [ev_tmp, ht6]; rfl) (CWL.append ?_)
              exact retB_sound hA6 hres (fun _ _ h => h) ⟨rfl, hch05⟩
            | some y =>
              rw [hd] at hag5
              obtain ⟨rfl, hoct⟩ := hag5
              refine CWL.condF (by simp only [ev_tmp, ht6]; rfl) ?_
              rw [hB6, List.nil_append]
              -- what was read is read again
              have hok := M.ok ver hver0 hverm
              obtain ⟨hgood, hlen, _⟩ := dec_good s hok (M.start ver) (by omega) hd
              obtain ⟨v', hd2, henc, _⟩ := dec_enc s [] hok (M.start ver) hgood
              rw [List.append_nil] at hd2
              have herr5 : w5.cell? ⟨gE, 0, none⟩ = some (.iface tE vE) := (ch_cell hch05 (a := ⟨gE, 0, none⟩) hgE (fun h => h) rfl).trans herr
              have hs5 := hch05.size
              refine verAg_sound hvb hv hag3 (R := fun x' b w' => Ch (fun _ => False) w5 w' ∧ AgIs w5 w' ((dec ver (flexAt ff ver) s (V0 T ps ps' ver) (enc ver (flexAt ff ver) s y.1)).map fun y => enc ver (flexAt ff ver) s y.1) x' b) (k := n) (most := most) (vs := x) ((k6 0 (by simp)).trans ((k5 0 (by simp)).trans e40)) hn ((k6 mo (by simp)).trans ((k5 mo (by simp)).trans e4m)) hm1000 ((k6 a (by simp)).trans h5a)
                (by rw [hvd]; exact chkAg_calls M hag1 hag2 (ver := ver) hver0 hverm hoct (fun k hk => hk.2) (by omega) herr5 (by omega)) fun σ7 w7 x2 b2' ⟨hch7, hag7⟩ k7 h7b h7t => ?_
              have hd3 : dec ver (flexAt ff ver) s (V0 T ps ps' ver) (enc ver (flexAt ff ver) s y.1) = some (v', []) := hd2
              rw [hd3] at hag7
              simp only [Option.map_some, AgIs] at hag7
              obtain ⟨rfl, hoct7⟩ := hag7
              rw [henc] at hoct7
              have hoct7a : OctIs w7 (fun k => k < w7.heap.size) (enc ver (flexAt ff ver) s y.1) x := by
                have := hoct.keep (w' := w7) fun k hk => hch7.block k hk.2 fun h => h
                rcases this with h | ⟨a1, c1, h1, h2, h3, h4⟩
                · exact .inl h
                · exact .inr ⟨a1, c1, h1, h2, Nat.lt_of_lt_of_le h3.2 hch7.size, h4⟩
              have hoct7b : OctIs w7 (fun k => k < w7.heap.size) (enc ver (flexAt ff ver) s y.1) x2 := by
                rcases hoct7 with h | ⟨a1, c1, h1, h2, h3, h4⟩
                · exact .inl h
                · exact .inr ⟨a1, c1, h1, h2, h3.2, h4⟩
              refine sameEnd_sound hend hsame hres (va := x) (vb := x2) ((k7 a (by simp)).trans ((k6 a (by simp)).trans h5a)) h7b h7t hoct7a hoct7b (fun k hk => hk) (by omega) (by omega) fun w' hc' => ⟨by simp, (hch05.trans' hch7).trans' hc'⟩
          · cases h
        · cases h
      · cases h
    · cases h
  · cases h
end Go.Kx
namespace Go.Kx
theorem CWL.gen {P : Program} {n : Nat} {cs : List Code} {σ : Fm} {w : World} {Q : Exit → Fm → World → Prop} (h : ∀ σ', σ' = σ → CWL P n cs σ' w Q) : CWL P n cs σ w Q := h σ rfl
end Go.Kx

/- From a walk to a statement: laws over an octet and a list of octets. -/
namespace Go.Kx
open Go.ChangeShapes Go.WideShapes Go.ChangeAt Go.RowKit
set_option linter.unusedSimpArgs false
set_option linter.unusedVariables false

theorem rfAt_all {tab : List (Nat × Rf)} {p : Nat → Rf → Prop} (h : ∀ x ∈ tab, p x.1 x.2) : ∀ f a, rfAt tab f = some a → p f a := by
  intro f a hf
  unfold rfAt at hf
  simp only [Option.map_eq_some_iff] at hf
  obtain ⟨x, hx, rfl⟩ := hf
  have h1 := List.find?_some hx
  simp only [beq_iff_eq] at h1
  rw [← h1]
  exact h x (List.mem_of_find?_eq_some hx)
theorem okAll {ff : Option Int} {s : Sch} (m : Nat) (h : ((List.range (m + 1)).all fun k => okB (k : Int) (flexAt ff (k : Int)) s) = true) : ∀ ver : Int, 0 ≤ ver → ver ≤ (m : Int) → okB ver (flexAt ff ver) s = true := by
  intro ver h0 hm
  have := List.all_eq_true.1 h ver.toNat (List.mem_range.2 (by omega))
  rwa [show ((ver.toNat : Nat) : Int) = ver by omega] at this

/-- The error that the row lists: what the walk reads of it. -/
theorem errAt {P : Program} {W : World} {name nm : String} {d : DataW Unit} {rest : List (String × DataW Unit)} {g : Nat} {t : TypeId} {ms : Array (String × TypeId)} (hg : P.globalNamed name = some g) (hty : (P.globals[g]?).map (·.type) = some t) (ht : P.underlying t = some (.interface ms))
    (h : laidMet P ((name, .iface nm d) :: rest) W) : ∃ tE vE, W.cell? ⟨g, 0, none⟩ = some (.iface tE vE) ∧ g < W.heap.size := by
  obtain ⟨ps, ⟨g', t', cs, fuel, p, q, hg', ht', hvar, hd, _, _⟩, _⟩ := h
  obtain rfl := Option.some.inj (hg.symm.trans hg')
  obtain rfl := Option.some.inj (hty.symm.trans ht')
  obtain ⟨fuel', u, v, hcs, _, _⟩ := iface_of_trod ht hd
  have hc := World.var?_cell hg hvar 0
  have e0 : cs[0]? = some (.iface u v) := by
    rw [← Array.getElem?_toList, hcs]; rfl
  rw [e0] at hc
  refine ⟨u, v, hc, ?_⟩
  exact Nat.lt_of_not_le fun hn => by
    rw [World.cell?, Array.getElem?_eq_none hn] at hc
    cases hc

/-- A list of octets that comes in. -/
theorem src_open {H : Type} {enc : TypeId × Value → H} {P : Program} {w : World} {t e : TypeId} {base : Nat} {v : Value} {d : DataW H} {ps : List MemPlace} (ht : P.underlying t = some (.slice e)) (he : P.underlying e = some (.int .u8)) (hc : P.cellsOf e = 1)
    (hval : Value.okWide P w .any base t v) (hd : DataW.Trod enc P w 0 (fun _ => true) true t v d ps) : ∃ l, OctIs w (fun k => k < w.heap.size) l v := by
  obtain ⟨a0, n0, c0, rfl⟩ := okWide_slice ht hval
  obtain ⟨fuel, hf⟩ := hd
  rcases open_ints ht he hc hf with ⟨hcs, hx⟩ | ⟨a, len, cap, zs, hcs, _, hl, hm, hz, hx, hcell, hwz⟩
  · exact ⟨[], .inl ⟨by simpa [Value.cells] using hcs, rfl⟩⟩
  · simp [Value.cells] at hcs
    obtain ⟨rfl, rfl, rfl⟩ := hcs
    simp only [if_true] at hz
    have hblk : a.block < w.heap.size := by
      simp only [Value.okWide, ht, Cell.okWide, Cell.ok] at hval
      obtain ⟨_, _, _, _, row, cells, hsh, _⟩ := hval
      exact Nat.lt_of_not_le fun hn => by
        simp [World.shape?, Array.getElem?_eq_none hn] at hsh
    refine ⟨(zs.take n0).map fun z => UInt8.ofNat z.toNat, .inr ⟨a, c0, by simp [hz]; omega, by simp; omega, hblk, fun i u hu => ?_⟩⟩
    simp only [List.getElem?_map, Option.map_eq_some_iff] at hu
    obtain ⟨z, hzi, rfl⟩ := hu
    have hi : i < zs.length ∧ zs[i]? = some z := by
      rw [List.getElem?_take] at hzi
      split at hzi
      · exact ⟨(List.getElem?_eq_some_iff.1 hzi).1, hzi⟩
      · cases hzi
    rw [hcell i hi.1]
    have hb : 0 ≤ z ∧ z ≤ 255 := by
      have h5 := hwz z (List.mem_of_getElem? hi.2)
      have e1 : IntKind.u8.min = 0 := rfl
      have e2 : IntKind.u8.max = 255 := rfl
      simpa [Lit.wf, e1, e2] using h5
    have e3 : zs.getD i 0 = z := by simp [List.getD, hi.2]
    rw [e3, bv]
    congr 2
    simp
    omega

theorem oct_contract {H : Type} {enc : TypeId × Value → H} {P : Program} {f : FuncId} {fn : Func} {u8 sl bo : TypeId} {s : ChangeSpec} {W : World} {base : Nat} {args : Array Value} {ds gs : List (DataW H)} {before : List MemPlace}
    (hpar : fn.params = #[u8, sl]) (hres : fn.resultTypes = #[bo]) (h8 : P.underlying u8 = some (.int .u8)) (hsl : P.underlying sl = some (.slice u8)) (hc : P.cellsOf u8 = 1) (hb : P.underlying bo = some .bool)
    (hlo : laidOutB P = true) (hrr : P.readableRec sl = true) (hlt : sl < P.types.size) (hvars : s.vars = []) (hs : ∀ d1 d2, s.fn H [d1, d2] = { results := [.lit (.bool true)], args := [d1, d2] })
    (hval : ∀ (j : Nat) t v, fn.params[j]? = some t → args[j]? = some v → Value.okWide P W .any base t v)
    (hW : DataW.Whole enc P fn.params.toList s.vars false W args.toList ds gs before)
    (walk : ∀ (n : Nat) src l, n < 256 → OctIs W (fun k => k < W.heap.size) l src → Calls P f #[.int .u8 (n : Int), src] W fun e w' => e = .returned (.bool true) ∧ Ch (fun _ => False) W w') :
    Calls P f args W fun e W' => ∃ v, e = .returned v ∧ s.post enc P fn false true false false W args v W' := by
  have hW' := hW
  obtain ⟨p, q, hA0, hV, rfl, hfz, hnd⟩ := hW
  have hA : DataW.TrodAll enc P W 0 (fun _ => true) true fn.params.toList args.toList ds p := hA0
  rw [hpar] at hA hval
  obtain ⟨v0, vs0, d0, ds0, p0, q0, hargs, rfl, rfl, h0, r0⟩ := trodAll_cons hA
  obtain ⟨v1, vs1, d1, ds1, p1, q1, hargs1, rfl, rfl, h1, r1⟩ := trodAll_cons r0
  obtain ⟨rfl, rfl, rfl⟩ := trodAll_nil r1
  subst hargs1
  obtain rfl : args = #[v0, v1] := by cases args; simp_all
  rw [hvars] at hV
  obtain ⟨rfl, rfl⟩ := trodVars_none hV
  obtain ⟨a0, rfl, rfl, rfl, w0⟩ := open_int h8 (hval 0 u8 v0 rfl rfl) h0
  obtain ⟨l, hl⟩ := src_open hsl h8 hc (hval 1 sl v1 rfl rfl) h1
  have hx : 0 ≤ a0 ∧ a0 ≤ 255 := by simpa [Lit.wf, IntKind.min, IntKind.max, IntKind.signed, IntKind.bits] using w0
  obtain ⟨n, rfl⟩ := Int.eq_ofNat_of_zero_le hx.1
  simp only [List.append_nil, List.nil_append] at hW'
  have hlt1 : ∀ x ∈ p1, x.block < W.heap.size := fun x hx => by simpa using hW'.lt x hx
  refine (walk n v1 l (by omega) hl).mono fun e W' ⟨he, hg⟩ => ?_
  subst he
  have hbel : Below W.heap.size W W' := hg.below (Nat.le_refl _) fun _ _ h => h
  have hsp := hs (.lit (.int .u8 (n : Int))) d1
  refine ⟨_, rfl, _, _, _, [], p1, [], hW', ?_, ?_, ?_, hbel.frame _, fun h => by cases h⟩
  · rw [show ([.lit (.int .u8 (n : Int)), d1] ++ [] : List (DataW H)) = [.lit (.int .u8 (n : Int)), d1] from rfl, hsp, hres]
    exact trodAll_mk1 (shut_bool hb _)
  · rw [show ([.lit (.int .u8 (n : Int)), d1] ++ [] : List (DataW H)) = [.lit (.int .u8 (n : Int)), d1] from rfl, hsp, hpar]
    exact trodAll_cons_mk (p := []) (shut_int h8 w0) (trodAll_mk1 (Below.trod hlo hrr hlt h1 hbel hlt1))
  · rw [show ([.lit (.int .u8 (n : Int)), d1] ++ [] : List (DataW H)) = [.lit (.int .u8 (n : Int)), d1] from rfl, hsp, hvars]
    rfl
end Go.Kx

/- Going through a map of tags: what the steps do. -/
namespace Go.Kx
open Go.RowKit
set_option linter.unusedSimpArgs false
set_option linter.unusedVariables false
theorem nodup_at {α : Type} {l : List α} (h : l.Nodup) {i j : Nat} {hi : i < l.length} {hj : j < l.length} (e : l[i] = l[j]) : i = j := by
  have hp := List.pairwise_iff_getElem.1 h
  rcases Nat.lt_trichotomy i j with h1 | h1 | h1
  · exact absurd e (hp i j hi hj h1)
  · exact h1
  · exact absurd e.symm (hp j i hj hi h1)
section
variable {P : Program} {ρ : Operand → Value} {w : World} {K : Value → World → Prop} {d : Option Tmp} {ty : TypeId} {pos : String} {af : Array Edge} {g : Option (Nat × Bool)}

theorem OpK.range {x : Operand} {t kt et : TypeId} {r : Nat} {es : Array MapEntry} {clk : Nat} (ht : P.underlying t = some (.map kt et)) (hx : ρ x = .map (some r)) (hr : w.heap[r]? = some (.map es clk))
    (h : K (.pointer (some ⟨w.heap.size, 0, none⟩)) (w.alloc (.mapIter (some r) clk #[] clk))) : OpK P ρ ⟨d, .range t x, ty, pos, af, g⟩ w K := by
  simp only [OpK, execOp, hx, run_range_map w t kt et r es clk ht hr, Sem.run_bind, Result.andThen_ok, Sem.run_pure, After]
  exact h

theorem OpK.next {x : Operand} {r bm since c0 : Nat} {seen : Array Nat} {es : Array MapEntry} {clk : Nat} (hx : ρ x = .pointer (some ⟨r, 0, none⟩)) (hr : w.heap[r]? = some (.mapIter (some bm) since seen c0)) (hb : w.heap[bm]? = some (.map es clk))
    (hold : ∀ e ∈ es.toList, e.born < since) (hsc : since ≤ c0)
    (h0 : (leftOf es seen).size = 0 → K (.tuple #[.bool false]) w)
    (h1 : ∀ e ∈ (leftOf es seen).toList, ∀ w1 : World, (w1 = w ∨ w1 = w.drew) → K (.tuple #[.bool true, e.key, e.val]) (ChangeMaps.setBlock w1 r (.mapIter (some bm) since (seen.push e.born) clk))) : OpK P ρ ⟨d, .next x false, ty, pos, af, g⟩ w K := by
  rcases run_next_at (P := P) w ty r bm since c0 seen es clk hr hb hold hsc with ⟨hs, hrun⟩ | ⟨e, he, w1, hw, hrun⟩
  · simp only [OpK, execOp, hx, hrun, Sem.run_bind, Result.andThen_ok, Sem.run_pure, After]
    exact h0 hs
  · simp only [OpK, execOp, hx, hrun, Sem.run_bind, Result.andThen_ok, Sem.run_pure, After]
    exact h1 e he w1 hw

theorem OpK.entry {x : Operand} {r bm since : Nat} {seen : Array Nat} {es : Array MapEntry} {clk : Nat} {e : MapEntry} (hx : ρ x = .pointer (some ⟨r, 0, none⟩)) (hr : w.heap[r]? = some (.mapIter (some bm) since (seen.push e.born) clk)) (hb : w.heap[bm]? = some (.map es clk))
    (he : e ∈ es.toList) (hn : (es.toList.map (·.born)).Nodup) (h : K (.tuple #[e.key, e.val]) w) : OpK P ρ ⟨d, .entry x, ty, pos, af, g⟩ w K := by
  simp only [OpK, execOp, hx, run_entry_at w r bm since seen es clk e hr hb he hn, Sem.run_bind, Result.andThen_ok, Sem.run_pure, After]
  exact h

/-- The value at a key that is there. -/
theorem OpK.lookTag {x y : Operand} {t kt et : TypeId} {r : Nat} {es : Array MapEntry} {clk k : Nat} {S : Nat → Prop} {l : List (Nat × List UInt8)} {xs : List UInt8} (ht : P.underlying t = some (.map kt et)) (hk : P.underlying kt = some (.int .u32)) (hx : ρ x = .map (some r)) (hy : ρ y = .int .u32 (k : Int)) (hr : w.heap[r]? = some (.map es clk))
    (hn : (l.map (·.1)).Nodup) (hA : All2 (TagAt w S) es.toList l) (hm : (k, xs) ∈ l)
    (h : ∀ v, OctIs w S xs v → K v w) : OpK P ρ ⟨d, .lookup t x y false, ty, pos, af, g⟩ w K := by
  have hkey : MapKept.IsKey (.int .u32) (.int .u32 (k : Int)) := rfl
  have hlen := hA.len
  have hkeys : ∀ e ∈ es.toList, MapKept.IsKey (.int .u32) e.key := by
    intro e he
    obtain ⟨i, hi⟩ := List.mem_iff_getElem?.1 he
    have hlt : i < l.length := by rw [← hlen]; exact (List.getElem?_eq_some_iff.1 hi).1
    have := (hA.at_ i e l[i] hi (List.getElem?_eq_getElem hlt)).1
    rw [this]
    rfl
  obtain ⟨i, hi⟩ := List.mem_iff_getElem?.1 hm
  have hie : i < es.toList.length := by rw [hlen]; exact (List.getElem?_eq_some_iff.1 hi).1
  have hT := hA.at_ i es.toList[i] (k, xs) (List.getElem?_eq_getElem hie) hi
  rcases MapKept.findNow_spec hkey es.toList 0 hkeys with ⟨h1, h2⟩ | ⟨j, e, h1, h2, h3⟩
  · exact absurd hT.1 (h2 _ (List.getElem_mem hie))
  · simp only [Nat.zero_add] at h1
    have hjl : j < l.length := by rw [← hlen]; exact (List.getElem?_eq_some_iff.1 h2).1
    have hTj := hA.at_ j e l[j] h2 (List.getElem?_eq_getElem hjl)
    have hkj : l[j].1 = k := by
      have := hTj.1
      rw [h3] at this
      simp only [Value.int.injEq] at this
      omega
    have hij : l[j] = (k, xs) := by
      have hil : i < l.length := (List.getElem?_eq_some_iff.1 hi).1
      have hi2 : l[i] = (k, xs) := (List.getElem?_eq_some_iff.1 hi).2
      have e1 : (l.map (·.1))[j]'(by simpa using hjl) = (l.map (·.1))[i]'(by simpa using hil) := by simp [hkj, hi2]
      have := nodup_at hn e1
      subst this
      exact hi2
    have hrun : (Instr.lookup t (.map (some r)) (.int .u32 (k : Int)) false).run P w = .ok e.val w := by
      simp [Instr.lookup, run_underlying ht, MapKept.run_getObj_map hr, MapKept.run_checkKey hk hkey, MapKept.run_findKey hk h1, Result.andThen]
    simp only [OpK, execOp, hx, hy, hrun, Sem.run_bind, Result.andThen_ok, Sem.run_pure, After]
    refine h _ ?_
    rw [hij] at hTj
    rcases hTj.2.2 with ⟨q1, q2⟩ | ⟨a, c, q1, q2, q3, q4⟩
    · exact .inl ⟨q1, q2⟩
    · exact .inr ⟨a, c, q1, q2, q3, q4⟩
end
end Go.Kx
