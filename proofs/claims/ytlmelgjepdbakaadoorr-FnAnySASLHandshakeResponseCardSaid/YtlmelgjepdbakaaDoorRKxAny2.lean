/- The law 'Any' as a whole. -/
import Derived.Test.YtlmelgjepdbakaaDoorRKxAny
namespace Go.Kx
open Go.RowKit
set_option linter.unusedSimpArgs false
set_option linter.unusedVariables false

/-- A question in a region, and a return where it holds. -/
def lenGt (P : Program) (L : List Nat) (m : Int) (c : Code) : Option Nat :=
  match canR c with
  | some ⟨[(o, _), (.binOp .gtr _ (.tmp 1) (.const (.int .i64 m')) _, _)], (t, 3) :: b⟩ => match asLen o with
    | some (.tmp 2, tt) => if m' == m && (elemSize P tt).isSome && free L ((t, 3) :: b) then some t else none
    | _ => none
  | _ => none
theorem lenGt_sound {P : Program} {n : Nat} {L : List Nat} {m : Int} {c : Code} {t : Nat} (h : lenGt P L m c = some t) {rest : List Code} {σ : Fm} {w : World} {Q : Exit → Fm → World → Prop} {a : Option Addr} {k cc : Nat} (h1 : σ 1 = .slice a k cc)
    (hk : ∀ σ', (∀ t ∈ L, σ' t = σ t) → σ' t = .bool (decide ((k : Int) > m)) → CWL P n rest σ' w Q) : CWL P n (c :: rest) σ w Q := by
  unfold lenGt at h
  split at h
  · rename_i o ty1 u1 m' u2 ty2 t' b hc
    split at h
    · rename_i tt ho
      split at h
      · rename_i hh
        simp only [Option.some.injEq] at h
        subst h
        simp only [Bool.and_eq_true, beq_iff_eq] at hh
        obtain ⟨⟨rfl, hs⟩, hfree⟩ := hh
        obtain ⟨es, hes⟩ := Option.isSome_iff_exists.1 hs
        refine CWL.reg hc (OpK.asLen ho hes (by simp only [ev_tmp]; exact (enF_two σ 1).trans h1) ?_)
        refine OpK.cmp (op := .gtr) (k := .i64) (a := (k : Int)) (b := m') rfl (by simp [upd]) rfl ?_
        simp only [RC]
        refine hk _ (fun t ht => ?_) (by rw [outF_head]; simp [upd])
        rw [outF_free hfree ht, upd_odd _ _ _ _ (by omega), upd_odd _ _ _ _ (by omega), enF_two]
      · cases h
    · cases h
  · cases h

/-- A version, and the thin package's answer at it. -/
def verAg (F : AnyF) (L : List Nat) (mo src : Nat) (c : Code) : Option (Nat × Nat) :=
  match canR c with
  | some ⟨[(o1, _), (o2, _), (.extract (.tmp 3) 0, _), (.extract (.tmp 3) 1, _)], (ok, 7) :: (a, 5) :: b⟩ => match asCall o1, asCall o2 with
    | some (f1, [.tmp 0, .tmp m2]), some (f2, [.tmp 1, .tmp s2]) => if f1 == F.vf && f2 == F.ag && m2 == 2 * mo && s2 == 2 * src && ok != a && free L ((ok, 7) :: (a, 5) :: b) then some (a, ok) else none
    | _, _ => none
  | _ => none
theorem verAg_sound {P : Program} {n : Nat} {F : AnyF} {L : List Nat} {mo src : Nat} {c : Code} {a ok : Nat} (h : verAg F L mo src c = some (a, ok)) (hv : VerIs P F.vf) (hag : Callable P F.ag) {rest : List Code} {σ : Fm} {w : World} {Q : Exit → Fm → World → Prop} {k most : Nat} {vs : Value} {R : Value → Bool → World → Prop}
    (h0 : σ 0 = .int .u8 (k : Int)) (hk : k < 256) (hm : σ mo = .int .i64 (most : Int)) (hm2 : most < 1000) (hs : σ src = vs)
    (hc : Calls P F.ag #[.int .i64 ((k % (most + 1) : Nat) : Int), vs] w fun en w' => ∃ x b, en = .returned (.tuple #[x, .bool b]) ∧ R x b w')
    (hn : ∀ σ' w' x b, R x b w' → (∀ t ∈ L, σ' t = σ t) → σ' a = x → σ' ok = .bool b → CWL P n rest σ' w' Q) : CWL P n (c :: rest) σ w Q := by
  unfold verAg at h
  split at h
  · rename_i o1 ty1 o2 ty2 ty3 ty4 ok' a' b hcan
    split at h
    · rename_i f1 m2 f2 s2 ho1 ho2
      split at h
      · rename_i hh
        simp only [Option.some.injEq, Prod.mk.injEq] at h
        obtain ⟨rfl, rfl⟩ := h
        simp only [Bool.and_eq_true, beq_iff_eq, bne_iff_ne, ne_eq] at hh
        obtain ⟨⟨⟨⟨⟨rfl, rfl⟩, rfl⟩, rfl⟩, hne⟩, hfree⟩ := hh
        refine CWL.reg hcan (OpK.asCall ho1 hv.1 rfl ?_)
        simp only [List.map_cons, List.map_nil, ev_tmp]
        rw [show enF σ 0 = .int .u8 (k : Int) from (enF_two σ 0).trans h0, enF_two, hm]
        refine (hv.2 w k most hk hm2).mono fun en w1 ⟨v, he, hv1, hw⟩ => ⟨v, he, ?_⟩
        subst hw
        subst hv1
        refine OpK.asCall ho2 hag rfl ?_
        simp only [List.map_cons, List.map_nil, ev_tmp]
        rw [show upd (enF σ) (some (2 * 0 + 1)) (Value.int .i64 ((k % (most + 1) : Nat) : Int)) 1 = .int .i64 ((k % (most + 1) : Nat) : Int) from rfl, upd_odd _ _ _ _ (by omega), enF_two, hs]
        refine hc.mono fun en w2 ⟨x, b', he, hR⟩ => ⟨_, he, ?_⟩
        refine OpK.extract (vs := #[x, .bool b']) (v := x) (by simp [upd]) rfl ?_
        refine OpK.extract (vs := #[x, .bool b']) (v := .bool b') (by simp [upd]) rfl ?_
        simp only [RC]
        refine hn _ w2 x b' hR (fun t ht => ?_) ?_ ?_
        · rw [outF_free hfree ht, upd_odd _ _ _ _ (by omega), upd_odd _ _ _ _ (by omega), upd_odd _ _ _ _ (by omega), upd_odd _ _ _ _ (by omega), enF_two]
        · simp [outF, look, hne, upd]
        · rw [outF_head]; simp [upd]
      · cases h
    · cases h
  · cases h

def chkAny (P : Program) (fn : Func) (F : AnyF) : Bool :=
  match fn.body, resTmp fn with
  | some c, some res => fits fn.ntmps c && Nat.ble 2 fn.ntmps && match flat c with
    | [c0, c1, .cond (.tmp t1) A1 B1, c2, c3, .cond (.tmp t3) A3 B3, c4, .cond (.tmp t4) A4 B4, c5, c6, .cond (.tmp t6) A6 B6, c7, c8, c9] => isIdle [0, 1] c0 && match lenGt P [0, 1] 2147483647 c1, canR c2, canR c3 with
      | some t1', some ⟨[(o2, _)], (mo, 1) :: b2⟩, some ⟨[(.binOp .lss _ (.tmp m2) (.const (.int .i64 0)) _, _)], (t3', 1) :: b3⟩ => match asCall o2, lenGt P [0, 1, mo] 1000 c4, verAg F [0, 1, mo] mo 1 c5 with
        | some (f2, []), some t4', some (a, ok) => match canR c6, verAg F [a] mo a c7 with
          | some ⟨[(.unOp .not _ (.tmp ok2), _)], (t6', 1) :: b6⟩, some (b, too) => f2 == F.mx && m2 == 2 * mo && ok2 == 2 * ok && t1 == t1' && t3 == t3' && t4 == t4' && t6 == t6' && (flat B1).isEmpty && (flat B3).isEmpty && (flat B4).isEmpty && (flat B6).isEmpty &&
              retB res true (flat A1) && retB res false (flat A3) && retB res true (flat A4) && retB res true (flat A6) && free [0, 1] ((mo, 1) :: b2) && free [0, 1, mo] ((t3', 1) :: b3) && free [0, mo, a] ((t6', 1) :: b6) && sameEnd F res a b too [c8, c9]
          | _, _ => false
        | _, _, _ => false
      | _, _, _ => false
    | _ => false
  | _, _ => false

/-- THE LAW: whatever the octets. -/
theorem chkAny_calls {P : Program} {e : TypeId} {full : Bool} {tR : TypeId} {gE : Nat} {T : Ty} {s : Sch} {ff : Option Int} {tab : List (Nat × Rf)} {tabW : List (Nat × Ap)} {Fa : AgF} {rf : FuncId} {ps ps' : List (Nat × V)} {most : Nat}
    (M : Msg P e full tR gE T s ff tab tabW Fa rf ps ps' (most : Int)) {F : AnyF} {f : FuncId} {fn fag : Func} (hf : P.funcs[f]? = some fn) (h : chkAny P fn F = true) (hv : VerIs P F.vf) (hmx : MaxIs P F.mx most) (hm1000 : most < 1000) (hsame : SameIs P F.same)
    (hag1 : P.funcs[F.ag]? = some fag) (hag2 : chkAg P e fag Fa = true) (hag3 : Callable P F.ag) {w : World} {S : Nat → Prop} {n : Nat} {src : Value} {l : List UInt8} {tE : TypeId} {vE : Value}
    (hn : n < 256) (hsrc : OctIs w S l src) (hS : ∀ k, S k → k < w.heap.size) (herr : w.cell? ⟨gE, 0, none⟩ = some (.iface tE vE)) (hgE : gE < w.heap.size) :
    Calls P f #[.int .u8 (n : Int), src] w fun en w' => en = .returned (.bool true) ∧ Ch (fun _ => False) w w' := by
  unfold chkAny at h
  split at h
  · rename_i c res hbody hres
    simp only [Bool.and_eq_true] at h
    obtain ⟨⟨hfit, hnt⟩, h⟩ := h
    split at h
    · rename_i c0 c1 t1 A1 B1 c2 c3 t3 A3 B3 c4 t4 A4 B4 c5 c6 t6 A6 B6 c7 c8 c9 hflat
      simp only [Bool.and_eq_true] at h
      obtain ⟨h0, h⟩ := h
      split at h
      · rename_i t1' o2 ty2 mo b2 u3 m2 u4 ty3 t3' b3 hg1 hc2 hc3
        split at h
        · rename_i f2 t4' a ok ho2 hg4 hva
          split at h
          · rename_i u6 ok2 ty6 t6' b6 b too hc6 hvb
            simp only [Bool.and_eq_true, beq_iff_eq, List.isEmpty_iff] at h
            obtain ⟨⟨⟨⟨⟨⟨⟨⟨⟨⟨⟨⟨⟨⟨⟨⟨⟨⟨rfl, rfl⟩, rfl⟩, rfl⟩, rfl⟩, rfl⟩, rfl⟩, hB1⟩, hB3⟩, hB4⟩, hB6⟩, hA1⟩, hA3⟩, hA4⟩, hA6⟩, hf2⟩, hf3⟩, hf6⟩, hend⟩ := h
            refine (Calls.of_CW hf hbody hfit (by simpa using hnt) (CW.of_flat ?_) (R := fun x w' => x = .bool true ∧ Ch (fun _ => False) w w')).mono fun en w' ⟨x, he, hx, hR⟩ => ⟨by rw [he, hx], hR⟩
            rw [hflat]
            obtain ⟨ad, cc, hsl⟩ : ∃ a c, src = .slice a l.length c := by
              rcases hsrc with ⟨h1, h2⟩ | ⟨a, c, h1, _⟩
              · exact ⟨none, 0, by rw [h1, h2]; rfl⟩
              · exact ⟨some a, c, h1⟩
            refine CWL.idle h0 fun σ0 he0 => ?_
            have e0 : σ0 0 = .int .u8 (n : Int) := (he0 0 (by simp)).trans rfl
            have e1 : σ0 1 = src := (he0 1 (by simp)).trans rfl
            refine lenGt_sound hg1 (e1.trans hsl) fun σ1 k1 ht1 => ?_
            by_cases hbig : ((l.length : Int) > 2147483647)
            · refine CWL.condT (by simp only [ev_tmp, ht1]; simp [hbig]) (CWL.append ?_)
              exact retB_sound hA1 hres (fun _ _ h => h) ⟨rfl, Ch.refl _ _⟩
            refine CWL.condF (by simp only [ev_tmp, ht1]; simp [hbig]) ?_
            rw [hB1, List.nil_append]
            refine CWL.regG hc2 (OpK.asCall ho2 hmx.1 rfl ?_)
            simp only [List.map_nil]
            refine (hmx.2 w).mono fun en w1 ⟨he, hch1⟩ => ⟨_, he, ?_⟩
            simp only [RC]
            intro σ2 hσ2
            have k2m : σ2 mo = .int .i64 (most : Int) := by rw [hσ2, outF_head]; simp
            have k2 : ∀ t ∈ [0, 1], σ2 t = σ0 t := fun t ht => by rw [hσ2, outF_free hf2 ht, upd_odd _ _ _ _ (by omega), enF_two]; exact k1 t ht
            refine CWL.regG hc3 (OpK.cmp (op := .lss) (k := .i64) (a := (most : Int)) (b := 0) rfl (by simp only [ev_tmp, enF_two]; exact k2m) rfl ?_)
            simp only [RC]
            intro σ3 hσ3
            have k3 : ∀ t ∈ [0, 1, mo], σ3 t = σ2 t := fun t ht => by rw [hσ3, outF_free hf3 ht, upd_odd _ _ _ _ (by omega), enF_two]
            refine CWL.condF (by simp only [ev_tmp]; rw [hσ3, outF_head]; simp [upd]) ?_
            rw [hB3, List.nil_append]
            have e31 : σ3 1 = src := (k3 1 (by simp)).trans ((k2 1 (by simp)).trans e1)
            refine lenGt_sound hg4 (e31.trans hsl) fun σ4 k4 ht4 => ?_
            by_cases hbig2 : ((l.length : Int) > 1000)
            · refine CWL.condT (by simp only [ev_tmp, ht4]; simp [hbig2]) (CWL.append ?_)
              exact retB_sound hA4 hres (fun _ _ h => h) ⟨rfl, hch1⟩
            refine CWL.condF (by simp only [ev_tmp, ht4]; simp [hbig2]) ?_
            rw [hB4, List.nil_append]
            have e40 : σ4 0 = .int .u8 (n : Int) := (k4 0 (by simp)).trans ((k3 0 (by simp)).trans ((k2 0 (by simp)).trans e0))
            have e41 : σ4 1 = src := (k4 1 (by simp)).trans e31
            have e4m : σ4 mo = .int .i64 (most : Int) := (k4 mo (by simp)).trans ((k3 mo (by simp)).trans k2m)
            -- the version
            have hver0 : (0 : Int) ≤ ((n % (most + 1) : Nat) : Int) := by omega
            have hverm : ((n % (most + 1) : Nat) : Int) ≤ (most : Int) := by have := Nat.mod_lt n (show 0 < most + 1 by omega); omega
            generalize hvd : ((n % (most + 1) : Nat) : Int) = ver at hver0 hverm
            have hsrc1 : OctIs w1 S l src := hsrc.keep fun k hk => hch1.block k (hS k hk) fun h => h
            have herr1 : w1.cell? ⟨gE, 0, none⟩ = some (.iface tE vE) := (ch_cell hch1 (a := ⟨gE, 0, none⟩) hgE (fun h => h) rfl).trans herr
            have hs1 := hch1.size
            refine verAg_sound hva hv hag3 (R := fun x b w' => Ch (fun _ => False) w1 w' ∧ AgIs w1 w' ((dec ver (flexAt ff ver) s (V0 T ps ps' ver) l).map fun y => enc ver (flexAt ff ver) s y.1) x b) (k := n) (most := most) (vs := src) e40 hn e4m hm1000 e41 (by rw [hvd]; exact chkAg_calls M hag1 hag2 (ver := ver) hver0 hverm hsrc1 (fun k hk => Nat.lt_of_lt_of_le (hS k hk) hs1) (by omega) herr1 (by omega)) fun σ5 w5 x b' ⟨hch5, hag5⟩ k5 h5a h5k => ?_
            have hch05 : Ch (fun _ => False) w w5 := hch1.trans' hch5
            refine CWL.regG hc6 (OpK.not (b := b') (by simp only [ev_tmp, enF_two]; exact h5k) ?_)
            simp only [RC]
            intro σ6 hσ6
            have k6 : ∀ t ∈ [0, mo, a], σ6 t = σ5 t := fun t ht => by rw [hσ6, outF_free hf6 ht, upd_odd _ _ _ _ (by omega), enF_two]
            have ht6 : σ6 t6 = .bool (!b') := by rw [hσ6, outF_head]; simp [upd]
            cases hd : dec ver (flexAt ff ver) s (V0 T ps ps' ver) l with
            | none =>
              rw [hd] at hag5
              obtain ⟨rfl, _⟩ := hag5
              refine CWL.condT (by simp only [ev_tmp, ht6]; rfl) (CWL.append ?_)
              exact retB_sound hA6 hres (fun _ _ h => h) ⟨rfl, hch05⟩
            | some y =>
              rw [hd] at hag5
              obtain ⟨rfl, hoct⟩ := hag5
              refine CWL.condF (by simp only [ev_tmp, ht6]; rfl) ?_
              rw [hB6, List.nil_append]
              -- what was read is read again
              have hok := M.ok ver hver0 hverm
              obtain ⟨hgood, hlen, _⟩ := dec_good s hok (M.start ver) (by omega) hd
              obtain ⟨v', hd2, henc, _⟩ := dec_enc s [] hok (M.start ver) hgood
              rw [List.append_nil] at hd2
              have herr5 : w5.cell? ⟨gE, 0, none⟩ = some (.iface tE vE) := (ch_cell hch05 (a := ⟨gE, 0, none⟩) hgE (fun h => h) rfl).trans herr
              have hs5 := hch05.size
              refine verAg_sound hvb hv hag3 (R := fun x' b w' => Ch (fun _ => False) w5 w' ∧ AgIs w5 w' ((dec ver (flexAt ff ver) s (V0 T ps ps' ver) (enc ver (flexAt ff ver) s y.1)).map fun y => enc ver (flexAt ff ver) s y.1) x' b) (k := n) (most := most) (vs := x) ((k6 0 (by simp)).trans ((k5 0 (by simp)).trans e40)) hn ((k6 mo (by simp)).trans ((k5 mo (by simp)).trans e4m)) hm1000 ((k6 a (by simp)).trans h5a)
                (by rw [hvd]; exact chkAg_calls M hag1 hag2 (ver := ver) hver0 hverm hoct (fun k hk => hk.2) (by omega) herr5 (by omega)) fun σ7 w7 x2 b2' ⟨hch7, hag7⟩ k7 h7b h7t => ?_
              have hd3 : dec ver (flexAt ff ver) s (V0 T ps ps' ver) (enc ver (flexAt ff ver) s y.1) = some (v', []) := hd2
              rw [hd3] at hag7
              simp only [Option.map_some, AgIs] at hag7
              obtain ⟨rfl, hoct7⟩ := hag7
              rw [henc] at hoct7
              have hoct7a : OctIs w7 (fun k => k < w7.heap.size) (enc ver (flexAt ff ver) s y.1) x := by
                have := hoct.keep (w' := w7) fun k hk => hch7.block k hk.2 fun h => h
                rcases this with h | ⟨a1, c1, h1, h2, h3, h4⟩
                · exact .inl h
                · exact .inr ⟨a1, c1, h1, h2, Nat.lt_of_lt_of_le h3.2 hch7.size, h4⟩
              have hoct7b : OctIs w7 (fun k => k < w7.heap.size) (enc ver (flexAt ff ver) s y.1) x2 := by
                rcases hoct7 with h | ⟨a1, c1, h1, h2, h3, h4⟩
                · exact .inl h
                · exact .inr ⟨a1, c1, h1, h2, h3.2, h4⟩
              refine sameEnd_sound hend hsame hres (va := x) (vb := x2) ((k7 a (by simp)).trans ((k6 a (by simp)).trans h5a)) h7b h7t hoct7a hoct7b (fun k hk => hk) (by omega) (by omega) fun w' hc' => ⟨by simp, (hch05.trans' hch7).trans' hc'⟩
          · cases h
        · cases h
      · cases h
    · cases h
  · cases h
end Go.Kx
namespace Go.Kx
theorem CWL.gen {P : Program} {n : Nat} {cs : List Code} {σ : Fm} {w : World} {Q : Exit → Fm → World → Prop} (h : ∀ σ', σ' = σ → CWL P n cs σ' w Q) : CWL P n cs σ w Q := h σ rfl
end Go.Kx
