/- Tags of which one is known: a uuid under the number 0. -/
import Derived.Test.YtolbjfphpmojcaaDoorKxKept
namespace Go.Kx
open Go.RowKit
set_option linter.unusedSimpArgs false
set_option linter.unusedVariables false

abbrev UT := List UInt8 × List (Nat × List UInt8)
def z16 : List UInt8 := List.replicate 16 0
/-- So many tags are read; the one that is known is the uuid. -/
def decUN : Nat → UT → Dc UT
  | 0, a, l => some (a, l)
  | n + 1, a, l => (decUv l).bind fun k => (decUv k.2).bind fun s => (decSpan (s.1 : Int) s.2).bind fun x => if k.1 = 0 then (if x.1.length < 16 then none else decUN n (x.1.take 16, a.2) x.2) else decUN n (a.1, setTag a.2 k.1 x.1) x.2
def decU : Dc UT := fun l => (decUv l).bind fun n => decUN n.1 (z16, []) n.2
def encU (a : UT) : List UInt8 := uvar (word ((if a.1 = z16 then 0 else 1) + a.2.length)) ++ ((if a.1 = z16 then [] else encTag (0, a.1)) ++ encEach a.2)
structure GoodU (a : UT) : Prop where
  len : a.1.length = 16
  tags : GoodT a.2
  key : ∀ x ∈ a.2, 0 < x.1
  many : a.2.length + 1 < 4294967296

theorem decUN_enc (z : List UInt8) : ∀ (t acc : List (Nat × List UInt8)) (u : List UInt8), Rising t → (∀ x ∈ acc, ∀ y ∈ t, x.1 < y.1) → (∀ x ∈ t, x.1 < 4294967296 ∧ x.2.length < 4294967296) → (∀ x ∈ t, 0 < x.1) →
    decUN t.length (u, acc) (t.flatMap encTag ++ z) = some ((u, acc ++ t), z)
  | [], acc, u, _, _, _, _ => by simp [decUN]
  | x :: t, acc, u, h, ha, hs, hp => by
    have hx := hs x (by simp)
    have h0 := hp x (by simp)
    rw [List.length_cons, decUN, List.flatMap_cons, encTag, List.append_assoc, List.append_assoc, List.append_assoc, decUv_uvar _ hx.1]
    simp only [Option.bind_some]
    rw [word_eq hx.2, decUv_uvar _ hx.2]
    simp only [Option.bind_some]
    rw [decSpan_app x.2 _ rfl]
    simp only [Option.bind_some]
    rw [if_neg (by omega)]
    rw [setTag_new fun y hy => by have := ha y hy x (by simp); omega, decUN_enc z t (acc ++ [(x.1, x.2)]) u h.2 ?_ (fun y hy => hs y (List.mem_cons_of_mem _ hy)) fun y hy => hp y (List.mem_cons_of_mem _ hy)]
    · simp
    · intro a hm y hy
      rcases List.mem_append.1 hm with hm | hm
      · exact ha a hm y (List.mem_cons_of_mem _ hy)
      · simp only [List.mem_singleton] at hm
        subst hm
        exact h.1 y hy

theorem decU_enc {a : UT} (h : GoodU a) (z : List UInt8) : decU (encU a ++ z) = some ((a.1, sortTags a.2), z) := by
  obtain ⟨u, t⟩ := a
  have hl := h.len
  have ht := h.tags
  have hm := h.many
  simp only at hl ht hm
  unfold decU encU encEach
  simp only
  have hw : (if u = z16 then 0 else 1) + t.length < 4294967296 := by split <;> omega
  rw [List.append_assoc, word_eq hw, decUv_uvar _ hw]
  simp only [Option.bind_some]
  have hkey : ∀ x ∈ sortTags t, 0 < x.1 := fun x hx => h.key x (sortTags_mem.1 hx)
  have hsm : ∀ x ∈ sortTags t, x.1 < 4294967296 ∧ x.2.length < 4294967296 := fun x hx => ht.small x (sortTags_mem.1 hx)
  by_cases h0 : u = z16
  · rw [if_pos h0, if_pos h0, Nat.zero_add, List.nil_append, ← sortTags_len t, h0]
    have := decUN_enc z (sortTags t) [] z16 (sortTags_rising ht.nodup) (fun _ h => by cases h) hsm hkey
    simpa using this
  · rw [if_neg h0, if_neg h0, Nat.add_comm 1, decUN, List.append_assoc, encTag, List.append_assoc, List.append_assoc, decUv_uvar 0 (by omega)]
    simp only [Option.bind_some]
    rw [word_eq (by omega), decUv_uvar _ (by omega)]
    simp only [Option.bind_some]
    rw [decSpan_app u _ rfl]
    simp only [Option.bind_some, if_true]
    rw [if_neg (by omega), List.take_of_length_le (by omega), ← sortTags_len t]
    have := decUN_enc z (sortTags t) [] u (sortTags_rising ht.nodup) (fun _ h => by cases h) hsm hkey
    simpa using this
theorem encU_sort {u : List UInt8} {t : List (Nat × List UInt8)} (h : GoodT t) : encU (u, sortTags t) = encU (u, t) := by
  unfold encU encEach
  simp only
  rw [sortTags_len, sortTags_of_rising (sortTags_rising h.nodup)]

theorem decUN_good : ∀ (n : Nat) {a a' : UT} {l l' : List UInt8}, decUN n a l = some (a', l') → l.length < 4294967296 → (tagKeys a.2).Nodup → (∀ e ∈ a.2, e.1 < 4294967296 ∧ e.2.length < 4294967296) → (∀ e ∈ a.2, 0 < e.1) → a.1.length = 16 →
    (tagKeys a'.2).Nodup ∧ (∀ e ∈ a'.2, e.1 < 4294967296 ∧ e.2.length < 4294967296) ∧ (∀ e ∈ a'.2, 0 < e.1) ∧ a'.1.length = 16 ∧ a'.2.length + l'.length ≤ a.2.length + l.length ∧ tagsLen a'.2 + l'.length ≤ tagsLen a.2 + l.length
  | 0, a, a', l, l', h, _, hn, hs, hp, hu => by
    simp only [decUN, Option.some.injEq, Prod.mk.injEq] at h
    obtain ⟨rfl, rfl⟩ := h
    exact ⟨hn, hs, hp, hu, by omega, by omega⟩
  | n + 1, a, a', l, l', h, hl, hn, hs, hp, hu => by
    rw [decUN] at h
    obtain ⟨⟨k, l1⟩, h1, h2⟩ := Option.bind_eq_some_iff.1 h
    obtain ⟨⟨s, l2⟩, h3, h4⟩ := Option.bind_eq_some_iff.1 h2
    obtain ⟨⟨x, l3⟩, h5, h6⟩ := Option.bind_eq_some_iff.1 h4
    have b1 := decUv_len h1
    have b2 := decUv_len h3
    have b3 := decSpan_len h5
    simp only at b1 b2 b3 h6
    have p1 : 1 ≤ (uvar k).length := List.length_pos_iff.2 (uvar_ne k)
    split at h6
    · split at h6
      · cases h6
      · rename_i hk hx
        obtain ⟨f1, f2, f3, f4, f5, f6⟩ := decUN_good n h6 (by omega) hn hs hp (by simp only [List.length_take]; omega)
        exact ⟨f1, f2, f3, f4, by simp only at f5 ⊢; omega, by simp only at f6 ⊢; omega⟩
    · rename_i hk
      obtain ⟨g1, g2, g3, g4⟩ := setTag_good (k := k) (x := x) hn hs (decUv_lt h1) (by omega)
      have g5 : ∀ e ∈ setTag a.2 k x, 0 < e.1 := by
        intro e he
        unfold setTag at he
        split at he
        · obtain ⟨e', he', rfl⟩ := List.mem_map.1 he
          split
          · simp only; omega
          · exact hp e' he'
        · rcases List.mem_append.1 he with he | he
          · exact hp e he
          · simp only [List.mem_singleton] at he
            subst he
            simp only; omega
      obtain ⟨f1, f2, f3, f4, f5, f6⟩ := decUN_good n h6 (by omega) g1 g2 g5 hu
      have e1 : (encTag (k, x)).length = (uvar k).length + (uvar s).length + x.length := by
        simp only [encTag, List.length_append]
        rw [word_eq (by omega), show x.length = s by omega]
      refine ⟨f1, f2, f3, f4, ?_, ?_⟩ <;> simp only at f5 f6 ⊢ <;> omega
theorem decU_good {a : UT} {l l' : List UInt8} (h : decU l = some (a, l')) (hl : l.length < 1073741824) : GoodU a ∧ (encU a).length ≤ l.length + 64 := by
  unfold decU at h
  obtain ⟨⟨n, l1⟩, h1, h2⟩ := Option.bind_eq_some_iff.1 h
  have b1 := decUv_len h1
  simp only at b1 h2
  obtain ⟨f1, f2, f3, f4, f5, f6⟩ := decUN_good n h2 (by omega) (by simp [tagKeys]) (fun _ h => by cases h) (fun _ h => by cases h) (by simp [z16])
  simp only [List.length_nil, Nat.zero_add] at f5
  have f6' : tagsLen a.2 + l'.length ≤ l1.length := by simpa [tagsLen] using f6
  refine ⟨⟨f4, ⟨f1, f2, by omega⟩, f3, by omega⟩, ?_⟩
  unfold encU
  simp only [List.length_append, encEach_len]
  have hw : (uvar (word ((if a.1 = z16 then 0 else 1) + a.2.length))).length ≤ 5 := by
    rw [uvar_len (by unfold word; omega)]
    unfold uvLen
    repeat' split
    all_goals omega
  have h0 : (if a.1 = z16 then [] else encTag (0, a.1)).length ≤ 18 := by
    split
    · simp
    · simp only [encTag, List.length_append, f4]
      rw [uvar_len (by omega), uvar_len (by unfold word; omega)]
      decide
  omega

/-! ### The plain law of such a thing -/
def readKU (m : Int) (s : Sch) (v : V) (l : List UInt8) : Option ((V × UT) × List UInt8) :=
  (decInt .i16 2 l).bind fun y => (dec y.1 (decide (y.1 ≥ m)) s (v.put 0 (.i y.1)) y.2).bind fun x =>
    if decide (y.1 ≥ m) = true then (decU x.2).map fun a => ((x.1, a.1), a.2) else some ((x.1, (z16, [])), x.2)
def encKU (ver m : Int) (s : Sch) (v : V × UT) : List UInt8 :=
  enc ver (decide (ver ≥ m)) (.val .all 0 .i16 s) v.1 ++ if decide (ver ≥ m) = true then encU v.2 else []

theorem backKU {m : Int} {s : Sch} {v0 : V} {v : V × UT} {l l' : List UInt8} (h : readKU m s v0 l = some (v, l')) (hl : l.length < 536870912) (hok : ∀ ver fx, okB ver fx s = true) (hst : ∀ ver, startB s (v0.put 0 (.i ver)) = true)
    (h0 : s.keys.contains 0 = false) (hv0 : ∀ ver, (v0.put 0 (.i ver)).fld 0 = .i ver) :
    ∃ ver, v.1.fld 0 = .i ver ∧ IntKind.i16.wrap ver = ver ∧ v.2.1.length = 16 ∧ (encKU ver m s v).length ≤ l.length + 128 ∧ ∃ v', readKU m s v0 (encKU ver m s v) = some (v', []) ∧ v'.1.fld 0 = .i ver ∧ encKU ver m s v' = encKU ver m s v := by
  unfold readKU at h
  obtain ⟨⟨ver, l1⟩, h1, h2⟩ := Option.bind_eq_some_iff.1 h
  obtain ⟨⟨x, l2⟩, h3, h4⟩ := Option.bind_eq_some_iff.1 h2
  simp only at h3 h4
  have hwr : IntKind.i16.wrap ver = ver := decInt_in h1
  have b1 := decInt_len h1
  obtain ⟨g1, g2, g3⟩ := dec_good s (hok ver _) (hst ver) (by omega) h3
  have k0 : 0 ∉ s.keys := by rw [List.contains_eq_mem, decide_eq_false_iff_not] at h0; exact h0
  have hx0 : x.fld 0 = .i ver := by rw [g3 0 k0, hv0]
  have fin : ∀ (vv : V) (tail : List UInt8), vv.fld 0 = .i ver → enc ver (decide (ver ≥ m)) s vv = enc ver (decide (ver ≥ m)) s x → enc ver (decide (ver ≥ m)) (.val .all 0 .i16 s) vv ++ tail = be 2 ver ++ (enc ver (decide (ver ≥ m)) s x ++ tail) := by
    intro vv tail e0 e1
    simp only [enc, Vc.ok, if_true, e0, e1, encW, List.append_assoc]
  have rd : ∀ tail, ∃ x', dec ver (decide (ver ≥ m)) s (v0.put 0 (.i ver)) (enc ver (decide (ver ≥ m)) s x ++ tail) = some (x', tail) ∧ enc ver (decide (ver ≥ m)) s x' = enc ver (decide (ver ≥ m)) s x ∧ x'.fld 0 = .i ver := by
    intro tail
    obtain ⟨x', e1, e2, e3⟩ := dec_enc s tail (hok ver _) (hst ver) g1
    exact ⟨x', e1, e2, by rw [e3 0 k0, hv0]⟩
  cases hf : decide (ver ≥ m) with
  | false =>
    rw [hf] at h4 fin rd g2
    simp only [Bool.false_eq_true, if_false, Option.some.injEq, Prod.mk.injEq] at h4
    obtain ⟨rfl, rfl⟩ := h4
    obtain ⟨x', e1, e2, e3⟩ := rd []
    have hE : ∀ vv : V × UT, vv.1.fld 0 = .i ver → enc ver false s vv.1 = enc ver false s x → encKU ver m s vv = be 2 ver ++ (enc ver false s x ++ []) := fun vv a1 a2 => by
      unfold encKU
      rw [hf]
      simp only [Bool.false_eq_true, if_false]
      exact fin vv.1 [] a1 a2
    refine ⟨ver, hx0, hwr, by simp [z16], ?_, (x', (z16, [])), ?_, e3, ?_⟩
    · rw [hE (x, (z16, [])) hx0 rfl, List.length_append, be_length, List.append_nil]
      omega
    · rw [hE (x, (z16, [])) hx0 rfl]
      unfold readKU
      rw [decInt_be .i16 2 rfl ver hwr]
      simp only [Option.bind_some, hf, e1, Bool.false_eq_true, if_false]
    · rw [hE (x, (z16, [])) hx0 rfl, hE (x', (z16, [])) e3 e2]
  | true =>
    rw [hf] at h4 fin rd g2
    simp only [if_true] at h4
    obtain ⟨⟨a, l3⟩, h5, h6⟩ := Option.map_eq_some_iff.1 h4
    simp only [Prod.mk.injEq] at h6
    obtain ⟨rfl, rfl⟩ := h6
    obtain ⟨hg, hgl⟩ := decU_good h5 (by omega)
    have hE : ∀ (vv : V) (b : UT), vv.fld 0 = .i ver → enc ver true s vv = enc ver true s x → encKU ver m s (vv, b) = be 2 ver ++ (enc ver true s x ++ encU b) := by
      intro vv b a1 a2
      unfold encKU
      rw [hf]
      simp only [if_true]
      exact fin _ (encU b) a1 a2
    obtain ⟨x', e1, e2, e3⟩ := rd (encU a)
    have hse : encU (a.1, sortTags a.2) = encU a := encU_sort hg.tags
    have hdu := decU_enc hg []
    rw [List.append_nil] at hdu
    refine ⟨ver, hx0, hwr, hg.len, ?_, (x', (a.1, sortTags a.2)), ?_, e3, ?_⟩
    · rw [hE x a hx0 rfl, List.length_append, List.length_append, be_length]
      omega
    · rw [hE x a hx0 rfl]
      unfold readKU
      rw [decInt_be .i16 2 rfl ver hwr]
      simp only [Option.bind_some, hf, e1, if_true, hdu, Option.map_some]
    · rw [hE x a hx0 rfl, hE x' (a.1, sortTags a.2) e3 e2, hse]

/-- What is read of such a thing ahead of its tags. -/
def readKF (ver : Int) (fx : Bool) (s : Sch) (v : V) (l : List UInt8) : Option (V × List UInt8) := ((decInt .i16 2 l).map fun y => (v.put 0 (.i y.1), y.2)).bind fun x => dec ver fx s x.1 x.2

/-! ### The beginning of its reading -/
def preKU (P : Program) (tab : List (Nat × Rf)) (gE : Nat) (eV : Value) (tR : TypeId) (fi : FuncId) (fn : Func) (T : Ty) (s : Sch) (m : Int) (fx : Bool) : Option (List (Nat × V) × (Nat × Nat × Nat × Nat) × List Code) :=
  match fn.body, resTmp fn with
  | some c, some res => if fits fn.ntmps c && Nat.ble 3 fn.ntmps && noNul s then match flat c with
    | c0 :: c1 :: c2 :: cv :: c3 :: c4 :: c5 :: c6 :: c7 :: rest3 =>
      if isIdle [0, 1, 2] c0 then match dfltOf ⟨P, fn.ntmps, tab, gE, eV, res, ⟨0, none, 0⟩, 2⟩ [0, 1, 2] 0 T c1 with
      | some ps => match newRd tR [0, 2] 1 c2 with
        | some q => if verStore P [0, 2, q] q 0 T fi cv then match loadOf P [0, 2, q] 0 T 0 (.int .i16) c3 with
          | some ver => if isIdle [0, 2, q, ver] c4 then match flexOf [0, 2, q, ver] ver m c5 with
            | some fl => if isIdle [0, 2, q, ver, fl] c6 then match movOf [0, 2, q, ver, fl] 0 c7 with
                | some p => match rdS ⟨P, fn.ntmps, tab, gE, eV, res, ⟨ver, some fl, ver⟩, 2⟩ fx q s T p [p, 0, 2, q, ver, fl] rest3 with
                  | some l => some (ps, (q, ver, fl, p), l)
                  | none => none
                | none => none
              else none
            | none => none
            else none
          | none => none
          else none
        | none => none
      | none => none
      else none
    | _ => none
    else none
  | _, _ => none

theorem preKU_calls {P : Program} {tab : List (Nat × Rf)} {gE : Nat} {eV : Value} {tR : TypeId} {f fi : FuncId} {fn : Func} {T : Ty} {s : Sch} {m : Int} {fx : Bool} {ps : List (Nat × V)} {q vr fl p res : Nat} {rest : List Code} (hT : RdT P tR) (hcall16 : Callable P fi) (hi16 : I16Is P fi)
    (hX : ∀ f a, rfAt tab f = some a → Callable P f ∧ RfOk P gE eV f a) (hf : P.funcs[f]? = some fn) (hres0 : resTmp fn = some res) (h : preKU P tab gE eV tR fi fn T s m fx = some (ps, (q, vr, fl, p), rest)) {w : World} {S : Nat → Prop} {g o : Nat} {tG : TypeId} {v0 : V} {cells : List Value} {src : Value} {l : List UInt8} {ver : Int} {R : Value → World → Prop}
    (hb : Blk w g tG cells) (hrep : Rep w (fun k => k < w.heap.size ∧ k ≠ g) T v0 ((cells.drop o).take T.size)) (hlen : o + T.size ≤ cells.length) (herr : w.cell? ⟨gE, 0, none⟩ = some eV) (hgE : gE < w.heap.size ∧ gE ≠ g) (hsrc : SrcIs w S l src) (hS : ∀ k, S k → k < w.heap.size ∧ k ≠ g)
    (hrv : (rdInt .i16 2 ⟨l, false⟩).1 = ver) (hver : ((v0.puts ps).put 0 (.i ver)).fld 0 = .i ver) (hfx : fx = decide (ver ≥ m)) (hok : okB ver fx s = true) (hst : startB s ((v0.puts ps).put 0 (.i ver)) = true)
    (hearly : readKF ver fx s (v0.puts ps) l = none → ∀ w', Ch (fun k => k = g) w w' → R eV w')
    (hcont : ∀ (r : Nat) σ' w' v' s' cells', St (readKF ver fx s (v0.puts ps) l) v' s' → Mem ⟨P, fn.ntmps, tab, gE, eV, res, ⟨vr, some fl, vr⟩, 2⟩ S (fun k => k = r ∨ k = g) r tR T g o tG w' v' s' cells' → Outside cells cells' o T.size → w.heap.size ≤ r → Ch (fun k => k = g) w w' → σ' q = .pointer (some ⟨r, 0, none⟩) → σ' p = .pointer (some ⟨g, o, none⟩) →
      σ' vr = .int .i16 ver → σ' fl = .bool fx → σ' 2 = .bool false → CWL P fn.ntmps rest σ' w' (Ends fn R)) :
    Calls P f #[.pointer (some ⟨g, o, none⟩), src, .bool false] w fun en w' => ∃ x, en = .returned x ∧ R x w' := by
  unfold preKU at h
  split at h
  · rename_i c res' hbody hres
    obtain rfl : res = res' := Option.some.inj (hres0.symm.trans hres)
    split at h
    · rename_i hfit
      simp only [Bool.and_eq_true] at hfit
      refine Calls.of_CW hf hbody hfit.1.1 (by simpa using hfit.1.2) (CW.of_flat ?_)
      split at h
      · rename_i c0 c1 c2 cv c3 c4 c5 c6 c7 rest3 hflat
        rw [hflat]
        split at h
        · rename_i h0
          refine CWL.idle h0 fun σ0 he0 => ?_
          have hp0 : σ0 0 = .pointer (some ⟨g, o, none⟩) := (he0 0 (by simp)).trans rfl
          have hs0 : σ0 1 = src := (he0 1 (by simp)).trans rfl
          have hu0 : σ0 2 = .bool false := (he0 2 (by simp)).trans rfl
          split at h
          · rename_i ps' hdf
            split at h
            · rename_i q' hnr
              split at h
              · rename_i hvs
                split at h
                · rename_i vr' hld
                  have hpsE0 : ps = ps' := by
                    revert h
                    repeat' split
                    all_goals intro h
                    all_goals first | (cases h; done) | (simp only [Option.some.injEq, Prod.mk.injEq] at h; exact h.1.symm)
                  rw [hpsE0] at hver hst hcont
                  -- the function that lays the defaults
                  have hD : ∀ {Q : Exit → Fm → World → Prop} {rest : List Code}, (∀ σ' w' c', Blk w' g tG (spl cells o c') → Rep w' (fun k => k < w.heap.size ∧ k ≠ g) T (v0.puts ps') c' → Ch (fun k => k = g) w w' → (∀ t ∈ [0, 1, 2], σ' t = σ0 t) → CWL P fn.ntmps rest σ' w' Q) →
                      CWL P fn.ntmps (c1 :: rest) σ0 w Q := by
                    intro Q rest hk
                    unfold dfltOf at hdf
                    split at hdf
                    · rename_i op ty b hc
                      split at hdf
                      · rename_i f' u2 hop
                        split at hdf
                        · rename_i T' ps2 htab
                          split at hdf
                          · rename_i hh
                            simp only [Option.some.injEq] at hdf
                            subst hdf
                            simp only [Bool.and_eq_true, beq_iff_eq, decide_eq_true_eq] at hh
                            obtain ⟨⟨rfl, rfl⟩, hfree⟩ := hh
                            obtain ⟨hcall, hrf⟩ := hX f' _ htab
                            refine CWL.reg hc (OpK.asCall hop hcall rfl ?_)
                            simp only [List.map_cons, List.map_nil, ev_tmp, enF_two, hp0]
                            refine (hrf w _ g o tG cells v0 hb hrep hlen (fun h => h.2 rfl)).mono fun en w' ⟨he, c', hb', hr', hc'⟩ => ⟨_, he, ?_⟩
                            refine hk _ w' c' hb' hr' hc' fun t ht => ?_
                            rw [outF_free hfree ht, upd_odd _ _ _ _ (by omega), enF_two]
                          · cases hdf
                        · cases hdf
                      · cases hdf
                    · cases hdf
                  refine hD fun σ1 w1 c' hb1 hr1 hc1 he1 => ?_
                  have hsrc1 : SrcIs w1 S l src := hsrc.keep fun k hk => hc1.block k (hS k hk).1 (hS k hk).2
                  obtain ⟨a, cc, hsl, _⟩ := hsrc1.form
                  subst hsl
                  refine newRd_sound hT hnr ((he1 1 (by simp)).trans hs0) fun σ2 he2 hq2 => ?_
                  generalize hw2 : w1.alloc (.cells [Value.slice a l.length cc, .bool false].toArray tR) = w2
                  have hc2 : Ch (fun _ => False) w1 w2 := hw2 ▸ Ch.alloc _ w1 _
                  have hsz2 : w2.heap.size = w1.heap.size + 1 := by rw [← hw2]; simp
                  have hbR : Blk w2 w1.heap.size tR [.slice a l.length cc, .bool false] := hw2 ▸ Blk.new w1 tR _
                  have hgs : g < w1.heap.size := hb1.lt
                  have hcl := hr1.size
                  have hM : ∀ X : Cx, X.gE = gE → X.eV = eV → Mem X S (fun k => k = w1.heap.size ∨ k = g) w1.heap.size tR T g o tG w2 (v0.puts ps') ⟨l, false⟩ (spl cells o c') := by
                    intro X hE hV
                    refine ⟨⟨_, hbR, hsrc1.keep fun k hk => hc2.block k (Nat.lt_of_lt_of_le (hS k hk).1 hc1.size) fun h => h, fun h => ?_⟩, hb1.keep (hc2.block g hgs fun h => h), ?_, by rw [spl_len (by omega)]; exact hlen, ?_, fun k hk => ?_, fun k hk => ⟨?_, fun hw => ?_⟩, .inl rfl, .inr rfl, by omega, ?_, ?_, ?_⟩
                    · have := (hS _ h).1; have := hc1.size; omega
                    · have := spl_at (cs := cells) (c := c') (o := o) (by omega)
                      rw [hcl] at this
                      rw [this]
                      exact hr1.keepMono (fun k hk => hc2.block k (Nat.lt_of_lt_of_le hk.1 hc1.size) fun h => h) fun k hk => ⟨by have := hc1.size; have := hk.1; omega, fun h => by rcases h with h | h; (have := hc1.size; have := hk.1; omega); exact hk.2 h⟩
                    · rw [hE, hV]
                      rw [ch_cell hc2 (a := ⟨gE, 0, none⟩) (Nat.lt_of_lt_of_le hgE.1 hc1.size) (fun h => h) rfl, ch_cell hc1 (a := ⟨gE, 0, none⟩) hgE.1 hgE.2 rfl]
                      exact herr
                    · rcases hk with rfl | rfl <;> omega
                    · have := (hS k hk).1; have := hc1.size; omega
                    · rcases hw with rfl | rfl
                      · have := (hS _ hk).1; have := hc1.size; omega
                      · exact (hS _ hk).2 rfl
                    · rw [hE]; have := hc1.size; omega
                    · rw [hE]; have := hc1.size; omega
                    · rw [hE]; exact hgE.2
                  have hp2 : σ2 0 = .pointer (some ⟨g, o, none⟩) := (he2 0 (by simp)).trans ((he1 0 (by simp)).trans hp0)
                  have hu2 : σ2 2 = .bool false := (he2 2 (by simp)).trans ((he1 2 (by simp)).trans hu0)
                  have hMX := hM ⟨P, fn.ntmps, tab, gE, eV, res, ⟨0, none, 0⟩, 2⟩ rfl rfl
                  have early : readKF ver fx s (v0.puts ps') l = none → ∀ σ' w', Ch (rg w1.heap.size g) w2 w' → σ' res = eV → Ends fn R .ret σ' w' := by
                    intro hd σ' w' hc' hσ'
                    simp only [Ends]
                    unfold resTmp at hres
                    split at hres
                    · rename_i t ht
                      simp only [Option.some.injEq] at hres
                      subst hres
                      refine ⟨_, by simp only [resOf, ht]; rfl, ?_⟩
                      rw [hσ']
                      refine hearly (by rw [hpsE0]; exact hd) w' ?_
                      refine hc1.trans' ((hc2.mono fun _ _ h => h.elim : Ch (fun k => k = g) w1 w2).trans hc' fun i hi hT' => ?_)
                      rcases hT' with rfl | rfl
                      · omega
                      · rfl
                    · cases hres
                  refine verStore_sound (X := ⟨P, fn.ntmps, tab, gE, eV, res, ⟨0, none, 0⟩, 2⟩) hvs hcall16 hi16 hp2 hq2 hMX fun σ2' w2' cs2 hMV hcV hoV heV => ?_
                  have hMv : ∀ X : Cx, X.gE = gE → X.eV = eV → Mem X S (fun k => k = w1.heap.size ∨ k = g) w1.heap.size tR T g o tG w2' ((v0.puts ps').put 0 (.i ver)) (rdInt .i16 2 ⟨l, false⟩).2 cs2 := fun X hE hV => by
                    rw [hrv] at hMV
                    exact ⟨hMV.rd, hMV.blk, hMV.rep, hMV.len, by rw [hE, hV]; exact hMV.err, hMV.bound, hMV.src, hMV.wr, hMV.wg, hMV.ne, by rw [hE]; exact hMV.eW⟩
                  refine loadOf_sound hld ((heV 0 (by simp)).trans hp2) hMV.is fun σ3 he3 ⟨cs3, hr3, hv3⟩ => ?_
                  rw [hrv, hver] at hr3
                  obtain ⟨rfl, _⟩ : cs3 = [.int .i16 ver] ∧ _ := hr3
                  have hv3' : σ3 vr' = .int .i16 ver := hv3
                  split at h
                  · rename_i h4
                    refine CWL.idle h4 fun σ4 he4 => ?_
                    have hk4 : ∀ t ∈ [0, 2, q'], σ4 t = σ2 t := fun t ht => (he4 t (by simp at ht ⊢; rcases ht with h | h | h <;> simp [h])).trans ((he3 t ht).trans (heV t ht))
                    have hv4 : σ4 vr' = .int .i16 ver := (he4 vr' (by simp)).trans hv3'
                    have hq4 : σ4 q' = .pointer (some ⟨w1.heap.size, 0, none⟩) := (hk4 q' (by simp)).trans hq2
                    have hp4 : σ4 0 = .pointer (some ⟨g, o, none⟩) := (hk4 0 (by simp)).trans hp2
                    have hu4 : σ4 2 = .bool false := (hk4 2 (by simp)).trans hu2
                    have hSt : St ((decInt .i16 2 l).map fun y => ((v0.puts ps').put 0 (.i y.1), y.2)) ((v0.puts ps').put 0 (.i ver)) (rdInt .i16 2 ⟨l, false⟩).2 := by
                      have h5 := (show St (some (v0.puts ps', l)) (v0.puts ps') ⟨l, false⟩ from ⟨rfl, rfl⟩).step (got_int .i16 2 ⟨l, false⟩) fun v u => v.put 0 (.i u)
                      rw [hrv] at h5
                      exact h5
                    split at h
                    · rename_i fl' hfl
                      split at h
                      · rename_i h6
                        split at h
                        · rename_i p' hmv
                          split at h
                          · rename_i lst hrd
                            simp only [Option.some.injEq, Prod.mk.injEq] at h
                            obtain ⟨_, ⟨rfl, rfl, rfl, rfl⟩, rfl⟩ := h
                            refine flexOf_sound hfl hv4 fun σ5 he5 hf5 => ?_
                            refine CWL.idle h6 fun σ6 he6 => ?_
                            refine movOf_sound hmv fun σ7 he7 hp7 => ?_
                            have hk7 : ∀ t ∈ [0, 2, q', vr'], σ7 t = σ4 t := fun t ht => (he7 t (by simp at ht ⊢; rcases ht with h | h | h | h <;> simp [h])).trans ((he6 t (by simp at ht ⊢; rcases ht with h | h | h | h <;> simp [h])).trans (he5 t ht))
                            have hf7 : σ7 fl' = .bool fx := by rw [hfx, (he7 fl' (by simp)).trans (he6 fl' (by simp)), hf5]
                            have hp7' : σ7 p' = .pointer (some ⟨g, o, none⟩) := hp7.trans (((he6 0 (by simp)).trans (he5 0 (by simp))).trans hp4)
                            have hXs : (⟨P, fn.ntmps, tab, gE, eV, res, ⟨vr', some fl', vr'⟩, 2⟩ : Cx).Sound := ⟨hX⟩
                            have hL : LIn ⟨P, fn.ntmps, tab, gE, eV, res, ⟨vr', some fl', vr'⟩, 2⟩ fx q' p' [p', 0, 2, q', vr', fl'] := ⟨by simp, fun x hx => by simp [Cx.kn] at hx; rcases hx with rfl | rfl <;> simp, by simp, by simp⟩
                            have hstep := rdS_step0 (X := ⟨P, fn.ntmps, tab, gE, eV, res, ⟨vr', some fl', vr'⟩, 2⟩) (S := S) (r := w1.heap.size) (tR := tR) (ver := ver) hXs s (.inl hfit.2) (W := fun k => k = w1.heap.size ∨ k = g) (g := g) (o := o) (tG := tG) hrd hL hok
                            refine hstep σ7 w2' _ ((v0.puts ps').put 0 (.i ver)) (rdInt .i16 2 ⟨l, false⟩).2 cs2 _ ⟨(hk7 vr' (by simp)).trans hv4, fun s b hm => ?_, (hk7 q' (by simp)).trans hq4, hp7'⟩ (fun x hx => ?_) hSt (hMv _ rfl rfl) (fun hn σ' w' hc' => early hn σ' w' (hcV.trans' hc')) fun σ8 w8 v8 s8 cells8 hS8 hM8 hc8 ho8 he8 => ?_
                            · simp [Cx.kn] at hm
                              rcases hm with ⟨rfl, rfl⟩ | ⟨rfl, rfl⟩
                              · exact (hk7 2 (by simp)).trans hu4
                              · exact hf7
                            · obtain ⟨y, hy, rfl⟩ := Option.map_eq_some_iff.1 hx
                              have h6 : (rdInt .i16 2 ⟨l, false⟩).1 = y.1 := by
                                have h7 := got_int .i16 2 ⟨l, false⟩
                                unfold Got at h7
                                simp only [Rs.o, Bool.false_eq_true, if_false, Option.bind_some, hy] at h7
                                exact h7.1
                              rw [hrv] at h6
                              simp only [← h6]
                              exact hst
                            · refine hcont w1.heap.size σ8 w8 v8 s8 cells8 hS8 hM8 (((by have := Outside.spl (cs := cells) (c := c') (o := o) (p := 0) (n := T.size) (by omega) hlen; simpa using this : Outside cells (spl cells o c') o T.size).trans hoV).trans ho8) hc1.size ?_ ((he8 q' (by simp)).trans ((hk7 q' (by simp)).trans hq4)) ((he8 p' (by simp)).trans hp7') ((he8 vr' (by simp)).trans ((hk7 vr' (by simp)).trans hv4)) ((he8 fl' (by simp)).trans hf7) ((he8 2 (by simp)).trans ((hk7 2 (by simp)).trans hu4))
                              refine hc1.trans' ((hc2.mono fun _ _ h => h.elim : Ch (fun k => k = g) w1 w2).trans (hcV.trans' hc8) fun i hi hT' => ?_)
                              rcases hT' with rfl | rfl
                              · omega
                              · rfl
                          · cases h
                        · cases h
                      · cases h
                    · cases h
                  · cases h
                · cases h
              · cases h
            · cases h
          · cases h
        · cases h
      · cases h
    · cases h
  · cases h
/-! ### One round of reading tags -/
def rndH (k : Nat) (a : UT) (x : Nat) (z : List UInt8) : Dc UT := fun l => if x = 0 then (if z.length < 16 then none else decUN k (z.take 16, a.2) l) else decUN k (a.1, setTag a.2 x z) l
def rndG (k : Nat) (a : UT) (x y : Nat) : Dc UT := fun l => (decSpan (y : Int) l).bind fun sp => rndH k a x sp.1 sp.2
def rndF (k : Nat) (a : UT) (x : Nat) : Dc UT := fun l => (decUv l).bind fun s => rndG k a x s.1 s.2
theorem decUN_eq (k : Nat) (a : UT) : decUN (k + 1) a = fun l => (decUv l).bind fun key => rndF k a key.1 key.2 := by funext l; rfl
theorem decUN_set {s1 sa sb s2 : Rs} {k x1 x2 : Nat} {a b : UT} (h1 : Got s1.o decUv x1 sa) (h2 : Got sa.o decUv x2 sb) (hx : x1 ≠ 0) (hb : Got (rdSpan (x2 : Int) sb).2.o (decUN k (a.1, setTag a.2 x1 ((rdSpan (x2 : Int) sb).1.getD []))) b s2) : Got s1.o (decUN (k + 1) a) b s2 := by
  rw [decUN_eq]
  refine Got.bind (d2 := rndF k a) h1 (Got.bind (d2 := rndG k a x1) h2 (Got.bind (d2 := rndH k a x1) (got_span _ _) ?_))
  unfold rndH
  simp only [if_neg hx]
  exact hb
theorem decUN_uuid {s1 sa sb s2 si : Rs} {k x2 : Nat} {a b : UT} {u : List UInt8} (h1 : Got s1.o decUv 0 sa) (h2 : Got sa.o decUv x2 sb) (hi : Got (some ((rdSpan (x2 : Int) sb).1.getD [])) (decSpan 16) u si) (hg : si.bad = false) (hb : Got (rdSpan (x2 : Int) sb).2.o (decUN k (u, a.2)) b s2) : Got s1.o (decUN (k + 1) a) b s2 := by
  rw [decUN_eq]
  refine Got.bind (d2 := rndF k a) h1 (Got.bind (d2 := rndG k a 0) h2 (Got.bind (d2 := rndH k a 0) (got_span _ _) ?_))
  unfold rndH
  simp only [if_true]
  unfold Got at hi
  rw [Option.bind_some] at hi
  cases hd : decSpan 16 ((rdSpan (x2 : Int) sb).1.getD []) with
  | none => rw [hd] at hi; rw [show si.bad = true from hi] at hg; cases hg
  | some y =>
    rw [hd] at hi
    obtain ⟨rfl, _⟩ := hi
    unfold decSpan at hd
    split at hd
    · cases hd
    · simp only [Option.some.injEq] at hd
      subst hd
      simp only [if_neg (show ¬ ((rdSpan (x2 : Int) sb).1.getD []).length < 16 by omega)]
      exact hb
theorem decUN_bad {s1 sa sb si : Rs} {k x2 : Nat} {a b : UT} {u : List UInt8} (h1 : Got s1.o decUv 0 sa) (h2 : Got sa.o decUv x2 sb) (hi : Got (some ((rdSpan (x2 : Int) sb).1.getD [])) (decSpan 16) u si) (hg : si.bad = true) : Got s1.o (decUN (k + 1) a) b Rs.fail := by
  rw [decUN_eq]
  refine Got.bind (d2 := rndF k a) h1 (Got.bind (d2 := rndG k a 0) h2 (Got.bind (d2 := rndH k a 0) (got_span _ _) ?_))
  unfold rndH
  simp only [if_true]
  unfold Got at hi
  rw [Option.bind_some] at hi
  cases hd : decSpan 16 ((rdSpan (x2 : Int) sb).1.getD []) with
  | some y => rw [hd] at hi; rw [hi.2] at hg; cases hg
  | none =>
    unfold decSpan at hd
    split at hd
    · rename_i hlt
      simp only [if_pos (show ((rdSpan (x2 : Int) sb).1.getD []).length < 16 by omega)]
      unfold Got
      cases (rdSpan (x2 : Int) sb).2.o <;> rfl
    · cases hd
theorem readKU_eq {m : Int} {s : Sch} {v : V} {l : List UInt8} {ver : Int} (h : (rdInt .i16 2 ⟨l, false⟩).1 = ver) : readKU m s v l = (readKF ver (decide (ver ≥ m)) s v l).bind fun x =>
    if decide (ver ≥ m) = true then (decU x.2).map fun a => ((x.1, a.1), a.2) else some ((x.1, (z16, [])), x.2) := by
  unfold readKU readKF
  cases hd : decInt .i16 2 l with
  | none => rfl
  | some y =>
    have h7 := got_int .i16 2 ⟨l, false⟩
    unfold Got at h7
    simp only [Rs.o, Bool.false_eq_true, if_false, Option.bind_some, hd] at h7
    obtain ⟨h8, _⟩ := h7
    rw [h] at h8
    simp only [Option.bind_some, Option.map_some, ← h8]
theorem CWL.pin {P : Program} {n : Nat} {cs : List Code} {σ : Fm} {w : World} {Q : Exit → Fm → World → Prop} (l : List (Nat × Value)) (h : ∀ x ∈ l, σ x.1 = x.2) (hc : ∀ σ', CWL P n cs (Go.Kx.pin l σ') w Q) : CWL P n cs σ w Q := by
  rw [pin_eq h]
  exact hc σ
theorem preKU_use {P : Program} {tab : List (Nat × Rf)} {gE : Nat} {eV : Value} {tR : TypeId} {f fi : FuncId} {fn : Func} {T : Ty} {s : Sch} {m : Int} {fx : Bool} {ps : List (Nat × V)} {q vr fl p res : Nat} {c : Code} (hbody : fn.body = some c) (n : Nat) (hT : RdT P tR) (hcall16 : Callable P fi) (hi16 : I16Is P fi)
    (hX : ∀ f a, rfAt tab f = some a → Callable P f ∧ RfOk P gE eV f a) (hf : P.funcs[f]? = some fn) (hres0 : resTmp fn = some res) (h : preKU P tab gE eV tR fi fn T s m fx = some (ps, (q, vr, fl, p), (flat c).drop n)) {w : World} {S : Nat → Prop} {g o : Nat} {tG : TypeId} {v0 : V} {cells : List Value} {src : Value} {l : List UInt8} {ver : Int} {R : Value → World → Prop}
    (hb : Blk w g tG cells) (hrep : Rep w (fun k => k < w.heap.size ∧ k ≠ g) T v0 ((cells.drop o).take T.size)) (hlen : o + T.size ≤ cells.length) (herr : w.cell? ⟨gE, 0, none⟩ = some eV) (hgE : gE < w.heap.size ∧ gE ≠ g) (hsrc : SrcIs w S l src) (hS : ∀ k, S k → k < w.heap.size ∧ k ≠ g)
    (hrv : (rdInt .i16 2 ⟨l, false⟩).1 = ver) (hver : ((v0.puts ps).put 0 (.i ver)).fld 0 = .i ver) (hfx : fx = decide (ver ≥ m)) (hok : okB ver fx s = true) (hst : startB s ((v0.puts ps).put 0 (.i ver)) = true)
    (hearly : readKF ver fx s (v0.puts ps) l = none → ∀ w', Ch (fun k => k = g) w w' → R eV w')
    (hcont : ∀ (r : Nat) σ' w' v' s' cells', St (readKF ver fx s (v0.puts ps) l) v' s' → Mem ⟨P, fn.ntmps, tab, gE, eV, res, ⟨vr, some fl, vr⟩, 2⟩ S (fun k => k = r ∨ k = g) r tR T g o tG w' v' s' cells' → Outside cells cells' o T.size → w.heap.size ≤ r → Ch (fun k => k = g) w w' → σ' q = .pointer (some ⟨r, 0, none⟩) → σ' p = .pointer (some ⟨g, o, none⟩) →
      σ' vr = .int .i16 ver → σ' fl = .bool fx → σ' 2 = .bool false → CWL P fn.ntmps ((flat c).drop n) σ' w' (Ends fn R)) :
    Calls P f #[.pointer (some ⟨g, o, none⟩), src, .bool false] w fun en w' => ∃ x, en = .returned x ∧ R x w' :=
  preKU_calls hT hcall16 hi16 hX hf hres0 h hb hrep hlen herr hgE hsrc hS hrv hver hfx hok hst hearly hcont
/-! ### Cells of such a thing -/
theorem mid_spl {a b b' d : List Value} {n : Nat} (hn : a.length = n) (h : b'.length = b.length) : spl (a ++ (b ++ d)) n b' = a ++ (b' ++ d) := by
  subst hn
  unfold spl
  rw [List.take_append_of_le_length (Nat.le_refl _), List.take_of_length_le (Nat.le_refl _), h, List.drop_append, List.drop_of_length_le (by omega), Nat.add_sub_cancel_left, List.nil_append, List.drop_append, List.drop_of_length_le (Nat.le_refl _), Nat.sub_self, List.drop_zero, List.nil_append, List.append_assoc]
theorem end_set {a b : List Value} {c c' : Value} {n : Nat} (hn : a.length + b.length = n) : (a ++ (b ++ [c])).set n c' = a ++ (b ++ [c']) := by
  subst hn
  rw [List.set_append_right _ _ (by omega), Nat.add_sub_cancel_left, List.set_append_right _ _ (Nat.le_refl _), Nat.sub_self]
  rfl
theorem end_get {a b : List Value} {c : Value} {n : Nat} (hn : a.length + b.length = n) : (a ++ (b ++ [c]))[n]? = some c := by
  subst hn
  rw [List.getElem?_append_right (by omega), Nat.add_sub_cancel_left, List.getElem?_append_right (Nat.le_refl _), Nat.sub_self]
  rfl
theorem from_outside {cells cells' a z : List Value} {n : Nat} (h : Outside cells cells' 0 n) (hc : cells = a ++ z) (ha : a.length = n) : ∃ a', cells' = a' ++ z ∧ a'.length = n ∧ a' = (cells'.drop 0).take n := by
  obtain ⟨h1, h2⟩ := h
  subst hc
  rw [List.length_append] at h1
  refine ⟨(cells'.drop 0).take n, ?_, by rw [List.drop_zero, List.length_take]; omega, rfl⟩
  rw [List.drop_zero]
  apply List.ext_getElem?
  intro i
  by_cases hi : i < n
  · rw [List.getElem?_append_left (by rw [List.length_take]; omega), List.getElem?_take, if_pos hi]
  · rw [h2 i (by omega), List.getElem?_append_right (by omega), List.getElem?_append_right (by rw [List.length_take]; omega), List.length_take, ha]
    congr 1
    omega
end Go.Kx
