/- The message ApiVersionsResponse: it is read so. -/
import Derived.Test.YtkgelojkhmjhkaaDoorKxRdr
import Derived.Test.YtkgelojkhmjhkaaDoorKxKnS
import Derived.Test.YtkgelojkhmjhkaaDoorKxKnM
namespace Go.Proofs.YtkgelojkhmjhkaaDoor.ApiVersionsResponse
open Go.Kx Go.RowKit Go.Proofs
set_option maxRecDepth 100000
set_option linter.unusedSimpArgs false
set_option linter.unusedVariables false

theorem mixed : Tryd.prog.follows .mixedOrders = true := by kernel_rfl
theorem resIs : resTmp Tryd.f14 = some 6 := by kernel_rfl
theorem calC : Callable Tryd.prog 30 := (rd .nilIface 30 .comp (by kernel_rfl)).1
theorem calI : Callable Tryd.prog 42 := (rd .nilIface 42 (.val false .i64) (by kernel_rfl)).1
theorem calB : Callable Tryd.prog 44 := (rd .nilIface 44 (.val false .bool) (by kernel_rfl)).1
theorem compIs (eV : Value) : RfOk Tryd.prog 1 eV 30 .comp := (rd eV 30 .comp (by kernel_rfl)).2
theorem i64Is (eV : Value) : RfOk Tryd.prog 1 eV 42 (.val false .i64) := (rd eV 42 (.val false .i64) (by kernel_rfl)).2
theorem boolIs (eV : Value) : RfOk Tryd.prog 1 eV 44 (.val false .bool) := (rd eV 44 (.val false .bool) (by kernel_rfl)).2
theorem zeroR : ((Tryd.prog.info? 66).bind (·.zero)).map (·.cells) = some [Value.slice none 0 0, Value.bool false].toArray := by kernel_rfl
theorem sizeR : (Tryd.prog.info? 66).map (·.size) = some 2 := by kernel_rfl
theorem sizeI : (Tryd.prog.info? 2).map (·.size) = some 1 := by kernel_rfl
theorem sizeB : (Tryd.prog.info? 4).map (·.size) = some 1 := by kernel_rfl
theorem ifaceErr : isIface Tryd.prog 35 = true := by kernel_rfl

theorem decKT (ver : Int) (v : V) (l : List UInt8) : dec ver true (.ktags 8 kt .nil) v l = (decUv l).bind fun n => decK (ktd ver true kt) 8 n.1 v n.2 := by
  simp only [dec, if_true]
  cases decUv l with
  | none => rfl
  | some n => simp only [Option.bind_some]; cases decK (ktd ver true kt) 8 n.1 v n.2 <;> rfl
theorem dec_sch (ver : Int) (fx : Bool) (l : List UInt8) : dec ver fx sch (V0 T ps ps ver) l = (dec ver fx sch4 (.st (l4 ver)) l).bind fun x => dec ver fx (.ktags 8 kt .nil) (x.1.app lr) x.2 := by
  rw [v0Is, sch, dec_cat, dec_app (by rfl)]
  cases dec ver fx sch4 (.st (l4 ver)) l <;> rfl
theorem enc_same {ver : Int} {fx : Bool} {m : List V} (hm : m.length = 4) {xS xF yS yF : V} {e : Int} {z : Bool} {tl : List (Nat × List UInt8)} (h1 : xS.elems = yS.elems) (h2 : xF.elems = yF.elems) :
    enc ver fx sch (mkA m xS e xF z tl) = enc ver fx sch (mkA m yS e yF z tl) := by
  obtain ⟨a4, a5, a6, a7, a8, ah⟩ := fldA (xS := xS) (xF := xF) (e := e) (z := z) (tl := tl) hm
  obtain ⟨b4, b5, b6, b7, b8, bh⟩ := fldA (xS := yS) (xF := yF) (e := e) (z := z) (tl := tl) hm
  rw [sch, enc_cat, enc_cat]
  congr 1
  · refine (encN_congr fun k hk => ?_).1
    have hk4 : k < 4 := by
      simp only [sch4, Sch.keys, List.mem_cons, List.not_mem_nil, or_false] at hk
      omega
    rw [ah k hk4, bh k hk4]
  · have e1 : ∀ (p q : V), p.elems = q.elems → encLen fx false p = encLen fx false q := fun p q h => encLen_congr (by rw [h]) (fun h => by cases h)
    simp only [enc, kt, lS, lF, ktN, Pc.ok, a4, a5, a6, a7, a8, b4, b5, b6, b7, b8, h1, h2, Vc.ok, if_true, Option.isSome, e1 xS yS h1, e1 xF yF h2]
theorem stepS {ver : Int} {v : V} {sp : List UInt8} {vs : List V} {s' : Rs} (hg : GotN ((decLen true sp).bind fun n => decN (dec ver true fS dS) n.1.toNat n.2) vs s') :
    (s'.bad = true → ktd ver true kt 0 v sp = some none) ∧ (s'.bad = false → ∃ x : V, x.elems = vs ∧ ktd ver true kt 0 v sp = some (some (v.put 4 x))) := by
  obtain ⟨h1, h2⟩ := hold_list (k := 4) hg
  rw [kt, ktd_head]
  refine ⟨fun hb => ?_, fun hb => ?_⟩
  · have := h1 hb
    rw [lS, this]
    rfl
  · obtain ⟨x, y, hx, hy, hf⟩ := h2 hb
    refine ⟨x, hx, ?_⟩
    rw [lS, hy, ← hf]
    rfl
theorem stepF {ver : Int} {v : V} {sp : List UInt8} {vs : List V} {s' : Rs} (hg : GotN ((decLen true sp).bind fun n => decN (dec ver true fS dF) n.1.toNat n.2) vs s') :
    (s'.bad = true → ktd ver true kt 2 v sp = some none) ∧ (s'.bad = false → ∃ x : V, x.elems = vs ∧ ktd ver true kt 2 v sp = some (some (v.put 6 x))) := by
  obtain ⟨h1, h2⟩ := hold_list (k := 6) hg
  rw [kt, ktd_tail (by decide), ktd_tail (by decide), ktd_head]
  refine ⟨fun hb => ?_, fun hb => ?_⟩
  · have := h1 hb
    rw [lF, this]
    rfl
  · obtain ⟨x, y, hx, hy, hf⟩ := h2 hb
    refine ⟨x, hx, ?_⟩
    rw [lF, hy, ← hf]
    rfl
theorem stepE {ver : Int} {v u : V} {sp : List UInt8} {s' : Rs} (hg : Got (some sp) (decW true .i64) u s') : (s'.bad = true → ktd ver true kt 1 v sp = some none) ∧ (s'.bad = false → ktd ver true kt 1 v sp = some (some (v.put 5 u))) := by
  obtain ⟨h1, h2⟩ := hold_val (ver := ver) (k := 5) hg
  rw [kt, ktd_tail (by decide), ktd_head]
  refine ⟨fun hb => ?_, fun hb => ?_⟩
  · rw [h1 hb]
    rfl
  · obtain ⟨y, hy, hf⟩ := h2 hb
    rw [hy, ← hf]
    rfl
theorem stepZ {ver : Int} {v u : V} {sp : List UInt8} {s' : Rs} (hg : Got (some sp) (decW true .bool) u s') : (s'.bad = true → ktd ver true kt 3 v sp = some none) ∧ (s'.bad = false → ktd ver true kt 3 v sp = some (some (v.put 7 u))) := by
  obtain ⟨h1, h2⟩ := hold_val (ver := ver) (k := 7) hg
  rw [kt, ktd_tail (by decide), ktd_tail (by decide), ktd_tail (by decide), ktd_head]
  refine ⟨fun hb => ?_, fun hb => ?_⟩
  · rw [h1 hb]
    rfl
  · obtain ⟨y, hy, hf⟩ := h2 hb
    rw [hy, ← hf]
    rfl
theorem stepN {ver : Int} {v : V} {sp : List UInt8} {x : Nat} (h : 4 ≤ x) : ktd ver true kt x v sp = none := ktd_none.2 (by simp [nums, kt]; omega)
theorem okfS {ver : Int} : okB ver true fS = true := by kernel_rfl

set_option maxHeartbeats 16000000 in
theorem readIs {w : World} {S : Nat → Prop} {g : Nat} {cells : List Value} {src : Value} {l : List UInt8} {tE : TypeId} {vE : Value} {ver : Int} (hb : Blk w g 45 cells) (hrep : Rep w (fun _ => False) T (((zeroV T).puts ps).put 0 (.i ver)) cells)
    (herr : w.cell? ⟨1, 0, none⟩ = some (.iface tE vE)) (hgE : 1 < w.heap.size ∧ 1 ≠ g) (hsrc : SrcIs w S l src) (hS : ∀ k, S k → k < w.heap.size ∧ k ≠ g) :
    Calls Tryd.prog 14 #[.pointer (some ⟨g, 0, none⟩), src, .bool false] w fun en w' => ∃ x, en = .returned x ∧ ReadsE (.iface tE vE) T g 45 (enc ver (flexAt (some 3) ver) sch) (dec ver (flexAt (some 3) ver) sch (V0 T ps ps ver) l) w x w' := by
  obtain ⟨ms, hms⟩ := isIface_spec ifaceErr
  generalize hfx : flexAt (some 3) ver = fx
  have hfx' : fx = decide (ver ≥ 3) := hfx.symm
  rw [dec_sch]
  refine preW_use (T := T) (T4 := T4) (s := sch4) (m := 3) (fx := fx) (ps := ps) (q := 7) (vr := 8) (fl := 9) (p := 10) (res := 6) (hbody := rfl) 26 (l4 := l4 ver) (cr := cr) (R := fun x w' => ReadsE (.iface tE vE) T g 45 (enc ver fx sch) ((dec ver fx sch4 (.st (l4 ver)) l).bind fun x => dec ver fx (.ktags 8 kt .nil) (x.1.app lr) x.2) w x w') Seat.rdT (rd (.iface tE vE)) Tryd.func14 resIs (by cases fx <;> kernel_rfl)
    hb hrep (split4 ver) herr hgE hsrc hS rfl hfx' ok4 (by kernel_rfl) (fun hn w' hc => ⟨hc, by rw [hn]; rfl⟩) ?_
  intro r σ w3 v3 s3 c4 hSt h4l hM hr hc3 hq hp hv hf hu
  simp only [flat, List.cons_append, List.nil_append, List.append_nil, List.drop_succ_cons, List.drop_zero]
  refine CWL.pin [(2, .bool false), (7, .pointer (some ⟨r, 0, none⟩)), (8, .int .i16 ver), (9, .bool fx), (10, .pointer (some ⟨g, 0, none⟩))] (all_pinE hu (all_pinE hq (all_pinE hv (all_pinE hf (all_pinE hp (fun _ h => by cases h)))))) fun σ => ?_
  have hrg : r ≠ g := hM.ne
  have hrep3 : Rep w3 (Ob (fun k => k = r ∨ k = g) w3) T4 v3 c4 := by
    have := hM.rep
    rw [List.drop_zero, List.take_append_of_le_length (by omega), List.take_of_length_le (by omega)] at this
    exact this
  obtain ⟨m, rfl, hm⟩ := rep4 hrep3
  have hb3 : Blk w3 g 45 (c4 ++ cr) := hM.blk
  have h3 : RdIs w3 S r 66 s3 := hM.rd
  have herr3 : w3.cell? ⟨1, 0, none⟩ = some (.iface tE vE) := hM.err
  have hgE3 : 1 < w3.heap.size ∧ 1 ≠ r ∧ 1 ≠ g := hM.eW
  have hSl : ∀ k, S k → k < w3.heap.size ∧ ¬ (k = r ∨ k = g) := hM.src
  have hgl3 := hM.blk.lt
  have hrl3 := hM.rd.lt
  have h4l : c4.length = 4 := h4l
  clear hM
  refine CWL.reg (ops := []) (b := [(131, 18)]) (by kernel_rfl) ?_
  show CWL _ _ _ _ _ _
  cases fx with
  | false =>
    refine CWL.condF rfl ?_
    simp only [flat, List.cons_append, List.nil_append, List.append_nil]
    refine CWL.reg (ops := [(.call ⟨.value (.func 30), #[.tmp 14], #[66]⟩, 35)]) (b := [(6, 1), (317, 1)]) (by kernel_rfl) ?_
    refine OpK.asCall rfl calC rfl ((compIs (.iface tE vE) w3 S r 66 s3 h3 herr3).mono ?_)
    rintro en w4 ⟨he4, hw4⟩
    rw [hw4]
    refine ⟨_, he4, ?_⟩
    show CWL _ _ _ _ _ _
    refine CWL.ret ?_
    refine ⟨_, rfl, hc3, ?_⟩
    cases hd : dec ver false sch4 (.st (l4 ver)) l with
    | none =>
      rw [hd] at hSt
      have hbad : s3.bad = true := hSt
      show (if s3.bad then Value.iface tE vE else .nilIface) = .iface tE vE
      rw [if_pos hbad]
    | some y =>
      rw [hd] at hSt
      obtain ⟨hy, rfl⟩ := hSt
      refine ⟨rfl, _, _, hb3, by rw [List.length_append, h4l]; rfl, ?_, rfl, rfl⟩
      show Rep _ _ T ((y.1).app lr) (c4 ++ cr)
      rw [← hy]
      exact rep_all (vS := .arrN) (vF := .arrN) (tl := []) (hrep3.mono fun k hk => ⟨hk.1, fun h => hk.2 (.inr h)⟩) rfl (by decide) rfl (.inl ⟨rfl, rfl⟩)
  | true =>
    refine CWL.condT rfl ?_
    simp only [flat, List.cons_append, List.nil_append, List.append_nil]
    refine CWL.reg (ops := [(.call ⟨.value (.func 34), #[.tmp 14], #[66]⟩, 53)]) (b := [(22, 1), (132, 1)]) (by kernel_rfl) ?_
    refine OpK.asCall rfl Rd.call34 rfl ((Rd.r34 w3 S (fun k hk => (hSl k hk).1) r 66 s3 h3).mono ?_)
    rintro en w4 ⟨n, s4, he4, hn, h4, hc4, hg4, _⟩
    refine ⟨_, he4, ?_⟩
    show CWL _ _ _ _ _ _
    have hs4 := hc4.size
    have hb4 := hb3.keep (hc4.block g hgl3 (Ne.symm hrg))
    have hSlo : ∀ k, S k → k < w4.heap.size ∧ k ≠ g := fun k hk => ⟨by have := (hSl k hk).1; omega, fun h => (hSl k hk).2 (.inr h)⟩
    have hrS : ¬ S r := fun h => (hSl r h).2 (.inl rfl)
    have hKS4 : KS w4 w4.heap.size S g c4 (.slice none 0 0) (.slice none 0 0) (.map none) (-1) false [] [] [] (fun _ => False) (fun _ => False) (fun _ => False) :=
      ⟨hb4, by decide, .inl rfl, .inl rfl, ⟨.arrN, rfl, rfl⟩, ⟨.arrN, rfl, rfl⟩, .inl ⟨rfl, rfl⟩, fun _ h => h.elim, fun _ h => h.elim, fun _ h => h.elim, fun k h => (by obtain ⟨_, _, h⟩ := h; cases h), fun k h => (by obtain ⟨_, _, h⟩ := h; cases h), fun _ h => h.elim⟩
    -- what is answered when the reading fails
    have hno : (∀ b, Got s3.o (fun l => (decUv l).bind fun n => decK (ktd ver true kt) 8 n.1 (mkA m .arrN (-1) .arrN false []) n.2) b Rs.fail) → ((dec ver true sch4 (.st (l4 ver)) l).bind fun x => dec ver true (.ktags 8 kt .nil) (x.1.app lr) x.2) = none := by
      intro hgF
      cases hd : dec ver true sch4 (.st (l4 ver)) l with
      | none => rfl
      | some x0 =>
        rw [hd] at hSt
        obtain ⟨hx0, rfl⟩ := hSt
        have h9 := hgF .nstN
        rw [Got, show (⟨x0.2, false⟩ : Rs).o = some x0.2 from rfl, Option.bind_some] at h9
        simp only [Option.bind_some, decKT, ← hx0]
        rw [show (V.st m).app lr = mkA m .arrN (-1) .arrN false [] from rfl]
        cases hdU : (decUv x0.2).bind fun n => decK (ktd ver true kt) 8 n.1 (mkA m .arrN (-1) .arrN false []) n.2 with
        | none => rfl
        | some y => rw [hdU] at h9; have := congrArg Rs.bad h9.2; cases this
    refine CWL.cons (CW.block (CW.loop (fun mm σ w1 => ∃ (k : Nat) (s1 : Rs) (cS cF c : Value) (e : Int) (z : Bool) (xS xF : V) (tl : List (Nat × List UInt8)) (DS DF DT : Nat → Prop), mm = k ∧ k < 4294967296 ∧ σ 2 = .bool false ∧ σ 7 = .pointer (some ⟨r, 0, none⟩) ∧ σ 8 = .int .i16 ver ∧ σ 9 = .bool true ∧ σ 10 = .pointer (some ⟨g, 0, none⟩) ∧ σ 22 = .int .u32 (k : Int) ∧
        RdIs w1 S r 66 s1 ∧ Ch (fun k => k = r ∨ k = g) w3 w1 ∧ w4.heap.size ≤ w1.heap.size ∧ KS w1 w4.heap.size S g c4 cS cF c e z xS.elems xF.elems tl DS DF DT ∧ (∀ b s2, Got s1.o (decK (ktd ver true kt) 8 k (mkA m xS e xF z tl)) b s2 → Got s4.o (decK (ktd ver true kt) 8 n (mkA m .arrN (-1) .arrN false [])) b s2)) n
        ⟨n, s4, .slice none 0 0, .slice none 0 0, .map none, -1, false, .arrN, .arrN, [], _, _, _, rfl, hn, rfl, rfl, rfl, rfl, rfl, rfl, h4, hc4.mono fun _ _ h => .inl h, Nat.le_refl _, hKS4, fun _ _ h => h⟩ ?_))
    rintro mm σ w1 ⟨k, s1, cS, cF, c, e, z, xS, xF, tl, DS, DF, DT, rfl, hk, q2, q7, q8, q9, q10, q22, h1, hc1, hsz1, hKS, hgot⟩
    refine CW.pin [(2, .bool false), (7, .pointer (some ⟨r, 0, none⟩)), (8, .int .i16 ver), (9, .bool true), (10, .pointer (some ⟨g, 0, none⟩)), (22, .int .u32 (mm : Int))] (all_pinE q2 (all_pinE q7 (all_pinE q8 (all_pinE q9 (all_pinE q10 (all_pinE q22 (fun _ h => by cases h))))))) fun σ => ?_
    simp only [flat, List.cons_append, List.nil_append, List.append_nil]
    have hSl1 : ∀ k, S k → k < w1.heap.size := fun k hk => by have := (hSl k hk).1; have := hc1.size; omega
    have hgl1 := hKS.blk.lt
    have hrl1 := h1.lt
    have hc31 := hc1.size
    have hglo : g < w4.heap.size := by omega
    have hrlo : r < w4.heap.size := by omega
    have hfail : ∀ (σ' : Fm) (w' : World) (b0 : V), Ch (fun k => k = r ∨ k = g) w3 w' → (∀ b, Got s1.o (decK (ktd ver true kt) 8 mm (mkA m xS e xF z tl)) b Rs.fail) → ∀ x : Value, x = .iface tE vE → ReadsE (.iface tE vE) T g 45 (enc ver true sch) ((dec ver true sch4 (.st (l4 ver)) l).bind fun x => dec ver true (.ktags 8 kt .nil) (x.1.app lr) x.2) w x w' := by
      intro σ' w' b0 hc' hgF x hx
      refine ⟨hc3.trans hc' fun k hk e => by rcases e with e | e; (have := hr; omega); exact e, ?_⟩
      rw [hno fun b => Got.bind (d2 := fun n l => decK (ktd ver true kt) 8 n (mkA m .arrN (-1) .arrN false []) l) hg4 (hgot b Rs.fail (hgF b))]
      exact hx
    refine CWL.reg (ops := [(.binOp .gtr 53 (.tmp 44) (.const (Go.Value.int Go.IntKind.u32 0)) 53, 4)]) (b := [(134, 1), (133, 44)]) (by kernel_rfl) ?_
    refine OpK.cmp rfl rfl rfl ?_
    show CWL _ _ _ _ _ _
    cases mm with
    | zero =>
      refine CWL.condF (congrArg Value.bool (decide_eq_false (by omega))) ?_
      simp only [flat, List.cons_append, List.nil_append, List.append_nil]
      refine CWL.cons (CW.exit ?_)
      simp only [Then, InBlock, if_true]
      have herr1 : w1.cell? ⟨1, 0, none⟩ = some (.iface tE vE) := (ch_cell hc1 (a := ⟨1, 0, none⟩) hgE3.1 (fun h => by rcases h with h | h; exact hgE3.2.1 h; exact hgE3.2.2 h) rfl).trans herr3
      show CWL _ _ _ _ _ _
      refine CWL.reg (ops := [(.call ⟨.value (.func 30), #[.tmp 14], #[66]⟩, 35)]) (b := [(6, 1), (317, 1)]) (by kernel_rfl) ?_
      refine OpK.asCall rfl calC rfl ((compIs (.iface tE vE) w1 S r 66 s1 h1 herr1).mono ?_)
      rintro en w5 ⟨he5, hw5⟩
      rw [hw5]
      refine ⟨_, he5, ?_⟩
      show CWL _ _ _ _ _ _
      refine CWL.ret ?_
      refine ⟨_, rfl, hc3.trans hc1 fun k hk e => by rcases e with e | e; (have := hr; omega); exact e, ?_⟩
      have hgU : Got s3.o (fun l => (decUv l).bind fun n => decK (ktd ver true kt) 8 n.1 (mkA m .arrN (-1) .arrN false []) n.2) (mkA m xS e xF z tl) s1 := Got.bind (d2 := fun n l => decK (ktd ver true kt) 8 n (mkA m .arrN (-1) .arrN false []) l) hg4 (hgot _ s1 (Got.pure (s := s1) (mkA m xS e xF z tl)))
      cases hd : dec ver true sch4 (.st (l4 ver)) l with
      | none =>
        rw [hd] at hSt
        have hbad : s3.bad = true := hSt
        rw [Got, show s3.o = none by unfold Rs.o; rw [hbad]; rfl] at hgU
        have hb1' : s1.bad = true := hgU
        show (if s1.bad then Value.iface tE vE else .nilIface) = .iface tE vE
        rw [if_pos hb1']
      | some x0 =>
        rw [hd] at hSt
        obtain ⟨hx0, rfl⟩ := hSt
        rw [Got, show (⟨x0.2, false⟩ : Rs).o = some x0.2 from rfl, Option.bind_some] at hgU
        simp only [Option.bind_some, decKT, ← hx0]
        rw [show (V.st m).app lr = mkA m .arrN (-1) .arrN false [] from rfl]
        cases hdU : (decUv x0.2).bind fun n => decK (ktd ver true kt) 8 n.1 (mkA m .arrN (-1) .arrN false []) n.2 with
        | none =>
          rw [hdU] at hgU
          have hb1' : s1.bad = true := hgU
          show (if s1.bad then Value.iface tE vE else .nilIface) = .iface tE vE
          rw [if_pos hb1']
        | some y =>
          rw [hdU] at hgU
          obtain ⟨hy1, rfl⟩ := hgU
          obtain ⟨vS, hvS, hrS'⟩ := hKS.lstS
          obtain ⟨vF, hvF, hrF'⟩ := hKS.lstF
          have hup : ∀ k, S k ∨ (w4.heap.size ≤ k ∧ k < w1.heap.size) → k < w1.heap.size ∧ k ≠ g := fun k hk => by
            rcases hk with hk | hk
            · exact ⟨hSl1 k hk, (hSlo k hk).2⟩
            · exact ⟨hk.2, by omega⟩
          refine ⟨rfl, mkA m vS e vF z tl, _, hKS.blk, by rw [List.length_append, h4l]; rfl, rep_all (hrep3.keepMono (fun k hk => hc1.block k hk.1 hk.2) fun k hk => ⟨by have := hk.1; omega, fun h => hk.2 (.inr h)⟩) (hrS'.mono fun k hk => hup k (hKS.inS k hk)) hKS.i64 (hrF'.mono fun k hk => hup k (hKS.inF k hk)) (hKS.tm.rep (fun k hk => hup k (.inl hk)) fun k hk => hup k (.inr (hKS.inT k hk))), ?_, ?_⟩
          · rw [show y.1 = mkA m xS e xF z tl from hy1.symm]
            exact enc_same hm hvS hvF
          · rw [show y.1 = mkA m xS e xF z tl from hy1.symm, (fldA hm).2.2.2.2.2 0 (by decide), (fldA hm).2.2.2.2.2 0 (by decide)]
    | succ k =>
    refine CWL.condT (congrArg Value.bool (decide_eq_true (by omega))) ?_
    simp only [flat, List.cons_append, List.nil_append, List.append_nil]
    refine CWL.block ?_
    simp only [flat, List.cons_append, List.nil_append, List.append_nil]
    refine CWL.reg (ops := [(.call ⟨.value (.func 34), #[.tmp 14], #[66]⟩, 53)]) (b := [(23, 1), (137, 1)]) (by kernel_rfl) ?_
    refine OpK.asCall rfl Rd.call34 rfl ((Rd.r34 w1 S hSl1 r 66 s1 h1).mono ?_)
    rintro en w5 ⟨x1, sa, he5, hx1, h5a, hc5, hga, _⟩
    refine ⟨_, he5, ?_⟩
    show CWL _ _ _ _ _ _
    have hs5 := hc5.size
    have hKS5 := hKS.keep hc5 hrg hrS hrlo hSl1
    have hSl5 : ∀ k, S k → k < w5.heap.size := fun k hk => by have := hSl1 k hk; omega
    refine CWL.reg (ops := []) (b := [(138, 46)]) (by kernel_rfl) ?_
    show CWL _ _ _ _ _ _
    refine CWL.block ?_
    simp only [flat, List.cons_append, List.nil_append, List.append_nil]
    refine CWL.reg (ops := [(.binOp .eql 53 (.tmp 276) (.const (Go.Value.int Go.IntKind.u32 0)) 53, 4)]) (b := [(147, 1), (148, 1)]) (by kernel_rfl) ?_
    refine OpK.cmp rfl rfl rfl ?_
    show CWL _ _ _ _ _ _
    by_cases hq0 : x1 = 0
    · refine CWL.condT (congrArg Value.bool (decide_eq_true (by omega))) ?_
      simp only [flat, List.cons_append, List.nil_append, List.append_nil]
      refine CWL.reg (ops := [(.call ⟨.value (.func 34), #[.tmp 14], #[66]⟩, 53), (.convert 53 3 (.tmp 1), 3), (.call ⟨.value (.func 36), #[.tmp 14, .tmp 3], #[66, 3]⟩, 22), (.build 66 #[(0, .tmp 5)], 66), (.alloc 66, 0), (.store 66 (.tmp 9) (.tmp 7), 0)]) (b := [(24, 9), (152, 7), (151, 5), (150, 3), (149, 1)]) (by kernel_rfl) ?_
      refine OpK.asCall rfl Rd.call34 rfl ((Rd.r34 w5 S hSl5 r 66 sa h5a).mono ?_)
      rintro en w6 ⟨x2, sb, he6, hx2, h6, hc6, hgb, _⟩
      refine ⟨_, he6, ?_⟩
      have hs6 := hc6.size
      refine OpK.convInt (k := .u32) (k' := .i64) (n := (x2 : Int)) (by kernel_rfl) (by kernel_rfl) rfl ?_
      rw [(i64_of_u32 x2 hx2).1]
      refine OpK.asCall rfl Rd.call36 rfl ((Rd.sp36 w6 S (fun k hk => by have := hSl5 k hk; omega) r 66 sb h6 (x2 : Int)).mono ?_)
      rintro en w7 ⟨v7, he7, hv7, h7, hc7, _⟩
      refine ⟨_, he7, ?_⟩
      have hs7 := hc7.size
      obtain ⟨a7, cc7, rfl, hlc7⟩ := hv7.form
      refine OpK.build (cells := #[.slice a7 ((rdSpan (x2 : Int) sb).1.getD []).length cc7, .bool false]) (Seat.rdT.made a7 _ cc7) ?_
      refine OpK.allocZ [.slice none 0 0, .bool false] zeroR fun w8 q8 hb8 hc8 hq8 hs8 => ?_
      refine OpK.storeG (cs := [.slice none 0 0, .bool false]) (us := [.slice a7 ((rdSpan (x2 : Int) sb).1.getD []).length cc7, .bool false]) sizeR rfl rfl (by intro u hu; simp only [List.mem_cons, List.not_mem_nil, or_false] at hu; rcases hu with rfl | rfl <;> rfl) hb8 rfl fun w9 hb9 hc9 hs9 => ?_
      show CWL _ _ _ _ _ _
      have hc17 : Ch (fun k => k = r) w1 w7 := (hc5.trans' hc6).trans' hc7
      have hs17 := hc17.size
      have hKS7 := hKS.keep hc17 hrg hrS hrlo hSl1
      have hc79 : Ch (fun _ => False) w7 w9 := hc8.trans hc9 fun i hi e => by omega
      have hs79 := hc79.size
      have hi9 : RdIs w9 S q8 66 ⟨(rdSpan (x2 : Int) sb).1.getD [], false⟩ := ⟨_, hb9, hv7.keep fun k hk => hc79.block k (by have := hSl1 k hk; omega) fun h => h, fun h => by have := hSl1 q8 h; omega⟩
      have h9 : RdIs w9 S r 66 (rdSpan (x2 : Int) sb).2 := h7.keepG (hc79.block r (by omega) fun h => h) fun k hk => hc79.block k (by have := hSl1 k hk; omega) fun h => h
      have hKS9 := hKS7.calm hc79 (fun k hk => by have := hSl1 k hk; omega)
      have hc39 : Ch (fun k => k = r ∨ k = g) w3 w9 := (hc1.trans' (hc17.mono fun _ _ h => .inl h)).trans' (hc79.mono fun _ _ h => h.elim)
      have herr9 : w9.cell? ⟨1, 0, none⟩ = some (.iface tE vE) := (ch_cell hc39 (a := ⟨1, 0, none⟩) hgE3.1 (fun h => by rcases h with h | h; exact hgE3.2.1 h; exact hgE3.2.2 h) rfl).trans herr3
      refine CWL.pin [(2, .bool false), (7, .pointer (some ⟨r, 0, none⟩)), (8, .int .i16 ver), (9, .bool true), (10, .pointer (some ⟨g, 0, none⟩)), (22, .int .u32 ((k + 1 : Nat) : Int)), (24, .pointer (some ⟨q8, 0, none⟩))] (all_pinE rfl (all_pinE rfl (all_pinE rfl (all_pinE rfl (all_pinE rfl (all_pinE rfl (all_pinE rfl (fun _ h => by cases h)))))))) fun σ => ?_
      have hL : LIn ⟨Tryd.prog, Tryd.f14.ntmps, tab, 1, .iface tE vE, 6, ⟨8, some 9, 8⟩, 2⟩ true 24 10 [24, 2, 7, 8, 9, 10, 22] := ⟨by simp, fun x hx => by simp [Cx.kn] at hx; rcases hx with rfl | rfl <;> simp, by simp, by simp⟩
      have hX : (⟨Tryd.prog, Tryd.f14.ntmps, tab, 1, .iface tE vE, 6, ⟨8, some 9, 8⟩, 2⟩ : Cx).Sound := ⟨rd (.iface tE vE)⟩
      have hE9 : 1 < w9.heap.size ∧ 1 ≠ q8 ∧ 1 ≠ g ∧ ¬ rowIs cS 1 := ⟨by omega, by omega, hgE3.2.2, fun h => by have := (hKS.ownS _ h).1; omega⟩
      refine rdArrIn_use (X := ⟨Tryd.prog, Tryd.f14.ntmps, tab, 1, .iface tE vE, 6, ⟨8, some 9, 8⟩, 2⟩) (S := S) (r := q8) (tR := 66) (T := T) (g := g) (o := 0) (tG := 45) (fx := true) (ver := ver) (L := [24, 2, 7, 8, 9, 10, 22]) (q := 24) (p := 10) 14 hX hL (k := 4) (off := 4) (e := eS) (body := elS ⟨Tryd.prog, Tryd.f14.ntmps, tab, 1, .iface tE vE, 6, ⟨8, some 9, 8⟩, 2⟩ [24, 2, 7, 8, 9, 10, 22] eS dS fS fun T' p' L' cs' => rdS ⟨Tryd.prog, Tryd.f14.ntmps, tab, 1, .iface tE vE, 6, ⟨8, some 9, 8⟩, 2⟩ true 24 fS T' p' L' cs') (gd := dec ver true fS dS) (by kernel_rfl) rfl (fun a ix ln cs hb W ga te m c => elS_step hX hL hb W ga te m c fun hrc hL' => rdS_step0 hX fS (.inl rfl) hrc hL' okfS) (cv := cS) hi9 hKS9.blk (by rw [List.getElem?_append_right (by omega), h4l]; rfl) ⟨rfl, fun s b hm => by simp [Cx.kn] at hm; rcases hm with ⟨rfl, rfl⟩ | ⟨rfl, rfl⟩ <;> rfl, rfl, rfl⟩ herr9
        hE9 (fun k hk => ⟨by have := hSl1 k hk; omega, fun e => by have := hSl1 k hk; omega, (hSlo k hk).2, fun h => by have := (hKS.ownS k h).1; have := (hSlo k hk).1; omega⟩) (by omega) (fun h => by have := hKS7.rowS.lt h; omega) (fun h => by have := (hKS.ownS _ h).1; omega) hKS9.rowS (by decide) ?_ ?_
      · intro hn σ' w' hc' hres
        exact ⟨_, rfl, hfail σ' w' .nstN (hc39.trans hc' fun i hi e => by rcases e with e | e; (exfalso; omega); (have := (hKS.ownS i e).1; exfalso; omega)) (fun b => decK_bad hga hgb (by rw [hq0]; exact (stepS (vs := []) (s' := Rs.fail) (by rw [hn]; exact rfl)).1 rfl)) _ hres⟩
      intro σ' w10 cv' vs si hgN hiE hc10 hb10 hrow10 hl10 hown10 he
      rw [List.set_append_right _ _ (by omega), h4l] at hb10
      have hb10 : Blk w10 g 45 (c4 ++ [cv', .int .i64 e, cF, .bool z, c]) := hb10
      have hs10 := hc10.size
      have hc710 : Ch (fun k => k = g ∨ rowIs cS k) w7 w10 := (hc79.mono fun _ _ h => h.elim).trans hc10 fun i hi e => by
        rcases e with e | e | e
        · exfalso; omega
        · exact .inl e
        · exact .inr e
      have hKS10 := hKS7.setS hc710 hSlo (by omega) hglo hb10 hrow10 (hl10.imp fun v h => ⟨h.1, h.2.mono fun k hk => by
        rcases hk with hk | hk | hk
        · exact .inl hk
        · exact .inr (.inl hk)
        · exact .inr (.inr ⟨by omega, hk.2⟩)⟩) (fun k hk => (hown10 k hk).imp id fun h => by omega)
      have hcE : Ch (fun k => k = r ∨ k = g) w3 w10 := hc39.trans hc10 fun i hi e => by
        rcases e with e | e | e
        · exfalso; omega
        · exact .inr e
        · have := (hKS.ownS i e).1; exfalso; omega
      have h10 : RdIs w10 S r 66 (rdSpan (x2 : Int) sb).2 := h9.keepG (hc10.block r (by omega) fun e => by rcases e with e | e | e; omega; exact hrg e; (have := (hKS.ownS r e).1; omega)) fun k hk => hc10.block k (by have := hSl1 k hk; omega) fun e => by rcases e with e | e | e; (have := hSl1 k hk; omega); exact (hSlo k hk).2 e; (have := (hKS.ownS k e).1; have := (hSlo k hk).1; omega)
      have herrE : w10.cell? ⟨1, 0, none⟩ = some (.iface tE vE) := (ch_cell hcE (a := ⟨1, 0, none⟩) hgE3.1 (fun h => by rcases h with h | h; exact hgE3.2.1 h; exact hgE3.2.2 h) rfl).trans herr3
      simp only [List.drop_succ_cons, List.drop_zero]
      refine CWL.pin [(2, .bool false), (7, .pointer (some ⟨r, 0, none⟩)), (8, .int .i16 ver), (9, .bool true), (10, .pointer (some ⟨g, 0, none⟩)), (22, .int .u32 ((k + 1 : Nat) : Int)), (24, .pointer (some ⟨q8, 0, none⟩))] (all_pinE ((he 2 (by simp)).trans rfl) (all_pinE ((he 7 (by simp)).trans rfl) (all_pinE ((he 8 (by simp)).trans rfl) (all_pinE ((he 9 (by simp)).trans rfl) (all_pinE ((he 10 (by simp)).trans rfl) (all_pinE ((he 22 (by simp)).trans rfl) (all_pinE ((he 24 (by simp)).trans rfl) (fun _ h => by cases h)))))))) fun σ => ?_
      refine CWL.reg (ops := [(.call ⟨.value (.func 30), #[.tmp 48], #[66]⟩, 35)]) (b := [(34, 1), (213, 1)]) (by kernel_rfl) ?_
      refine OpK.asCall rfl calC rfl ((compIs (.iface tE vE) w10 S q8 66 si hiE herrE).mono ?_)
      rintro en w14 ⟨he14, hw14⟩
      rw [hw14]
      refine ⟨_, he14, ?_⟩
      show CWL _ _ _ _ _ _
      cases hbad : si.bad with
      | true =>
        refine CWL.reg (ops := [(.binOp .neq 35 (.tmp 68) (.const (Go.Value.nilIface)) 35, 4)]) (b := [(215, 1), (214, 68)]) (by kernel_rfl) ?_
        refine OpK.cmpNil (v := .iface tE vE) (b := true) hms rfl rfl (.inr ⟨⟨tE, vE, rfl⟩, rfl⟩) ?_
        show CWL _ _ _ _ _ _
        refine CWL.condT rfl ?_
        simp only [flat, List.cons_append, List.nil_append, List.append_nil]
        refine CWL.reg (ops := []) (b := [(6, 68), (216, 68)]) (by kernel_rfl) ?_
        show CWL _ _ _ _ _ _
        refine CWL.ret ?_
        exact ⟨_, rfl, hfail σ _ .nstN hcE (fun b => decK_bad hga hgb (by rw [hq0]; exact (stepS hgN).1 hbad)) _ rfl⟩
      | false =>
        refine CWL.reg (ops := [(.binOp .neq 35 (.tmp 68) (.const (Go.Value.nilIface)) 35, 4)]) (b := [(215, 1), (214, 68)]) (by kernel_rfl) ?_
        refine OpK.cmpNil (v := .nilIface) (b := false) hms rfl rfl (.inl ⟨rfl, rfl⟩) ?_
        show CWL _ _ _ _ _ _
        refine CWL.condF rfl ?_
        simp only [flat, List.cons_append, List.nil_append, List.append_nil]
        show CWL _ _ _ _ _ _
        refine CWL.reg (ops := [(.binOp .sub 53 (.tmp 44) (.const (Go.Value.int Go.IntKind.u32 1)) 53, 53)]) (b := [(22, 1), (136, 1), (135, 44)]) (by kernel_rfl) ?_
        refine OpK.arith rfl rfl rfl ?_
        show CWL _ _ _ _ _ _
        obtain ⟨x, hx, hst⟩ := (stepS (v := mkA m xS e xF z tl) hgN).2 hbad
        refine ⟨k, by omega, k, (rdSpan (x2 : Int) sb).2, cv', cF, c, e, z, x, xF, tl, _, _, _, rfl, by omega, rfl, rfl, rfl, rfl, rfl, ?_, h10, hcE, by omega, hx ▸ hKS10, fun b s2 hb => hgot b s2 (decK_ok hga hgb (by rw [hq0]; exact hst) (by rw [put4 hm]; exact hb))⟩
        show Value.int .u32 (IntKind.u32.wrap (((k + 1 : Nat) : Int) - 1)) = _
        congr 1
        rw [IntKind.wrap_u32]
        omega
    refine CWL.condF (congrArg Value.bool (decide_eq_false (by omega))) ?_
    simp only [flat, List.cons_append, List.nil_append, List.append_nil]
    refine CWL.reg (ops := [(.binOp .eql 53 (.tmp 276) (.const (Go.Value.int Go.IntKind.u32 1)) 53, 4)]) (b := [(217, 1), (218, 1)]) (by kernel_rfl) ?_
    refine OpK.cmp rfl rfl rfl ?_
    show CWL _ _ _ _ _ _
    by_cases hq1 : x1 = 1
    · refine CWL.condT (congrArg Value.bool (decide_eq_true (by omega))) ?_
      simp only [flat, List.cons_append, List.nil_append, List.append_nil]
      refine CWL.reg (ops := [(.call ⟨.value (.func 34), #[.tmp 14], #[66]⟩, 53), (.convert 53 3 (.tmp 1), 3), (.call ⟨.value (.func 36), #[.tmp 14, .tmp 3], #[66, 3]⟩, 22), (.build 66 #[(0, .tmp 5)], 66), (.alloc 66, 0), (.store 66 (.tmp 9) (.tmp 7), 0)]) (b := [(35, 9), (222, 7), (221, 5), (220, 3), (219, 1)]) (by kernel_rfl) ?_
      refine OpK.asCall rfl Rd.call34 rfl ((Rd.r34 w5 S hSl5 r 66 sa h5a).mono ?_)
      rintro en w6 ⟨x2, sb, he6, hx2, h6, hc6, hgb, _⟩
      refine ⟨_, he6, ?_⟩
      have hs6 := hc6.size
      refine OpK.convInt (k := .u32) (k' := .i64) (n := (x2 : Int)) (by kernel_rfl) (by kernel_rfl) rfl ?_
      rw [(i64_of_u32 x2 hx2).1]
      refine OpK.asCall rfl Rd.call36 rfl ((Rd.sp36 w6 S (fun k hk => by have := hSl5 k hk; omega) r 66 sb h6 (x2 : Int)).mono ?_)
      rintro en w7 ⟨v7, he7, hv7, h7, hc7, _⟩
      refine ⟨_, he7, ?_⟩
      have hs7 := hc7.size
      obtain ⟨a7, cc7, rfl, hlc7⟩ := hv7.form
      refine OpK.build (cells := #[.slice a7 ((rdSpan (x2 : Int) sb).1.getD []).length cc7, .bool false]) (Seat.rdT.made a7 _ cc7) ?_
      refine OpK.allocZ [.slice none 0 0, .bool false] zeroR fun w8 q8 hb8 hc8 hq8 hs8 => ?_
      refine OpK.storeG (cs := [.slice none 0 0, .bool false]) (us := [.slice a7 ((rdSpan (x2 : Int) sb).1.getD []).length cc7, .bool false]) sizeR rfl rfl (by intro u hu; simp only [List.mem_cons, List.not_mem_nil, or_false] at hu; rcases hu with rfl | rfl <;> rfl) hb8 rfl fun w9 hb9 hc9 hs9 => ?_
      show CWL _ _ _ _ _ _
      have hc17 : Ch (fun k => k = r) w1 w7 := (hc5.trans' hc6).trans' hc7
      have hs17 := hc17.size
      have hKS7 := hKS.keep hc17 hrg hrS hrlo hSl1
      have hc79 : Ch (fun _ => False) w7 w9 := hc8.trans hc9 fun i hi e => by omega
      have hs79 := hc79.size
      have hi9 : RdIs w9 S q8 66 ⟨(rdSpan (x2 : Int) sb).1.getD [], false⟩ := ⟨_, hb9, hv7.keep fun k hk => hc79.block k (by have := hSl1 k hk; omega) fun h => h, fun h => by have := hSl1 q8 h; omega⟩
      have h9 : RdIs w9 S r 66 (rdSpan (x2 : Int) sb).2 := h7.keepG (hc79.block r (by omega) fun h => h) fun k hk => hc79.block k (by have := hSl1 k hk; omega) fun h => h
      have hKS9 := hKS7.calm hc79 (fun k hk => by have := hSl1 k hk; omega)
      have hc39 : Ch (fun k => k = r ∨ k = g) w3 w9 := (hc1.trans' (hc17.mono fun _ _ h => .inl h)).trans' (hc79.mono fun _ _ h => h.elim)
      have herr9 : w9.cell? ⟨1, 0, none⟩ = some (.iface tE vE) := (ch_cell hc39 (a := ⟨1, 0, none⟩) hgE3.1 (fun h => by rcases h with h | h; exact hgE3.2.1 h; exact hgE3.2.2 h) rfl).trans herr3
      refine CWL.reg (ops := [(.call ⟨.value (.func 42), #[.tmp 70], #[66]⟩, 2)]) (b := [(36, 1), (223, 1)]) (by kernel_rfl) ?_
      refine OpK.asCall rfl calI rfl ((i64Is (.iface tE vE) w9 S q8 66 ⟨(rdSpan (x2 : Int) sb).1.getD [], false⟩ (fun k hk => by have := hSl1 k hk; omega) hi9).mono ?_)
      rintro en w10 ⟨u, cu, si, he10, hi10, hc10, hru, hgi⟩
      refine ⟨_, he10, ?_⟩
      have hs10 := hc10.size
      show CWL _ _ _ _ _ _
      obtain ⟨y, rfl, rfl, hy⟩ : ∃ n, u = .i n ∧ cu = [.int .i64 n] ∧ IntKind.i64.wrap n = n := by
        cases u <;> simp only [Wt.ty, Rep] at hru
        exact ⟨_, rfl, hru.1, hru.2⟩
      have hb10 : Blk w10 g 45 (c4 ++ [cS, .int .i64 e, cF, .bool z, c]) := hKS9.blk.keep (hc10.block g (by omega) (by omega))
      refine CWL.reg (ops := [(.nilCheck (.tmp 20), 0), (.fieldAddr 45 (.tmp 1) 5, 0), (.store 2 (.tmp 3) (.tmp 72), 0)]) (b := [(227, 3), (226, 1), (225, 72), (224, 20)]) (by kernel_rfl) ?_
      refine OpK.nilCheck rfl ?_
      refine OpK.fieldAddr (off := 5) (by kernel_rfl) rfl ?_
      refine OpK.storeV (c := [.int .i64 y]) (v := .int .i64 y) (g := g) (o := 5) (tG := 45) (cells := c4 ++ [cS, .int .i64 e, cF, .bool z, c]) sizeI rfl rfl (.inr rfl) (by intro u hu; simp only [List.mem_cons, List.not_mem_nil, or_false] at hu; subst hu; rfl) hb10 (by simp only [List.length_append, List.length_cons, List.length_nil]; omega) ?_
      show CWL _ _ _ _ _ _
      have hb11 := hb10.setCells [.int .i64 y] 5 (by simp only [List.length_append, List.length_cons, List.length_nil]; omega)
      rw [← spl_one (by simp only [List.length_append, List.length_cons, List.length_nil]; omega), List.set_append_right _ _ (by omega), h4l] at hb11
      have hb11 : Blk (w10.setCells g 5 [.int .i64 y]) g 45 (c4 ++ [cS, .int .i64 y, cF, .bool z, c]) := hb11
      have hc11 := setCells_ch g [.int .i64 y] 5 w10
      have hs11 := setCells_size g [.int .i64 y] 5 w10
      have hk11 : ∀ k, k ≠ g → (w10.setCells g 5 [.int .i64 y]).heap[k]? = w10.heap[k]? := fun k hk => setCells_heap g _ _ _ _ hk
      generalize w10.setCells g 5 [.int .i64 y] = w11 at hb11 hc11 hs11 hk11 ⊢
      have hc911 : Ch (fun k => k = q8 ∨ k = g) w9 w11 := (hc10.mono fun _ _ h => .inl h).trans' (hc11.mono fun _ _ h => .inr h)
      have hKS11 := hKS7.keepB hb11 hy (by omega) fun k hk => (hc911.block k (by rcases hk with hk | hk; (have := hSl1 k hk; omega); omega) fun e => by
        rcases e with e | e
        · rcases hk with hk | hk
          · have := hSl1 k hk; omega
          · omega
        · rcases hk with hk | hk
          · exact (hSlo k hk).2 e
          · omega).trans (hc79.block k (by rcases hk with hk | hk; (have := hSl1 k hk; omega); omega) fun h => h)
      have hcE : Ch (fun k => k = r ∨ k = g) w3 w11 := hc39.trans hc911 fun i hi e => by
        rcases e with e | e
        · exfalso; omega
        · exact .inr e
      have hiE : RdIs w11 S q8 66 si := hi10.keepG (hk11 q8 (by omega)) fun k hk => hk11 k (hSlo k hk).2
      have h11 : RdIs w11 S r 66 (rdSpan (x2 : Int) sb).2 := h9.keepG (hc911.block r (by omega) fun e => by rcases e with e | e; omega; exact hrg e) fun k hk => hc911.block k (by have := hSl1 k hk; omega) fun e => by rcases e with e | e; (have := hSl1 k hk; omega); exact (hSlo k hk).2 e
      have herrE : w11.cell? ⟨1, 0, none⟩ = some (.iface tE vE) := (ch_cell hcE (a := ⟨1, 0, none⟩) hgE3.1 (fun h => by rcases h with h | h; exact hgE3.2.1 h; exact hgE3.2.2 h) rfl).trans herr3
      refine CWL.reg (ops := [(.call ⟨.value (.func 30), #[.tmp 70], #[66]⟩, 35)]) (b := [(37, 1), (228, 1)]) (by kernel_rfl) ?_
      refine OpK.asCall rfl calC rfl ((compIs (.iface tE vE) w11 S q8 66 si hiE herrE).mono ?_)
      rintro en w14 ⟨he14, hw14⟩
      rw [hw14]
      refine ⟨_, he14, ?_⟩
      show CWL _ _ _ _ _ _
      cases hbad : si.bad with
      | true =>
        refine CWL.reg (ops := [(.binOp .neq 35 (.tmp 74) (.const (Go.Value.nilIface)) 35, 4)]) (b := [(230, 1), (229, 74)]) (by kernel_rfl) ?_
        refine OpK.cmpNil (v := .iface tE vE) (b := true) hms rfl rfl (.inr ⟨⟨tE, vE, rfl⟩, rfl⟩) ?_
        show CWL _ _ _ _ _ _
        refine CWL.condT rfl ?_
        simp only [flat, List.cons_append, List.nil_append, List.append_nil]
        refine CWL.reg (ops := []) (b := [(6, 74), (231, 74)]) (by kernel_rfl) ?_
        show CWL _ _ _ _ _ _
        refine CWL.ret ?_
        exact ⟨_, rfl, hfail σ _ .nstN hcE (fun b => decK_bad hga hgb (by rw [hq1]; exact (stepE (u := .i y) hgi).1 hbad)) _ rfl⟩
      | false =>
        refine CWL.reg (ops := [(.binOp .neq 35 (.tmp 74) (.const (Go.Value.nilIface)) 35, 4)]) (b := [(230, 1), (229, 74)]) (by kernel_rfl) ?_
        refine OpK.cmpNil (v := .nilIface) (b := false) hms rfl rfl (.inl ⟨rfl, rfl⟩) ?_
        show CWL _ _ _ _ _ _
        refine CWL.condF rfl ?_
        simp only [flat, List.cons_append, List.nil_append, List.append_nil]
        show CWL _ _ _ _ _ _
        refine CWL.reg (ops := [(.binOp .sub 53 (.tmp 44) (.const (Go.Value.int Go.IntKind.u32 1)) 53, 53)]) (b := [(22, 1), (136, 1), (135, 44)]) (by kernel_rfl) ?_
        refine OpK.arith rfl rfl rfl ?_
        show CWL _ _ _ _ _ _
        have hst := (stepE (ver := ver) (v := mkA m xS e xF z tl) hgi).2 hbad
        refine ⟨k, by omega, k, (rdSpan (x2 : Int) sb).2, cS, cF, c, y, z, xS, xF, tl, _, _, _, rfl, by omega, rfl, rfl, rfl, rfl, rfl, ?_, h11, hcE, by omega, hKS11, fun b s2 hb => hgot b s2 (decK_ok hga hgb (by rw [hq1]; exact hst) (by rw [put5 hm]; exact hb))⟩
        show Value.int .u32 (IntKind.u32.wrap (((k + 1 : Nat) : Int) - 1)) = _
        congr 1
        rw [IntKind.wrap_u32]
        omega
    refine CWL.condF (congrArg Value.bool (decide_eq_false (by omega))) ?_
    simp only [flat, List.cons_append, List.nil_append, List.append_nil]
    refine CWL.reg (ops := [(.binOp .eql 53 (.tmp 276) (.const (Go.Value.int Go.IntKind.u32 2)) 53, 4)]) (b := [(232, 1), (233, 1)]) (by kernel_rfl) ?_
    refine OpK.cmp rfl rfl rfl ?_
    show CWL _ _ _ _ _ _
    by_cases hq2 : x1 = 2
    · refine CWL.condT (congrArg Value.bool (decide_eq_true (by omega))) ?_
      simp only [flat, List.cons_append, List.nil_append, List.append_nil]
      refine CWL.reg (ops := [(.call ⟨.value (.func 34), #[.tmp 14], #[66]⟩, 53), (.convert 53 3 (.tmp 1), 3), (.call ⟨.value (.func 36), #[.tmp 14, .tmp 3], #[66, 3]⟩, 22), (.build 66 #[(0, .tmp 5)], 66), (.alloc 66, 0), (.store 66 (.tmp 9) (.tmp 7), 0)]) (b := [(38, 9), (237, 7), (236, 5), (235, 3), (234, 1)]) (by kernel_rfl) ?_
      refine OpK.asCall rfl Rd.call34 rfl ((Rd.r34 w5 S hSl5 r 66 sa h5a).mono ?_)
      rintro en w6 ⟨x2, sb, he6, hx2, h6, hc6, hgb, _⟩
      refine ⟨_, he6, ?_⟩
      have hs6 := hc6.size
      refine OpK.convInt (k := .u32) (k' := .i64) (n := (x2 : Int)) (by kernel_rfl) (by kernel_rfl) rfl ?_
      rw [(i64_of_u32 x2 hx2).1]
      refine OpK.asCall rfl Rd.call36 rfl ((Rd.sp36 w6 S (fun k hk => by have := hSl5 k hk; omega) r 66 sb h6 (x2 : Int)).mono ?_)
      rintro en w7 ⟨v7, he7, hv7, h7, hc7, _⟩
      refine ⟨_, he7, ?_⟩
      have hs7 := hc7.size
      obtain ⟨a7, cc7, rfl, hlc7⟩ := hv7.form
      refine OpK.build (cells := #[.slice a7 ((rdSpan (x2 : Int) sb).1.getD []).length cc7, .bool false]) (Seat.rdT.made a7 _ cc7) ?_
      refine OpK.allocZ [.slice none 0 0, .bool false] zeroR fun w8 q8 hb8 hc8 hq8 hs8 => ?_
      refine OpK.storeG (cs := [.slice none 0 0, .bool false]) (us := [.slice a7 ((rdSpan (x2 : Int) sb).1.getD []).length cc7, .bool false]) sizeR rfl rfl (by intro u hu; simp only [List.mem_cons, List.not_mem_nil, or_false] at hu; rcases hu with rfl | rfl <;> rfl) hb8 rfl fun w9 hb9 hc9 hs9 => ?_
      show CWL _ _ _ _ _ _
      have hc17 : Ch (fun k => k = r) w1 w7 := (hc5.trans' hc6).trans' hc7
      have hs17 := hc17.size
      have hKS7 := hKS.keep hc17 hrg hrS hrlo hSl1
      have hc79 : Ch (fun _ => False) w7 w9 := hc8.trans hc9 fun i hi e => by omega
      have hs79 := hc79.size
      have hi9 : RdIs w9 S q8 66 ⟨(rdSpan (x2 : Int) sb).1.getD [], false⟩ := ⟨_, hb9, hv7.keep fun k hk => hc79.block k (by have := hSl1 k hk; omega) fun h => h, fun h => by have := hSl1 q8 h; omega⟩
      have h9 : RdIs w9 S r 66 (rdSpan (x2 : Int) sb).2 := h7.keepG (hc79.block r (by omega) fun h => h) fun k hk => hc79.block k (by have := hSl1 k hk; omega) fun h => h
      have hKS9 := hKS7.calm hc79 (fun k hk => by have := hSl1 k hk; omega)
      have hc39 : Ch (fun k => k = r ∨ k = g) w3 w9 := (hc1.trans' (hc17.mono fun _ _ h => .inl h)).trans' (hc79.mono fun _ _ h => h.elim)
      have herr9 : w9.cell? ⟨1, 0, none⟩ = some (.iface tE vE) := (ch_cell hc39 (a := ⟨1, 0, none⟩) hgE3.1 (fun h => by rcases h with h | h; exact hgE3.2.1 h; exact hgE3.2.2 h) rfl).trans herr3
      refine CWL.pin [(2, .bool false), (7, .pointer (some ⟨r, 0, none⟩)), (8, .int .i16 ver), (9, .bool true), (10, .pointer (some ⟨g, 0, none⟩)), (22, .int .u32 ((k + 1 : Nat) : Int)), (38, .pointer (some ⟨q8, 0, none⟩))] (all_pinE rfl (all_pinE rfl (all_pinE rfl (all_pinE rfl (all_pinE rfl (all_pinE rfl (all_pinE rfl (fun _ h => by cases h)))))))) fun σ => ?_
      have hL : LIn ⟨Tryd.prog, Tryd.f14.ntmps, tab, 1, .iface tE vE, 6, ⟨8, some 9, 8⟩, 2⟩ true 38 10 [38, 2, 7, 8, 9, 10, 22] := ⟨by simp, fun x hx => by simp [Cx.kn] at hx; rcases hx with rfl | rfl <;> simp, by simp, by simp⟩
      have hX : (⟨Tryd.prog, Tryd.f14.ntmps, tab, 1, .iface tE vE, 6, ⟨8, some 9, 8⟩, 2⟩ : Cx).Sound := ⟨rd (.iface tE vE)⟩
      have hE9 : 1 < w9.heap.size ∧ 1 ≠ q8 ∧ 1 ≠ g ∧ ¬ rowIs cF 1 := ⟨by omega, by omega, hgE3.2.2, fun h => by have := (hKS.ownF _ h).1; omega⟩
      refine rdArrIn_use (X := ⟨Tryd.prog, Tryd.f14.ntmps, tab, 1, .iface tE vE, 6, ⟨8, some 9, 8⟩, 2⟩) (S := S) (r := q8) (tR := 66) (T := T) (g := g) (o := 0) (tG := 45) (fx := true) (ver := ver) (L := [38, 2, 7, 8, 9, 10, 22]) (q := 38) (p := 10) 14 hX hL (k := 6) (off := 6) (e := eF) (body := elS ⟨Tryd.prog, Tryd.f14.ntmps, tab, 1, .iface tE vE, 6, ⟨8, some 9, 8⟩, 2⟩ [38, 2, 7, 8, 9, 10, 22] eF dF fS fun T' p' L' cs' => rdS ⟨Tryd.prog, Tryd.f14.ntmps, tab, 1, .iface tE vE, 6, ⟨8, some 9, 8⟩, 2⟩ true 38 fS T' p' L' cs') (gd := dec ver true fS dF) (by kernel_rfl) rfl (fun a ix ln cs hb W ga te m c => elS_step hX hL hb W ga te m c fun hrc hL' => rdS_step0 hX fS (.inl rfl) hrc hL' okfS) (cv := cF) hi9 hKS9.blk (by rw [List.getElem?_append_right (by omega), h4l]; rfl) ⟨rfl, fun s b hm => by simp [Cx.kn] at hm; rcases hm with ⟨rfl, rfl⟩ | ⟨rfl, rfl⟩ <;> rfl, rfl, rfl⟩ herr9
        hE9 (fun k hk => ⟨by have := hSl1 k hk; omega, fun e => by have := hSl1 k hk; omega, (hSlo k hk).2, fun h => by have := (hKS.ownF k h).1; have := (hSlo k hk).1; omega⟩) (by omega) (fun h => by have := hKS7.rowF.lt h; omega) (fun h => by have := (hKS.ownF _ h).1; omega) hKS9.rowF (by decide) ?_ ?_
      · intro hn σ' w' hc' hres
        exact ⟨_, rfl, hfail σ' w' .nstN (hc39.trans hc' fun i hi e => by rcases e with e | e; (exfalso; omega); (have := (hKS.ownF i e).1; exfalso; omega)) (fun b => decK_bad hga hgb (by rw [hq2]; exact (stepF (vs := []) (s' := Rs.fail) (by rw [hn]; exact rfl)).1 rfl)) _ hres⟩
      intro σ' w10 cv' vs si hgN hiE hc10 hb10 hrow10 hl10 hown10 he
      rw [List.set_append_right _ _ (by omega), h4l] at hb10
      have hb10 : Blk w10 g 45 (c4 ++ [cS, .int .i64 e, cv', .bool z, c]) := hb10
      have hs10 := hc10.size
      have hc710 : Ch (fun k => k = g ∨ rowIs cF k) w7 w10 := (hc79.mono fun _ _ h => h.elim).trans hc10 fun i hi e => by
        rcases e with e | e | e
        · exfalso; omega
        · exact .inl e
        · exact .inr e
      have hKS10 := hKS7.setF hc710 hSlo (by omega) hglo hb10 hrow10 (hl10.imp fun v h => ⟨h.1, h.2.mono fun k hk => by
        rcases hk with hk | hk | hk
        · exact .inl hk
        · exact .inr (.inl hk)
        · exact .inr (.inr ⟨by omega, hk.2⟩)⟩) (fun k hk => (hown10 k hk).imp id fun h => by omega)
      have hcE : Ch (fun k => k = r ∨ k = g) w3 w10 := hc39.trans hc10 fun i hi e => by
        rcases e with e | e | e
        · exfalso; omega
        · exact .inr e
        · have := (hKS.ownF i e).1; exfalso; omega
      have h10 : RdIs w10 S r 66 (rdSpan (x2 : Int) sb).2 := h9.keepG (hc10.block r (by omega) fun e => by rcases e with e | e | e; omega; exact hrg e; (have := (hKS.ownF r e).1; omega)) fun k hk => hc10.block k (by have := hSl1 k hk; omega) fun e => by rcases e with e | e | e; (have := hSl1 k hk; omega); exact (hSlo k hk).2 e; (have := (hKS.ownF k e).1; have := (hSlo k hk).1; omega)
      have herrE : w10.cell? ⟨1, 0, none⟩ = some (.iface tE vE) := (ch_cell hcE (a := ⟨1, 0, none⟩) hgE3.1 (fun h => by rcases h with h | h; exact hgE3.2.1 h; exact hgE3.2.2 h) rfl).trans herr3
      simp only [List.drop_succ_cons, List.drop_zero]
      refine CWL.pin [(2, .bool false), (7, .pointer (some ⟨r, 0, none⟩)), (8, .int .i16 ver), (9, .bool true), (10, .pointer (some ⟨g, 0, none⟩)), (22, .int .u32 ((k + 1 : Nat) : Int)), (38, .pointer (some ⟨q8, 0, none⟩))] (all_pinE ((he 2 (by simp)).trans rfl) (all_pinE ((he 7 (by simp)).trans rfl) (all_pinE ((he 8 (by simp)).trans rfl) (all_pinE ((he 9 (by simp)).trans rfl) (all_pinE ((he 10 (by simp)).trans rfl) (all_pinE ((he 22 (by simp)).trans rfl) (all_pinE ((he 38 (by simp)).trans rfl) (fun _ h => by cases h)))))))) fun σ => ?_
      refine CWL.reg (ops := [(.call ⟨.value (.func 30), #[.tmp 76], #[66]⟩, 35)]) (b := [(48, 1), (298, 1)]) (by kernel_rfl) ?_
      refine OpK.asCall rfl calC rfl ((compIs (.iface tE vE) w10 S q8 66 si hiE herrE).mono ?_)
      rintro en w14 ⟨he14, hw14⟩
      rw [hw14]
      refine ⟨_, he14, ?_⟩
      show CWL _ _ _ _ _ _
      cases hbad : si.bad with
      | true =>
        refine CWL.reg (ops := [(.binOp .neq 35 (.tmp 96) (.const (Go.Value.nilIface)) 35, 4)]) (b := [(300, 1), (299, 96)]) (by kernel_rfl) ?_
        refine OpK.cmpNil (v := .iface tE vE) (b := true) hms rfl rfl (.inr ⟨⟨tE, vE, rfl⟩, rfl⟩) ?_
        show CWL _ _ _ _ _ _
        refine CWL.condT rfl ?_
        simp only [flat, List.cons_append, List.nil_append, List.append_nil]
        refine CWL.reg (ops := []) (b := [(6, 96), (301, 96)]) (by kernel_rfl) ?_
        show CWL _ _ _ _ _ _
        refine CWL.ret ?_
        exact ⟨_, rfl, hfail σ _ .nstN hcE (fun b => decK_bad hga hgb (by rw [hq2]; exact (stepF hgN).1 hbad)) _ rfl⟩
      | false =>
        refine CWL.reg (ops := [(.binOp .neq 35 (.tmp 96) (.const (Go.Value.nilIface)) 35, 4)]) (b := [(300, 1), (299, 96)]) (by kernel_rfl) ?_
        refine OpK.cmpNil (v := .nilIface) (b := false) hms rfl rfl (.inl ⟨rfl, rfl⟩) ?_
        show CWL _ _ _ _ _ _
        refine CWL.condF rfl ?_
        simp only [flat, List.cons_append, List.nil_append, List.append_nil]
        show CWL _ _ _ _ _ _
        refine CWL.reg (ops := [(.binOp .sub 53 (.tmp 44) (.const (Go.Value.int Go.IntKind.u32 1)) 53, 53)]) (b := [(22, 1), (136, 1), (135, 44)]) (by kernel_rfl) ?_
        refine OpK.arith rfl rfl rfl ?_
        show CWL _ _ _ _ _ _
        obtain ⟨x, hx, hst⟩ := (stepF (v := mkA m xS e xF z tl) hgN).2 hbad
        refine ⟨k, by omega, k, (rdSpan (x2 : Int) sb).2, cS, cv', c, e, z, xS, x, tl, _, _, _, rfl, by omega, rfl, rfl, rfl, rfl, rfl, ?_, h10, hcE, by omega, hx ▸ hKS10, fun b s2 hb => hgot b s2 (decK_ok hga hgb (by rw [hq2]; exact hst) (by rw [put6 hm]; exact hb))⟩
        show Value.int .u32 (IntKind.u32.wrap (((k + 1 : Nat) : Int) - 1)) = _
        congr 1
        rw [IntKind.wrap_u32]
        omega
    refine CWL.condF (congrArg Value.bool (decide_eq_false (by omega))) ?_
    simp only [flat, List.cons_append, List.nil_append, List.append_nil]
    refine CWL.reg (ops := [(.binOp .eql 53 (.tmp 276) (.const (Go.Value.int Go.IntKind.u32 3)) 53, 4)]) (b := [(302, 1), (303, 1)]) (by kernel_rfl) ?_
    refine OpK.cmp rfl rfl rfl ?_
    show CWL _ _ _ _ _ _
    by_cases hq3 : x1 = 3
    · refine CWL.condT (congrArg Value.bool (decide_eq_true (by omega))) ?_
      simp only [flat, List.cons_append, List.nil_append, List.append_nil]
      refine CWL.reg (ops := [(.call ⟨.value (.func 34), #[.tmp 14], #[66]⟩, 53), (.convert 53 3 (.tmp 1), 3), (.call ⟨.value (.func 36), #[.tmp 14, .tmp 3], #[66, 3]⟩, 22), (.build 66 #[(0, .tmp 5)], 66), (.alloc 66, 0), (.store 66 (.tmp 9) (.tmp 7), 0)]) (b := [(49, 9), (307, 7), (306, 5), (305, 3), (304, 1)]) (by kernel_rfl) ?_
      refine OpK.asCall rfl Rd.call34 rfl ((Rd.r34 w5 S hSl5 r 66 sa h5a).mono ?_)
      rintro en w6 ⟨x2, sb, he6, hx2, h6, hc6, hgb, _⟩
      refine ⟨_, he6, ?_⟩
      have hs6 := hc6.size
      refine OpK.convInt (k := .u32) (k' := .i64) (n := (x2 : Int)) (by kernel_rfl) (by kernel_rfl) rfl ?_
      rw [(i64_of_u32 x2 hx2).1]
      refine OpK.asCall rfl Rd.call36 rfl ((Rd.sp36 w6 S (fun k hk => by have := hSl5 k hk; omega) r 66 sb h6 (x2 : Int)).mono ?_)
      rintro en w7 ⟨v7, he7, hv7, h7, hc7, _⟩
      refine ⟨_, he7, ?_⟩
      have hs7 := hc7.size
      obtain ⟨a7, cc7, rfl, hlc7⟩ := hv7.form
      refine OpK.build (cells := #[.slice a7 ((rdSpan (x2 : Int) sb).1.getD []).length cc7, .bool false]) (Seat.rdT.made a7 _ cc7) ?_
      refine OpK.allocZ [.slice none 0 0, .bool false] zeroR fun w8 q8 hb8 hc8 hq8 hs8 => ?_
      refine OpK.storeG (cs := [.slice none 0 0, .bool false]) (us := [.slice a7 ((rdSpan (x2 : Int) sb).1.getD []).length cc7, .bool false]) sizeR rfl rfl (by intro u hu; simp only [List.mem_cons, List.not_mem_nil, or_false] at hu; rcases hu with rfl | rfl <;> rfl) hb8 rfl fun w9 hb9 hc9 hs9 => ?_
      show CWL _ _ _ _ _ _
      have hc17 : Ch (fun k => k = r) w1 w7 := (hc5.trans' hc6).trans' hc7
      have hs17 := hc17.size
      have hKS7 := hKS.keep hc17 hrg hrS hrlo hSl1
      have hc79 : Ch (fun _ => False) w7 w9 := hc8.trans hc9 fun i hi e => by omega
      have hs79 := hc79.size
      have hi9 : RdIs w9 S q8 66 ⟨(rdSpan (x2 : Int) sb).1.getD [], false⟩ := ⟨_, hb9, hv7.keep fun k hk => hc79.block k (by have := hSl1 k hk; omega) fun h => h, fun h => by have := hSl1 q8 h; omega⟩
      have h9 : RdIs w9 S r 66 (rdSpan (x2 : Int) sb).2 := h7.keepG (hc79.block r (by omega) fun h => h) fun k hk => hc79.block k (by have := hSl1 k hk; omega) fun h => h
      have hKS9 := hKS7.calm hc79 (fun k hk => by have := hSl1 k hk; omega)
      have hc39 : Ch (fun k => k = r ∨ k = g) w3 w9 := (hc1.trans' (hc17.mono fun _ _ h => .inl h)).trans' (hc79.mono fun _ _ h => h.elim)
      have herr9 : w9.cell? ⟨1, 0, none⟩ = some (.iface tE vE) := (ch_cell hc39 (a := ⟨1, 0, none⟩) hgE3.1 (fun h => by rcases h with h | h; exact hgE3.2.1 h; exact hgE3.2.2 h) rfl).trans herr3
      refine CWL.reg (ops := [(.call ⟨.value (.func 44), #[.tmp 98], #[66]⟩, 4)]) (b := [(50, 1), (308, 1)]) (by kernel_rfl) ?_
      refine OpK.asCall rfl calB rfl ((boolIs (.iface tE vE) w9 S q8 66 ⟨(rdSpan (x2 : Int) sb).1.getD [], false⟩ (fun k hk => by have := hSl1 k hk; omega) hi9).mono ?_)
      rintro en w10 ⟨u, cu, si, he10, hi10, hc10, hru, hgi⟩
      refine ⟨_, he10, ?_⟩
      have hs10 := hc10.size
      show CWL _ _ _ _ _ _
      obtain ⟨y, rfl, rfl⟩ : ∃ n, u = .b n ∧ cu = [.bool n] := by
        cases u <;> simp only [Wt.ty, Rep] at hru
        exact ⟨_, rfl, hru⟩
      have hb10 : Blk w10 g 45 (c4 ++ [cS, .int .i64 e, cF, .bool z, c]) := hKS9.blk.keep (hc10.block g (by omega) (by omega))
      refine CWL.reg (ops := [(.nilCheck (.tmp 20), 0), (.fieldAddr 45 (.tmp 1) 7, 0), (.store 4 (.tmp 3) (.tmp 100), 0)]) (b := [(312, 3), (311, 1), (310, 100), (309, 20)]) (by kernel_rfl) ?_
      refine OpK.nilCheck rfl ?_
      refine OpK.fieldAddr (off := 7) (by kernel_rfl) rfl ?_
      refine OpK.storeV (c := [.bool y]) (v := .bool y) (g := g) (o := 7) (tG := 45) (cells := c4 ++ [cS, .int .i64 e, cF, .bool z, c]) sizeB rfl rfl (.inr rfl) (by intro u hu; simp only [List.mem_cons, List.not_mem_nil, or_false] at hu; subst hu; rfl) hb10 (by simp only [List.length_append, List.length_cons, List.length_nil]; omega) ?_
      show CWL _ _ _ _ _ _
      have hb11 := hb10.setCells [.bool y] 7 (by simp only [List.length_append, List.length_cons, List.length_nil]; omega)
      rw [← spl_one (by simp only [List.length_append, List.length_cons, List.length_nil]; omega), List.set_append_right _ _ (by omega), h4l] at hb11
      have hb11 : Blk (w10.setCells g 7 [.bool y]) g 45 (c4 ++ [cS, .int .i64 e, cF, .bool y, c]) := hb11
      have hc11 := setCells_ch g [.bool y] 7 w10
      have hs11 := setCells_size g [.bool y] 7 w10
      have hk11 : ∀ k, k ≠ g → (w10.setCells g 7 [.bool y]).heap[k]? = w10.heap[k]? := fun k hk => setCells_heap g _ _ _ _ hk
      generalize w10.setCells g 7 [.bool y] = w11 at hb11 hc11 hs11 hk11 ⊢
      have hc911 : Ch (fun k => k = q8 ∨ k = g) w9 w11 := (hc10.mono fun _ _ h => .inl h).trans' (hc11.mono fun _ _ h => .inr h)
      have hKS11 := hKS7.keepB hb11 hKS7.i64 (by omega) fun k hk => (hc911.block k (by rcases hk with hk | hk; (have := hSl1 k hk; omega); omega) fun e => by
        rcases e with e | e
        · rcases hk with hk | hk
          · have := hSl1 k hk; omega
          · omega
        · rcases hk with hk | hk
          · exact (hSlo k hk).2 e
          · omega).trans (hc79.block k (by rcases hk with hk | hk; (have := hSl1 k hk; omega); omega) fun h => h)
      have hcE : Ch (fun k => k = r ∨ k = g) w3 w11 := hc39.trans hc911 fun i hi e => by
        rcases e with e | e
        · exfalso; omega
        · exact .inr e
      have hiE : RdIs w11 S q8 66 si := hi10.keepG (hk11 q8 (by omega)) fun k hk => hk11 k (hSlo k hk).2
      have h11 : RdIs w11 S r 66 (rdSpan (x2 : Int) sb).2 := h9.keepG (hc911.block r (by omega) fun e => by rcases e with e | e; omega; exact hrg e) fun k hk => hc911.block k (by have := hSl1 k hk; omega) fun e => by rcases e with e | e; (have := hSl1 k hk; omega); exact (hSlo k hk).2 e
      have herrE : w11.cell? ⟨1, 0, none⟩ = some (.iface tE vE) := (ch_cell hcE (a := ⟨1, 0, none⟩) hgE3.1 (fun h => by rcases h with h | h; exact hgE3.2.1 h; exact hgE3.2.2 h) rfl).trans herr3
      refine CWL.reg (ops := [(.call ⟨.value (.func 30), #[.tmp 98], #[66]⟩, 35)]) (b := [(51, 1), (313, 1)]) (by kernel_rfl) ?_
      refine OpK.asCall rfl calC rfl ((compIs (.iface tE vE) w11 S q8 66 si hiE herrE).mono ?_)
      rintro en w14 ⟨he14, hw14⟩
      rw [hw14]
      refine ⟨_, he14, ?_⟩
      show CWL _ _ _ _ _ _
      cases hbad : si.bad with
      | true =>
        refine CWL.reg (ops := [(.binOp .neq 35 (.tmp 102) (.const (Go.Value.nilIface)) 35, 4)]) (b := [(315, 1), (314, 102)]) (by kernel_rfl) ?_
        refine OpK.cmpNil (v := .iface tE vE) (b := true) hms rfl rfl (.inr ⟨⟨tE, vE, rfl⟩, rfl⟩) ?_
        show CWL _ _ _ _ _ _
        refine CWL.condT rfl ?_
        simp only [flat, List.cons_append, List.nil_append, List.append_nil]
        refine CWL.reg (ops := []) (b := [(6, 102), (316, 102)]) (by kernel_rfl) ?_
        show CWL _ _ _ _ _ _
        refine CWL.ret ?_
        exact ⟨_, rfl, hfail σ _ .nstN hcE (fun b => decK_bad hga hgb (by rw [hq3]; exact (stepZ (u := .b y) hgi).1 hbad)) _ rfl⟩
      | false =>
        refine CWL.reg (ops := [(.binOp .neq 35 (.tmp 102) (.const (Go.Value.nilIface)) 35, 4)]) (b := [(315, 1), (314, 102)]) (by kernel_rfl) ?_
        refine OpK.cmpNil (v := .nilIface) (b := false) hms rfl rfl (.inl ⟨rfl, rfl⟩) ?_
        show CWL _ _ _ _ _ _
        refine CWL.condF rfl ?_
        simp only [flat, List.cons_append, List.nil_append, List.append_nil]
        show CWL _ _ _ _ _ _
        refine CWL.reg (ops := [(.binOp .sub 53 (.tmp 44) (.const (Go.Value.int Go.IntKind.u32 1)) 53, 53)]) (b := [(22, 1), (136, 1), (135, 44)]) (by kernel_rfl) ?_
        refine OpK.arith rfl rfl rfl ?_
        show CWL _ _ _ _ _ _
        have hst := (stepZ (ver := ver) (v := mkA m xS e xF z tl) hgi).2 hbad
        refine ⟨k, by omega, k, (rdSpan (x2 : Int) sb).2, cS, cF, c, e, y, xS, xF, tl, _, _, _, rfl, by omega, rfl, rfl, rfl, rfl, rfl, ?_, h11, hcE, by omega, hKS11, fun b s2 hb => hgot b s2 (decK_ok hga hgb (by rw [hq3]; exact hst) (by rw [put7 hm]; exact hb))⟩
        show Value.int .u32 (IntKind.u32.wrap (((k + 1 : Nat) : Int) - 1)) = _
        congr 1
        rw [IntKind.wrap_u32]
        omega
    refine CWL.condF (congrArg Value.bool (decide_eq_false (by omega))) ?_
    simp only [flat, List.cons_append, List.nil_append, List.append_nil]
    refine CWL.regD mixed ((fun _ => True)) [(0, true), (1, true), (2, true), (3, true), (4, false), (5, true), (6, false), (7, false)] (by decide +kernel) (trivial) ?_
    refine HW.early rfl rfl (Yi.move) ?_
    refine HW.early rfl rfl (Yi.nilCheck rfl) ?_
    refine HW.early rfl rfl (Yi.fieldAddr (off := 8) (by kernel_rfl) rfl) ?_
    refine HW.early rfl rfl (Yi.move) ?_
    refine HW.next rfl rfl ?_
    refine OpK.asCall rfl Rd.call34 rfl ((Rd.r34 w5.drew S (fun k hk => by have := hSl5 k hk; simp only [World.drew]; omega) r 66 sa (h5a.keepG (w' := w5.drew) rfl fun k hk => rfl)).mono ?_)
    rintro en w6 ⟨x2, sb, he6, hx2, h6, hc6, hgb, _⟩
    refine ⟨_, he6, trivial, ?_⟩
    have hs6 := hc6.size
    refine HW.early rfl rfl (Yi.convInt (k' := .i64) (by kernel_rfl) (by kernel_rfl) rfl) ?_
    refine HW.next rfl rfl ?_
    refine OpK.asCall rfl Rd.call36 rfl ?_
    show Calls _ _ #[.pointer (some ⟨r, 0, none⟩), .int .i64 (IntKind.i64.wrap (x2 : Int))] _ _
    rw [(i64_of_u32 x2 hx2).1]
    refine (Rd.sp36 w6 S (fun k hk => by have := hSl5 k hk; simp only [World.drew] at hs6; omega) r 66 sb h6 (x2 : Int)).mono ?_
    rintro en w7 ⟨v7, he7, hv7, h7, hc7, _⟩
    refine ⟨_, he7, trivial, ?_⟩
    have hs7 := hc7.size
    have hc17 : Ch (fun k => k = r) w1 w7 := ((hc5.trans' (Ch.drew _ _)).trans' hc6).trans' hc7
    have hs17 := hc17.size
    have hKS7 := hKS.keep hc17 hrg hrS hrlo hSl1
    refine HW.next rfl rfl ?_
    refine OpK.asCall rfl Rd.call35 rfl ((Rd.set35 w7 S DT g 8 45 (c4 ++ [cS, .int .i64 e, cF, .bool z, c]) c tl x1 ((rdSpan (x2 : Int) sb).1.getD []) v7 hKS7.blk (by rw [List.getElem?_append_right (by omega), h4l]; rfl) hKS7.tm (fun k hk => by have := hSl1 k hk; omega) (fun h => (hSl g h).2 (.inr rfl)) (fun k hk => ⟨fun h => by have := (hSl k h).1; have := (hKS7.inT k hk).1; omega, (hKS7.inT k hk).2, by have := (hKS7.inT k hk).1; omega⟩) hx1 (hv7.oct fun _ h => h)).mono ?_)
    rintro en w8 ⟨he8, c8, hb8, hTM8, hc8⟩
    refine ⟨_, he8, trivial, ?_⟩
    refine HW.done ?_
    rw [List.set_append_right _ _ (by omega), h4l] at hb8
    have hb8 : Blk w8 g 45 (c4 ++ [cS, .int .i64 e, cF, .bool z, c8]) := hb8
    have hKS8 := hKS7.setT hc8 hSlo (by omega) hglo hb8 hTM8
    have hs8 := hc8.size
    have hc38 : Ch (fun k => k = r ∨ k = g) w3 w8 := (hc1.trans' (hc17.mono fun _ _ h => .inl h)).trans hc8 fun i hi e => by
      rcases e with e | e
      · exact .inr e
      · have := (hKS7.inT i e).1; omega
    have h8 := h7.keepG (hc8.block r (by omega) (fun e => by rcases e with e | e; exact hrg e; (have := (hKS7.inT r e).1; omega))) fun k hk => hc8.block k (by have := hSl1 k hk; omega) (fun e => by rcases e with e | e; exact (hSl k hk).2 (.inr e); (have := (hSl k hk).1; have := (hKS7.inT k e).1; omega))
    show CWL _ _ _ _ _ _
    refine CWL.reg (ops := [(.binOp .sub 53 (.tmp 44) (.const (Go.Value.int Go.IntKind.u32 1)) 53, 53)]) (b := [(22, 1), (136, 1), (135, 44)]) (by kernel_rfl) ?_
    refine OpK.arith rfl rfl rfl ?_
    show CWL _ _ _ _ _ _
    refine ⟨k, by omega, k, (rdSpan (x2 : Int) sb).2, cS, cF, c8, e, z, xS, xF, setTag tl x1 ((rdSpan (x2 : Int) sb).1.getD []), _, _, _, rfl, by omega, rfl, rfl, rfl, rfl, rfl, ?_, h8, hc38, by omega, hKS8, fun b s2 hb => hgot b s2 (decK_unk hga hgb (stepN (by omega)) (by rw [fld8 hm, put8 hm]; exact hb))⟩
    show Value.int .u32 (IntKind.u32.wrap (((k + 1 : Nat) : Int) - 1)) = _
    congr 1
    rw [IntKind.wrap_u32]
    omega

end Go.Proofs.YtkgelojkhmjhkaaDoor.ApiVersionsResponse
