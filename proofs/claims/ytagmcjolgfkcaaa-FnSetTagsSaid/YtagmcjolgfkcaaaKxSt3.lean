/- Tags: which of them count. -/
import Derived.Test.YtagmcjolgfkcaaaKxSt2
namespace Go.Proofs.Ytagmcjolgfkcaaa.St
open Go.Kx Go.RowKit Go.Proofs
set_option maxRecDepth 100000
set_option linter.unusedSimpArgs false
set_option linter.unusedVariables false

theorem call6 : Callable Try.prog 6 := ⟨Try.f6, Try.func6, by kernel_rfl, by kernel_rfl⟩
set_option maxHeartbeats 4000000 in
theorem lastTags (w : World) (l : List (Nat × List UInt8)) (v : Value) (h : Ts w l v) (hn : l.length ≤ 1000000) : Calls Try.prog 6 #[v] w fun en w' => ∃ x, en = .returned x ∧ Ts w' (lastT l) x ∧ Ch (fun _ => False) w w' := by
  have h' := h
  obtain ⟨a, c, rfl, _⟩ := h'
  refine Calls.of_CW Try.func6 rfl (by decide +kernel) (Nat.le_of_ble_eq_true (by kernel_rfl)) (CW.of_flat ?_)
  simp only [flat, List.cons_append, List.nil_append, List.append_nil]
  refine CWL.reg (ops := [(.assign (.const (Go.Value.slice none 0 0)), 24)]) (b := [(2, 1)]) (by kernel_rfl) ?_
  refine OpK.assign ?_
  show CWL _ _ _ _ _ _
  refine CWL.reg (ops := [(.assign (.const (Go.Value.slice none 0 0)), 24)]) (b := [(3, 1)]) (by kernel_rfl) ?_
  refine OpK.assign ?_
  show CWL _ _ _ _ _ _
  refine CWL.reg (ops := [(.call ⟨.builtin .len, #[.tmp 0], #[24]⟩, 3), (.move (.const (Go.Value.int Go.IntKind.i64 0)), 3)]) (b := [(10, 3), (9, 1), (8, 0)]) (by kernel_rfl) ?_
  refine OpK.len (e := 38) (by kernel_rfl) rfl ?_
  refine OpK.move ?_
  show CWL _ _ _ _ _ _
  refine CWL.cons (CW.block (CW.loop (fun m σ wl => ∃ i v us, i + m = l.length ∧ σ 3 = v ∧ σ 8 = .slice a l.length c ∧ σ 9 = .int .i64 (l.length : Int) ∧ σ 10 = .int .i64 (i : Int) ∧ NewT 38 w wl v us ∧ All2 (TR w) us (lastT (l.take i))) l.length
    ⟨0, .slice none 0 0, [], by omega, rfl, rfl, rfl, rfl, NewT.nil _ _, by simpa [lastT] using All2.nil⟩ ?_))
  rintro m σ wl ⟨i, vo, us, him, e3, e8, e9, e10, hfr, hA⟩
  refine CW.pin [(3, vo), (8, .slice a l.length c), (9, .int .i64 (l.length : Int)), (10, .int .i64 (i : Int))] (all_pin e3 (all_pin e8 (all_pin e9 (all_pin e10 (fun _ h => by cases h))))) fun σ => ?_
  simp only [flat, List.cons_append, List.nil_append, List.append_nil]
  have hcl := hfr.ch
  have husl : us.length ≤ i := by rw [hA.size]; have := fold_len (l.take i) []; rw [List.length_take, List.length_nil] at this; unfold lastT; omega
  refine CWL.reg (ops := [(.binOp .lss 3 (.tmp 20) (.tmp 18) 3, 0)]) (b := [(11, 1)]) (by kernel_rfl) ?_
  refine OpK.cmp rfl rfl rfl ?_
  show CWL _ _ _ _ _ _
  cases m with
  | zero =>
    refine CWL.condF (congrArg Value.bool (decide_eq_false (by omega))) ?_
    simp only [flat, List.cons_append, List.nil_append, List.append_nil]
    refine CWL.cons (CW.exit ?_)
    show CWL _ _ _ _ _ _
    refine CWL.reg (ops := []) (b := [(2, 6), (63, 6)]) (by kernel_rfl) ?_
    show CWL _ _ _ _ _ _
    refine CWL.ret ?_
    rw [List.take_of_length_le (by omega)] at hA
    exact ⟨_, rfl, hfr.own.ts (TR.ch hA hcl) (fun x hx => h.few x (lastT_mem x hx)), hcl⟩
  | succ m =>
    refine CWL.condT (congrArg Value.bool (decide_eq_true (by omega))) ?_
    simp only [flat, List.cons_append, List.nil_append, List.append_nil]
    refine CWL.block ?_
    simp only [flat, List.cons_append, List.nil_append, List.append_nil]
    obtain ⟨x, hx⟩ : ∃ x, l[i]? = some x := ⟨_, List.getElem?_eq_getElem (by omega)⟩
    obtain ⟨a', c', vv, ev, hab, hk, hat0, hvv0⟩ := h.get hx
    cases ev
    have hat := hat0.ch (by rw [add_block]; exact hab) hcl
    have hone : vv.oneCell' = true := hvv0.form
    have hnext : lastT (l.take (i + 1)) = lastU (lastT (l.take i)) x := by rw [List.take_add_one, hx]; simp [lastT]
    have hrise := lastT_rising (l.take i)
    refine CWL.reg (ops := [(.indexAddr 24 (.tmp 16) (.tmp 20), 0), (.load 38 (.tmp 1), 38), (.alloc 38, 0), (.store 38 (.tmp 5) (.tmp 3), 0)]) (b := [(5, 5), (13, 3), (12, 1)]) (by kernel_rfl) ?_
    refine OpK.indexAddr (s := 2) (by kernel_rfl) rfl rfl (by omega) ?_
    refine OpK.loadA (n := 2) (by kernel_rfl) rfl (hat) rfl ?_
    refine OpK.allocZ zeroG (by kernel_rfl) fun w2 r hr hc2 hr1 hs2 => ?_
    refine OpK.storeG (cs := zeroG) (us := [.int .u32 (x.1 : Int), vv]) (by kernel_rfl) rfl rfl (by intro q hq; simp only [List.mem_cons, List.not_mem_nil, or_false] at hq; rcases hq with rfl | rfl; rfl; exact hone) hr rfl fun w3 hbt3 hc3 hs3 => ?_
    show CWL _ _ _ _ _ _
    have hcl3 : Ch (fun _ => False) wl w3 := hc2.trans hc3 fun k hk e => by omega
    have hown3 := hfr.own.ch hcl3
    have hvr : ¬ vo.ownBlock = some r := fun e => by have := hfr.own.lt e; omega
    have hrl : r < w3.heap.size := hbt3.lt
    refine CWL.reg (ops := [(.assign (.const (Go.Value.int Go.IntKind.i64 0)), 3)]) (b := [(6, 1)]) (by kernel_rfl) ?_
    refine OpK.assign ?_
    show CWL _ _ _ _ _ _
    refine CWL.loopJ (fun m σ w' => ∃ p, p + m = us.length ∧ (∀ j y, j < p → us[j]? = some y → y.1 < x.1) ∧ σ 3 = vo ∧ σ 5 = .pointer (some ⟨r, 0, none⟩) ∧ σ 6 = .int .i64 (p : Int) ∧ σ 8 = .slice (some a') l.length c ∧ σ 9 = .int .i64 (l.length : Int) ∧ σ 10 = .int .i64 (i : Int) ∧ Ch (fun _ => False) w3 w')
      (fun σ w' => ∃ p, p ≤ us.length ∧ (∀ j y, j < p → us[j]? = some y → y.1 < x.1) ∧ (∀ y, us[p]? = some y → ¬ y.1 < x.1) ∧ σ 3 = vo ∧ σ 5 = .pointer (some ⟨r, 0, none⟩) ∧ σ 6 = .int .i64 (p : Int) ∧ σ 8 = .slice (some a') l.length c ∧ σ 9 = .int .i64 (l.length : Int) ∧ σ 10 = .int .i64 (i : Int) ∧ Ch (fun _ => False) w3 w') us.length
      ⟨0, by simp, fun j y hj => absurd hj (by omega), rfl, rfl, rfl, rfl, rfl, rfl, Ch.refl _ _⟩ ?_ ?_
    · rintro q σ w4 ⟨p, hpq, hlow, e3, e5, e6, e8, e9, e10, hc4⟩
      refine CW.pin [(3, vo), (5, .pointer (some ⟨r, 0, none⟩)), (6, .int .i64 (p : Int)), (8, .slice (some a') l.length c), (9, .int .i64 (l.length : Int)), (10, .int .i64 (i : Int))] (all_pin e3 (all_pin e5 (all_pin e6 (all_pin e8 (all_pin e9 (all_pin e10 (fun _ h => by cases h))))))) fun σ => ?_
      simp only [flat, List.cons_append, List.nil_append, List.append_nil]
      have hown4 := hown3.ch hc4
      have hbt4 := hbt3.ch hc4
      obtain ⟨av, cv, hv, hvf⟩ := hown4.form
      subst hv
      cases q with
      | zero =>
        refine CWL.regD0 mixed [(0, true), (1, true), (2, false), (3, true), (4, true), (5, true), (6, true), (7, true), (8, true), (9, true), (10, true), (11, true), (12, true), (13, true)] (by decide +kernel) ?_
        refine HW.early rfl rfl (Yi.move) ?_
        refine HW.early rfl rfl (Yi.move) ?_
        refine HW.step (Ch.drew _ _) rfl rfl (OpK.len (e := 38) (by kernel_rfl) rfl ⟨rfl, rfl⟩) ?_
        refine HW.early rfl rfl (Yi.cmp (r := false) (by rw [← decide_eq_false (show ¬ (p : Int) < (us.length : Int) by omega)]; rfl) rfl rfl) ?_
        refine HW.early rfl rfl (Yi.move) ?_
        refine HW.none_ rfl rfl ?_
        refine HW.none_ rfl rfl ?_
        refine HW.none_ rfl rfl ?_
        refine HW.none_ rfl rfl ?_
        refine HW.none_ rfl rfl ?_
        refine HW.none_ rfl rfl ?_
        refine HW.none_ rfl rfl ?_
        refine HW.none_ rfl rfl ?_
        refine HW.early rfl rfl (Yi.pick rfl) ?_
        refine HW.done ?_
        refine CWL.condF rfl ?_
        simp only [flat, List.cons_append, List.nil_append, List.append_nil]
        refine CWL.cons (CW.exit ?_)
        exact ⟨p, by omega, hlow, fun y hy => by rw [List.getElem?_eq_none (by omega)] at hy; (cases hy), rfl, rfl, rfl, rfl, rfl, rfl, hc4.trans' (Ch.drew _ _)⟩
      | succ q =>
        obtain ⟨y, hy⟩ : ∃ y, us[p]? = some y := ⟨_, List.getElem?_eq_getElem (by omega)⟩
        obtain ⟨gv, rfl, hgv, _, haty⟩ := hvf p y hy
        by_cases hlt : y.1 < x.1
        · skip
          refine CWL.regD0 mixed [(0, true), (1, true), (2, false), (3, true), (4, true), (5, true), (6, true), (7, true), (8, true), (9, true), (10, true), (11, true), (12, true), (13, true)] (by decide +kernel) ?_
          refine HW.early rfl rfl (Yi.move) ?_
          refine HW.early rfl rfl (Yi.move) ?_
          refine HW.step (Ch.drew _ _) rfl rfl (OpK.len (e := 38) (by kernel_rfl) rfl ⟨rfl, rfl⟩) ?_
          refine HW.early rfl rfl (Yi.cmp (r := true) (by rw [← decide_eq_true (show (p : Int) < (us.length : Int) by omega)]; rfl) rfl rfl) ?_
          refine HW.early rfl rfl (Yi.move) ?_
          refine HW.early rfl rfl (Yi.move) ?_
          refine HW.early rfl rfl (Yi.move) ?_
          refine HW.early rfl rfl (Yi.indexAddr (s := 2) (by kernel_rfl) rfl rfl (by omega)) ?_
          refine HW.early rfl rfl (Yi.fieldAddr (off := 0) (by kernel_rfl) rfl) ?_
          refine HW.early rfl rfl (Yi.load (by kernel_rfl) rfl (fun w' hw' => haty.ch (by rw [add_block]; exact hgv) hw' 0 _ rfl)) ?_
          refine HW.early rfl rfl (Yi.fieldAddr (off := 0) (by kernel_rfl) rfl) ?_
          refine HW.early rfl rfl (Yi.load (by kernel_rfl) rfl (fun w' hw' => (hbt4.ch hw').cell 0)) ?_
          refine HW.early rfl rfl (Yi.cmp (r := true) (by rw [← decide_eq_true (show (y.1 : Int) < (x.1 : Int) by omega)]; rfl) rfl rfl) ?_
          refine HW.early rfl rfl (Yi.pick rfl) ?_
          refine HW.done ?_
          refine CWL.condT rfl ?_
          simp only [flat, List.cons_append, List.nil_append, List.append_nil]
          refine CWL.block ?_
          simp only [flat, List.cons_append, List.nil_append, List.append_nil]
          have hp1 := i64_succ p (by omega)
          refine CWL.reg (ops := [(.binOp .add 3 (.tmp 12) (.const (Go.Value.int Go.IntKind.i64 1)) 3, 3)]) (b := [(6, 1), (29, 1), (28, 12)]) (by kernel_rfl) ?_
          refine OpK.arith (r := ((p + 1 : Nat) : Int)) (by rw [← hp1]; rfl) rfl rfl ?_
          show CWL _ _ _ _ _ _
          try refine CWL.nil_ (P := Try.prog) (n := 0) ?_
          refine ⟨q, Nat.lt_succ_self q, p + 1, by omega, fun j z hj hz => ?_, rfl, rfl, rfl, rfl, rfl, rfl, hc4.trans' (Ch.drew _ _)⟩
          by_cases hjp : j = p
          · subst hjp; rw [hy] at hz; cases hz; exact hlt
          · exact hlow j z (by omega) hz
        · skip
          refine CWL.regD0 mixed [(0, true), (1, true), (2, false), (3, true), (4, true), (5, true), (6, true), (7, true), (8, true), (9, true), (10, true), (11, true), (12, true), (13, true)] (by decide +kernel) ?_
          refine HW.early rfl rfl (Yi.move) ?_
          refine HW.early rfl rfl (Yi.move) ?_
          refine HW.step (Ch.drew _ _) rfl rfl (OpK.len (e := 38) (by kernel_rfl) rfl ⟨rfl, rfl⟩) ?_
          refine HW.early rfl rfl (Yi.cmp (r := true) (by rw [← decide_eq_true (show (p : Int) < (us.length : Int) by omega)]; rfl) rfl rfl) ?_
          refine HW.early rfl rfl (Yi.move) ?_
          refine HW.early rfl rfl (Yi.move) ?_
          refine HW.early rfl rfl (Yi.move) ?_
          refine HW.early rfl rfl (Yi.indexAddr (s := 2) (by kernel_rfl) rfl rfl (by omega)) ?_
          refine HW.early rfl rfl (Yi.fieldAddr (off := 0) (by kernel_rfl) rfl) ?_
          refine HW.early rfl rfl (Yi.load (by kernel_rfl) rfl (fun w' hw' => haty.ch (by rw [add_block]; exact hgv) hw' 0 _ rfl)) ?_
          refine HW.early rfl rfl (Yi.fieldAddr (off := 0) (by kernel_rfl) rfl) ?_
          refine HW.early rfl rfl (Yi.load (by kernel_rfl) rfl (fun w' hw' => (hbt4.ch hw').cell 0)) ?_
          refine HW.early rfl rfl (Yi.cmp (r := false) (by rw [← decide_eq_false (show ¬ (y.1 : Int) < (x.1 : Int) by omega)]; rfl) rfl rfl) ?_
          refine HW.early rfl rfl (Yi.pick rfl) ?_
          refine HW.done ?_
          refine CWL.condF rfl ?_
          simp only [flat, List.cons_append, List.nil_append, List.append_nil]
          refine CWL.cons (CW.exit ?_)
          exact ⟨p, by omega, hlow, fun z hz => by rw [hy] at hz; (cases hz); exact hlt, rfl, rfl, rfl, rfl, rfl, rfl, hc4.trans' (Ch.drew _ _)⟩
    rintro σ w4 ⟨p, hp, hlow, hhigh, e3, e5, e6, e8, e9, e10, hc4⟩
    rw [pin_eq (σ := σ) (l := [(3, vo), (5, .pointer (some ⟨r, 0, none⟩)), (6, .int .i64 (p : Int)), (8, .slice (some a') l.length c), (9, .int .i64 (l.length : Int)), (10, .int .i64 (i : Int))]) (all_pin e3 (all_pin e5 (all_pin e6 (all_pin e8 (all_pin e9 (all_pin e10 (fun _ h => by cases h)))))))]
    have hpos := posOf_eq hlow hp hhigh
    have hins := last_two (x := x) hA hrise hvv0 hpos
    have hown4' := hown3.ch hc4
    have hbt4' := hbt3.ch hc4
    have hfr4 : NewT 38 w w4.drew vo us := ((hfr.later hcl3).later hc4).later (Ch.drew _ _)
    have hbt4 : Blk w4.drew r 38 [.int .u32 (x.1 : Int), vv] := hbt4'.ch (Ch.drew _ _)
    have hi1 := i64_succ i (by omega)
    obtain ⟨av, cv, hv, hvf⟩ := hown4'.form
    by_cases hex : ∃ y, us[p]? = some y ∧ y.1 = x.1
    · obtain ⟨y, hy, hyk⟩ := hex
      subst hv
      obtain ⟨gv, rfl, hgv, _, haty⟩ := hvf p y hy
      have hpl := (List.getElem?_eq_some_iff.1 hy).1
      refine CWL.regD0 mixed [(0, true), (1, true), (2, false), (3, true), (4, true), (5, true), (6, true), (7, true), (8, true), (9, true), (10, true), (11, true), (12, true), (13, true)] (by decide +kernel) ?_
      refine HW.early rfl rfl (Yi.move) ?_
      refine HW.early rfl rfl (Yi.move) ?_
      refine HW.step (Ch.drew _ _) rfl rfl (OpK.len (e := 38) (by kernel_rfl) rfl ⟨rfl, rfl⟩) ?_
      refine HW.early rfl rfl (Yi.cmp (r := true) (by rw [← decide_eq_true (show (p : Int) < (us.length : Int) by omega)]; rfl) rfl rfl) ?_
      refine HW.early rfl rfl (Yi.move) ?_
      refine HW.early rfl rfl (Yi.move) ?_
      refine HW.early rfl rfl (Yi.move) ?_
      refine HW.early rfl rfl (Yi.indexAddr (s := 2) (by kernel_rfl) rfl rfl (by omega)) ?_
      refine HW.early rfl rfl (Yi.fieldAddr (off := 0) (by kernel_rfl) rfl) ?_
      refine HW.early rfl rfl (Yi.load (by kernel_rfl) rfl (fun w' hw' => haty.ch (by rw [add_block]; exact hgv) hw' 0 _ rfl)) ?_
      refine HW.early rfl rfl (Yi.fieldAddr (off := 0) (by kernel_rfl) rfl) ?_
      refine HW.early rfl rfl (Yi.load (by kernel_rfl) rfl (fun w' hw' => (hbt4'.ch hw').cell 0)) ?_
      refine HW.early rfl rfl (Yi.cmp (r := true) (by rw [hyk]; simp [cmpB]) rfl rfl) ?_
      refine HW.early rfl rfl (Yi.pick rfl) ?_
      refine HW.done ?_
      refine CWL.condT rfl ?_
      simp only [flat, List.cons_append, List.nil_append, List.append_nil]
      show CWL _ _ _ _ _ _
      refine CWL.reg (ops := [(.load 38 (.tmp 10), 38), (.indexAddr 24 (.tmp 6) (.tmp 12), 0), (.store 38 (.tmp 3) (.tmp 1), 0)]) (b := [(47, 3), (46, 1), (45, 12), (44, 6)]) (by kernel_rfl) ?_
      refine OpK.loadA (n := 2) (by kernel_rfl) rfl (hbt4.ata) rfl ?_
      refine OpK.indexAddr (s := 2) (by kernel_rfl) rfl rfl (by omega) ?_
      refine OpK.storeT (z := (x.1, vv)) (k := p) (by kernel_rfl) rfl rfl hone hfr4.own hpl fun w8 hown8 hc8 hs8 => ?_
      show CWL _ _ _ _ _ _
      refine CWL.cons (CW.exit ?_)
      show CWL _ _ _ _ _ _
      refine CWL.reg (ops := [(.binOp .add 3 (.tmp 20) (.const (Go.Value.int Go.IntKind.i64 1)) 3, 3)]) (b := [(10, 1), (62, 1)]) (by kernel_rfl) ?_
      refine OpK.arith (r := ((i + 1 : Nat) : Int)) (by rw [← hi1]; rfl) rfl rfl ?_
      show CWL _ _ _ _ _ _
      try refine CWL.nil_ (P := Try.prog) (n := 0) ?_
      have e0 : (us.set p (x.1, vv)).length = us.length := by simp
      rw [e0] at hown8
      exact ⟨m, Nat.lt_succ_self m, i + 1, _, _, by omega, rfl, rfl, rfl, rfl, hfr4.app hown8 (hc8.mono fun k _ e => by rw [e]; rfl) (fun k hk => .inl hk), by rw [hnext]; exact hins.1 ⟨y, hy, hyk⟩⟩
    · by_cases hpl : p < us.length
      · obtain ⟨y, hy⟩ : ∃ y, us[p]? = some y := ⟨_, List.getElem?_eq_getElem (by omega)⟩
        have hyk : ¬ y.1 = x.1 := fun e => hex ⟨y, hy, e⟩
        obtain ⟨gv, rfl, hgv, _, haty⟩ := hvf p y hy
        subst hv
        refine CWL.regD0 mixed [(0, true), (1, true), (2, false), (3, true), (4, true), (5, true), (6, true), (7, true), (8, true), (9, true), (10, true), (11, true), (12, true), (13, true)] (by decide +kernel) ?_
        refine HW.early rfl rfl (Yi.move) ?_
        refine HW.early rfl rfl (Yi.move) ?_
        refine HW.step (Ch.drew _ _) rfl rfl (OpK.len (e := 38) (by kernel_rfl) rfl ⟨rfl, rfl⟩) ?_
        refine HW.early rfl rfl (Yi.cmp (r := true) (by rw [← decide_eq_true (show (p : Int) < (us.length : Int) by omega)]; rfl) rfl rfl) ?_
        refine HW.early rfl rfl (Yi.move) ?_
        refine HW.early rfl rfl (Yi.move) ?_
        refine HW.early rfl rfl (Yi.move) ?_
        refine HW.early rfl rfl (Yi.indexAddr (s := 2) (by kernel_rfl) rfl rfl (by omega)) ?_
        refine HW.early rfl rfl (Yi.fieldAddr (off := 0) (by kernel_rfl) rfl) ?_
        refine HW.early rfl rfl (Yi.load (by kernel_rfl) rfl (fun w' hw' => haty.ch (by rw [add_block]; exact hgv) hw' 0 _ rfl)) ?_
        refine HW.early rfl rfl (Yi.fieldAddr (off := 0) (by kernel_rfl) rfl) ?_
        refine HW.early rfl rfl (Yi.load (by kernel_rfl) rfl (fun w' hw' => (hbt4'.ch hw').cell 0)) ?_
        refine HW.early rfl rfl (Yi.cmp (r := false) (by simp [cmpB]; omega) rfl rfl) ?_
        refine HW.early rfl rfl (Yi.pick rfl) ?_
        refine HW.done ?_
        refine CWL.condF rfl ?_
        simp only [flat, List.cons_append, List.nil_append, List.append_nil]
        try refine CWL.nil_ (P := Try.prog) (n := 0) ?_
        show CWL _ _ _ _ _ _
        generalize w4.drew = w5 at hfr4 hbt4 ⊢
        have hn0 := run_bs0 (P := Try.prog) (w := w5) undS zS
        have f0 := NewT.none (P := Try.prog) (t := 0) w5 hn0.2
        obtain ⟨hlc, hP1, _⟩ := TOwn.parts (hfr4.own.ch f0.ch) (TR.ones hA) hp
        obtain ⟨v7, w7, hr7, hown7, hc7, hb7⟩ := append_part (ty := 24) undS zS f0.own hP1 (by simp only [List.length_nil, List.length_take]; omega)
        have f7 := f0.app hown7 hc7 hb7
        refine CWL.reg (ops := [(.buildSlice 24 0 #[], 24), (.slice 24 (.tmp 6) none (some (.tmp 12)) none, 24), (.call ⟨.builtin .append, #[.tmp 1, .tmp 3], #[24, 24]⟩, 24)]) (b := [(7, 5), (52, 5), (51, 3), (50, 12), (49, 6), (48, 1)]) (by kernel_rfl) ?_
        refine OpK.buildS (by simp only [List.map_toArray, List.map_nil]; exact hn0.1) ?_
        refine OpK.sliceTo (e := 38) (s := 2) (by kernel_rfl) (by kernel_rfl) rfl rfl (by omega) ?_
        refine OpK.run rfl hr7 ?_
        show CWL _ _ _ _ _ _
        have f7a := f7.later (Ch.alloc _ w7 (.cells #[.int .u32 (x.1 : Int), vv] 38))
        obtain ⟨v8, w8, hr8, hown8, hc8, hb8⟩ := append_part (ty := 24) undS zS f7a.own (Part.one (x := (x.1, vv)) hone) (by simp only [List.length_nil, List.length_append, List.length_cons, List.length_take]; omega)
        have f8 := f7a.app hown8 hc8 hb8
        refine CWL.reg (ops := [(.load 38 (.tmp 10), 38), (.buildSlice 24 1 #[(0, .tmp 1)], 24), (.call ⟨.builtin .append, #[.tmp 14, .tmp 3], #[24, 24]⟩, 24)]) (b := [(7, 5), (56, 5), (55, 3), (54, 1), (53, 14)]) (by kernel_rfl) ?_
        refine OpK.loadA (n := 2) (by kernel_rfl) rfl ((hbt4.ch f7.ch).ata) rfl ?_
        refine OpK.buildS (by simp only [List.map_toArray, List.map_cons, List.map_nil]; exact run_bsT undS zS (x.1, vv)) ?_
        refine OpK.run rfl hr8 ?_
        show CWL _ _ _ _ _ _
        obtain ⟨_, _, hP2⟩ := TOwn.parts (hfr4.own.ch f8.ch) (TR.ones hA) hp
        obtain ⟨v9, w9, hr9, hown9, hc9, hb9⟩ := append_part (ty := 24) undS zS f8.own hP2 (by simp only [List.length_nil, List.length_append, List.length_cons, List.length_take, List.length_drop]; omega)
        have f9 := (f8.app hown9 hc9 hb9).base hfr4.ch
        rw [List.nil_append, List.append_assoc, List.singleton_append] at f9
        refine CWL.reg (ops := [(.slice 24 (.tmp 6) (some (.tmp 12)) none none, 24), (.call ⟨.builtin .append, #[.tmp 14, .tmp 1], #[24, 24]⟩, 24)]) (b := [(3, 3), (61, 3), (60, 1), (59, 12), (58, 6), (57, 14)]) (by kernel_rfl) ?_
        refine OpK.sliceFromS (e := 38) (s := 2) (by kernel_rfl) (by kernel_rfl) rfl rfl (by omega) (by omega) ?_
        refine OpK.run rfl hr9 ?_
        show CWL _ _ _ _ _ _
        try refine CWL.nil_ (P := Try.prog) (n := 0) ?_
        show CWL _ _ _ _ _ _
        refine CWL.reg (ops := [(.binOp .add 3 (.tmp 20) (.const (Go.Value.int Go.IntKind.i64 1)) 3, 3)]) (b := [(10, 1), (62, 1)]) (by kernel_rfl) ?_
        refine OpK.arith (r := ((i + 1 : Nat) : Int)) (by rw [← hi1]; rfl) rfl rfl ?_
        show CWL _ _ _ _ _ _
        try refine CWL.nil_ (P := Try.prog) (n := 0) ?_
        exact ⟨m, Nat.lt_succ_self m, i + 1, _, _, by omega, rfl, rfl, rfl, rfl, f9, by rw [hnext]; exact hins.2 hex⟩
      · have hpe : p = us.length := by omega
        subst hv
        refine CWL.regD0 mixed [(0, true), (1, true), (2, false), (3, true), (4, true), (5, true), (6, true), (7, true), (8, true), (9, true), (10, true), (11, true), (12, true), (13, true)] (by decide +kernel) ?_
        refine HW.early rfl rfl (Yi.move) ?_
        refine HW.early rfl rfl (Yi.move) ?_
        refine HW.step (Ch.drew _ _) rfl rfl (OpK.len (e := 38) (by kernel_rfl) rfl ⟨rfl, rfl⟩) ?_
        refine HW.early rfl rfl (Yi.cmp (r := false) (by rw [← decide_eq_false (show ¬ (p : Int) < (us.length : Int) by omega)]; rfl) rfl rfl) ?_
        refine HW.early rfl rfl (Yi.move) ?_
        refine HW.none_ rfl rfl ?_
        refine HW.none_ rfl rfl ?_
        refine HW.none_ rfl rfl ?_
        refine HW.none_ rfl rfl ?_
        refine HW.none_ rfl rfl ?_
        refine HW.none_ rfl rfl ?_
        refine HW.none_ rfl rfl ?_
        refine HW.none_ rfl rfl ?_
        refine HW.early rfl rfl (Yi.pick rfl) ?_
        refine HW.done ?_
        refine CWL.condF rfl ?_
        simp only [flat, List.cons_append, List.nil_append, List.append_nil]
        try refine CWL.nil_ (P := Try.prog) (n := 0) ?_
        show CWL _ _ _ _ _ _
        generalize w4.drew = w5 at hfr4 hbt4 ⊢
        have hn0 := run_bs0 (P := Try.prog) (w := w5) undS zS
        have f0 := NewT.none (P := Try.prog) (t := 0) w5 hn0.2
        obtain ⟨hlc, hP1, _⟩ := TOwn.parts (hfr4.own.ch f0.ch) (TR.ones hA) hp
        obtain ⟨v7, w7, hr7, hown7, hc7, hb7⟩ := append_part (ty := 24) undS zS f0.own hP1 (by simp only [List.length_nil, List.length_take]; omega)
        have f7 := f0.app hown7 hc7 hb7
        refine CWL.reg (ops := [(.buildSlice 24 0 #[], 24), (.slice 24 (.tmp 6) none (some (.tmp 12)) none, 24), (.call ⟨.builtin .append, #[.tmp 1, .tmp 3], #[24, 24]⟩, 24)]) (b := [(7, 5), (52, 5), (51, 3), (50, 12), (49, 6), (48, 1)]) (by kernel_rfl) ?_
        refine OpK.buildS (by simp only [List.map_toArray, List.map_nil]; exact hn0.1) ?_
        refine OpK.sliceTo (e := 38) (s := 2) (by kernel_rfl) (by kernel_rfl) rfl rfl (by omega) ?_
        refine OpK.run rfl hr7 ?_
        show CWL _ _ _ _ _ _
        have f7a := f7.later (Ch.alloc _ w7 (.cells #[.int .u32 (x.1 : Int), vv] 38))
        obtain ⟨v8, w8, hr8, hown8, hc8, hb8⟩ := append_part (ty := 24) undS zS f7a.own (Part.one (x := (x.1, vv)) hone) (by simp only [List.length_nil, List.length_append, List.length_cons, List.length_take]; omega)
        have f8 := f7a.app hown8 hc8 hb8
        refine CWL.reg (ops := [(.load 38 (.tmp 10), 38), (.buildSlice 24 1 #[(0, .tmp 1)], 24), (.call ⟨.builtin .append, #[.tmp 14, .tmp 3], #[24, 24]⟩, 24)]) (b := [(7, 5), (56, 5), (55, 3), (54, 1), (53, 14)]) (by kernel_rfl) ?_
        refine OpK.loadA (n := 2) (by kernel_rfl) rfl ((hbt4.ch f7.ch).ata) rfl ?_
        refine OpK.buildS (by simp only [List.map_toArray, List.map_cons, List.map_nil]; exact run_bsT undS zS (x.1, vv)) ?_
        refine OpK.run rfl hr8 ?_
        show CWL _ _ _ _ _ _
        obtain ⟨_, _, hP2⟩ := TOwn.parts (hfr4.own.ch f8.ch) (TR.ones hA) hp
        obtain ⟨v9, w9, hr9, hown9, hc9, hb9⟩ := append_part (ty := 24) undS zS f8.own hP2 (by simp only [List.length_nil, List.length_append, List.length_cons, List.length_take, List.length_drop]; omega)
        have f9 := (f8.app hown9 hc9 hb9).base hfr4.ch
        rw [List.nil_append, List.append_assoc, List.singleton_append] at f9
        refine CWL.reg (ops := [(.slice 24 (.tmp 6) (some (.tmp 12)) none none, 24), (.call ⟨.builtin .append, #[.tmp 14, .tmp 1], #[24, 24]⟩, 24)]) (b := [(3, 3), (61, 3), (60, 1), (59, 12), (58, 6), (57, 14)]) (by kernel_rfl) ?_
        refine OpK.sliceFromS (e := 38) (s := 2) (by kernel_rfl) (by kernel_rfl) rfl rfl (by omega) (by omega) ?_
        refine OpK.run rfl hr9 ?_
        show CWL _ _ _ _ _ _
        try refine CWL.nil_ (P := Try.prog) (n := 0) ?_
        show CWL _ _ _ _ _ _
        refine CWL.reg (ops := [(.binOp .add 3 (.tmp 20) (.const (Go.Value.int Go.IntKind.i64 1)) 3, 3)]) (b := [(10, 1), (62, 1)]) (by kernel_rfl) ?_
        refine OpK.arith (r := ((i + 1 : Nat) : Int)) (by rw [← hi1]; rfl) rfl rfl ?_
        show CWL _ _ _ _ _ _
        try refine CWL.nil_ (P := Try.prog) (n := 0) ?_
        exact ⟨m, Nat.lt_succ_self m, i + 1, _, _, by omega, rfl, rfl, rfl, rfl, f9, by rw [hnext]; exact hins.2 hex⟩
end Go.Proofs.Ytagmcjolgfkcaaa.St
