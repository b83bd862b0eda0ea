/- Tags: compared, and written. -/
import Derived.Test.YtagmcjolgfkcaaaKxSt1
namespace Go.Proofs.Ytagmcjolgfkcaaa.St
open Go.Kx Go.RowKit Go.Proofs
set_option maxRecDepth 100000
set_option linter.unusedSimpArgs false
set_option linter.unusedVariables false

/-- What the reference writes of a tag. -/
def tagB (x : Nat × List UInt8) : List UInt8 := uvar x.1 ++ uvar x.2.length ++ x.2
theorem octN {w w' : World} {a : Addr} {l : List UInt8} {i : Nat} {u : UInt8} (h : Oct w a l) (hb : a.block < w.heap.size) (hc : Ch (fun _ => False) w w') (hu : l[i]? = some u) : w'.cell? (a.add (i * 1)) = some (bv u) := by
  rw [Nat.mul_one]
  exact (cell_keep (w := w) (w' := w') (by rw [add_block]; exact hc.block _ hb fun h => h)).trans (h i u hu)

theorem call17 : Callable Try.prog 17 := ⟨Try.f17, Try.func17, by kernel_rfl, by kernel_rfl⟩
set_option maxHeartbeats 4000000 in
theorem uvarint (w : World) (n : Nat) (hn : n < 4294967297) : Calls Try.prog 17 #[.int .u64 (n : Int)] w fun en w' => ∃ d, en = .returned d ∧ New w w' d (uvar n) := by
  refine Calls.of_CW Try.func17 rfl (by decide +kernel) (Nat.le_of_ble_eq_true (by kernel_rfl)) (CW.of_flat ?_)
  simp only [flat, List.cons_append, List.nil_append, List.append_nil]
  refine CWL.reg (ops := [(.assign (.const (Go.Value.slice none 0 0)), 27)]) (b := [(2, 1)]) (by kernel_rfl) ?_
  refine OpK.assign ?_
  show CWL _ _ _ _ _ _
  refine CWL.reg (ops := [(.assign (.const (Go.Value.slice none 0 0)), 27)]) (b := [(3, 1)]) (by kernel_rfl) ?_
  refine OpK.assign ?_
  show CWL _ _ _ _ _ _
  refine CWL.cons (CW.block (CW.loop (fun m σ wl => ∃ d pre, m ≤ n ∧ pre.length + m ≤ n ∧ σ 0 = .int .u64 (m : Int) ∧ σ 3 = d ∧ New w wl d pre ∧ pre ++ uvar m = uvar n) n
    ⟨.slice none 0 0, [], Nat.le_refl _, by simp, rfl, rfl, Grew.refl (Own.nil _ _), rfl⟩ ?_))
  rintro m σ wl ⟨d, pre, hmn, hsum, e0, e3, hg, hpre⟩
  refine CW.pin [(0, .int .u64 (m : Int)), (3, d)] (all_pin e0 (all_pin e3 (fun _ h => by cases h))) fun σ => ?_
  simp only [flat, List.cons_append, List.nil_append, List.append_nil]
  refine CWL.reg (ops := [(.binOp .gtr 47 (.tmp 0) (.const (Go.Value.int Go.IntKind.u64 127)) 47, 4)]) (b := [(5, 1), (4, 0)]) (by kernel_rfl) ?_
  refine OpK.cmp rfl rfl rfl ?_
  show CWL _ _ _ _ _ _
  by_cases hm : m < 128
  · refine CWL.condF (congrArg Value.bool (decide_eq_false (by omega))) ?_
    simp only [flat, List.cons_append, List.nil_append, List.append_nil]
    refine CWL.cons (CW.exit ?_)
    show CWL _ _ _ _ _ _
    obtain ⟨v', w', hr, hg1⟩ := append_lit (ty := 27) und u8 hg.own [UInt8.ofNat m] (by simp only [List.length_cons, List.length_nil, Lim]; omega)
    simp only [List.map_cons, List.map_nil, List.length_cons, List.length_nil, ← grpL0 m hm] at hr
    refine CWL.reg (ops := [(.convert 47 5 (.tmp 0), 5), (.buildSlice 27 1 #[(0, .tmp 1)], 27), (.call ⟨.builtin .append, #[.tmp 6, .tmp 3], #[27, 27]⟩, 27)]) (b := [(2, 5), (19, 5), (18, 3), (17, 1), (16, 0), (15, 6)]) (by kernel_rfl) ?_
    refine OpK.convInt (k' := .u8) (by kernel_rfl) (by kernel_rfl) rfl ?_
    refine OpK.buildS (by simp only [List.map_toArray, List.map_cons, List.map_nil]; exact run_bs1 und u8 _) ?_
    refine OpK.run rfl hr ?_
    show CWL _ _ _ _ _ _
    refine CWL.ret ?_
    refine ⟨_, rfl, ?_⟩
    rw [← hpre, uvar_small hm]
    exact hg.trans hg1
  · refine CWL.condT (congrArg Value.bool (decide_eq_true (by omega))) ?_
    simp only [flat, List.cons_append, List.nil_append, List.append_nil]
    refine CWL.block ?_
    simp only [flat, List.cons_append, List.nil_append, List.append_nil]
    obtain ⟨v', w', hr, hg1⟩ := append_lit (ty := 27) und u8 hg.own [UInt8.ofNat (m % 128 + 128)] (by simp only [List.length_cons, List.length_nil, Lim]; omega)
    have h1 : IntKind.u8.wrap (bits .and .u64 (m : Int) 127) = ((m % 128 : Nat) : Int) := by rw [u64_and127 m (by omega), u8_nat (by omega)]
    have hbv : (Value.int .u8 (bits .or .u8 (IntKind.u8.wrap (bits .and .u64 (m : Int) 127)) 128) : Value) = bv (UInt8.ofNat (m % 128 + 128)) := by
      rw [h1, ux_or128 _ (by omega)]
      simp [bv]
      omega
    simp only [List.map_cons, List.map_nil, List.length_cons, List.length_nil, ← hbv] at hr
    refine CWL.reg (ops := [(.binOp .and 47 (.tmp 0) (.const (Go.Value.int Go.IntKind.u64 127)) 47, 47), (.convert 47 5 (.tmp 1), 5), (.binOp .or 5 (.tmp 3) (.const (Go.Value.int Go.IntKind.u8 128)) 5, 5), (.buildSlice 27 1 #[(0, .tmp 5)], 27), (.call ⟨.builtin .append, #[.tmp 6, .tmp 7], #[27, 27]⟩, 27)]) (b := [(3, 9), (12, 9), (11, 7), (10, 5), (9, 3), (8, 1), (7, 0), (6, 6)]) (by kernel_rfl) ?_
    refine OpK.and rfl rfl ?_
    refine OpK.convInt (k' := .u8) (by kernel_rfl) (by kernel_rfl) rfl ?_
    refine OpK.or rfl rfl ?_
    refine OpK.buildS (by simp only [List.map_toArray, List.map_cons, List.map_nil]; exact run_bs1 und u8 _) ?_
    refine OpK.run rfl hr ?_
    show CWL _ _ _ _ _ _
    try refine CWL.nil_ (P := Try.prog) (n := 0) ?_
    show CWL _ _ _ _ _ _
    refine CWL.reg (ops := [(.binOp .shr 47 (.tmp 0) (.const (Go.Value.int Go.IntKind.u64 7)) 51, 47)]) (b := [(0, 1), (14, 1), (13, 0)]) (by kernel_rfl) ?_
    refine OpK.shr rfl rfl (by decide) ?_
    show CWL _ _ _ _ _ _
    try refine CWL.nil_ (P := Try.prog) (n := 0) ?_
    refine ⟨m / 128, by omega, v', pre ++ [UInt8.ofNat (m % 128 + 128)], by omega, by simp only [List.length_append, List.length_cons, List.length_nil]; omega, ?_, rfl, hg.trans hg1, ?_⟩
    · refine congrArg (Value.int .u64) ?_
      rw [show ((2 : Int) ^ min ((7 : Int).toNat) IntKind.u64.bits) = 128 by decide]
      omega
    · rw [List.append_assoc, ← hpre, uvar_big (n := m) hm]; rfl

theorem call10 : Callable Try.prog 10 := ⟨Try.f10, Try.func10, by kernel_rfl, by kernel_rfl⟩
set_option maxHeartbeats 4000000 in
theorem same (w : World) (l1 l2 : List UInt8) (v1 v2 : Value) (h1 : Oc w l1 v1) (h2 : Oc w l2 v2) (hl1 : l1.length ≤ 4611686018427387904) (hl2 : l2.length ≤ 4611686018427387904) : Calls Try.prog 10 #[v1, v2] w fun en w' => ∃ v, en = .returned v ∧ v = .bool (decide (l1 = l2)) ∧ Ch (fun _ => False) w w' := by
  obtain ⟨a1, c1, rfl, _, _, hn1, hO1⟩ := h1
  obtain ⟨a2, c2, rfl, _, _, hn2, hO2⟩ := h2
  refine Calls.of_CW Try.func10 rfl (by decide +kernel) (Nat.le_of_ble_eq_true (by kernel_rfl)) (CW.of_flat ?_)
  simp only [flat, List.cons_append, List.nil_append, List.append_nil]
  refine CWL.reg (ops := [(.assign (.const (Go.Value.bool false)), 4)]) (b := [(4, 1)]) (by kernel_rfl) ?_
  refine OpK.assign ?_
  show CWL _ _ _ _ _ _
  refine CWL.reg (ops := [(.call ⟨.builtin .len, #[.tmp 0], #[27]⟩, 3), (.call ⟨.builtin .len, #[.tmp 2], #[27]⟩, 3), (.binOp .neq 3 (.tmp 1) (.tmp 3) 3, 4)]) (b := [(10, 5), (9, 3), (8, 2), (7, 1), (6, 0)]) (by kernel_rfl) ?_
  refine OpK.len (e := 5) (by kernel_rfl) rfl ?_
  refine OpK.len (e := 5) (by kernel_rfl) rfl ?_
  refine OpK.cmp rfl rfl rfl ?_
  show CWL _ _ _ _ _ _
  by_cases hlen : l1.length = l2.length
  rotate_left
  · refine CWL.condT (congrArg Value.bool (by simpa using fun h => hlen (by omega))) ?_
    simp only [flat, List.cons_append, List.nil_append, List.append_nil]
    refine CWL.reg (ops := [(.assign (.const (Go.Value.bool false)), 4)]) (b := [(4, 1)]) (by kernel_rfl) ?_
    refine OpK.assign ?_
    show CWL _ _ _ _ _ _
    refine CWL.ret ?_
    exact ⟨_, rfl, congrArg Value.bool (decide_eq_false fun e => hlen (by rw [e])).symm, Ch.refl _ _⟩
  refine CWL.condF (congrArg Value.bool (bne_eq_false_iff_eq.2 (congrArg (fun n : Nat => (n : Int)) hlen))) ?_
  simp only [flat, List.cons_append, List.nil_append, List.append_nil]
  refine CWL.reg (ops := [(.call ⟨.builtin .len, #[.tmp 0], #[27]⟩, 3), (.move (.const (Go.Value.int Go.IntKind.i64 0)), 3)]) (b := [(13, 3), (12, 1), (11, 0)]) (by kernel_rfl) ?_
  refine OpK.len (e := 5) (by kernel_rfl) rfl ?_
  refine OpK.move ?_
  show CWL _ _ _ _ _ _
  refine CWL.cons (CW.block (CW.loop (fun m σ wl => ∃ i, i + m = l1.length ∧ σ 0 = .slice a1 l1.length c1 ∧ σ 1 = .slice a2 l2.length c2 ∧ σ 12 = .int .i64 (l1.length : Int) ∧ σ 13 = .int .i64 (i : Int) ∧ Ch (fun _ => False) w wl ∧ (∀ j, j < i → l1[j]? = l2[j]?)) l1.length
    ⟨0, by omega, rfl, rfl, rfl, rfl, Ch.refl _ _, fun j hj => absurd hj (by omega)⟩ ?_))
  rintro m σ wl ⟨i, him, e0, e1, e12, e13, hcl, heq⟩
  refine CW.pin [(0, .slice a1 l1.length c1), (1, .slice a2 l2.length c2), (12, .int .i64 (l1.length : Int)), (13, .int .i64 (i : Int))] (all_pin e0 (all_pin e1 (all_pin e12 (all_pin e13 (fun _ h => by cases h))))) fun σ => ?_
  simp only [flat, List.cons_append, List.nil_append, List.append_nil]
  refine CWL.reg (ops := [(.binOp .lss 3 (.tmp 26) (.tmp 24) 3, 0)]) (b := [(14, 1)]) (by kernel_rfl) ?_
  refine OpK.cmp rfl rfl rfl ?_
  show CWL _ _ _ _ _ _
  cases m with
  | zero =>
    refine CWL.condF (congrArg Value.bool (decide_eq_false (by omega))) ?_
    simp only [flat, List.cons_append, List.nil_append, List.append_nil]
    refine CWL.cons (CW.exit ?_)
    show CWL _ _ _ _ _ _
    refine CWL.reg (ops := [(.assign (.const (Go.Value.bool true)), 4)]) (b := [(4, 1)]) (by kernel_rfl) ?_
    refine OpK.assign ?_
    show CWL _ _ _ _ _ _
    refine CWL.ret ?_
    refine ⟨_, rfl, congrArg Value.bool (decide_eq_true ?_).symm, hcl⟩
    apply List.ext_getElem?
    intro j
    by_cases hj : j < i
    · exact heq j hj
    · rw [List.getElem?_eq_none (by omega), List.getElem?_eq_none (by omega)]
  | succ m =>
    refine CWL.condT (congrArg Value.bool (decide_eq_true (by omega))) ?_
    simp only [flat, List.cons_append, List.nil_append, List.append_nil]
    refine CWL.block ?_
    simp only [flat, List.cons_append, List.nil_append, List.append_nil]
    obtain ⟨x, hx⟩ : ∃ x, l1[i]? = some x := ⟨_, List.getElem?_eq_getElem (by omega)⟩
    obtain ⟨y, hy⟩ : ∃ y, l2[i]? = some y := ⟨_, List.getElem?_eq_getElem (by omega)⟩
    cases a1 with
    | none => rw [hn1 rfl] at hx; simp at hx
    | some a1 =>
    cases a2 with
    | none => rw [hn2 rfl] at hy; simp at hy
    | some a2 =>
    obtain ⟨g1, k1⟩ := hO1 a1 rfl
    obtain ⟨g2, k2⟩ := hO2 a2 rfl
    refine CWL.reg (ops := []) (b := [(5, 26), (15, 26)]) (by kernel_rfl) ?_
    show CWL _ _ _ _ _ _
    by_cases hxy : x = y
    · subst hxy
      refine CWL.regD0 mixed [(0, true), (1, true), (2, true), (3, true), (4, true), (5, true), (6, true), (7, true), (8, true)] (by decide +kernel) ?_
      refine HW.early rfl rfl (Yi.move) ?_
      refine HW.early rfl rfl (Yi.move) ?_
      refine HW.early rfl rfl (Yi.indexAddr (s := 1) (by kernel_rfl) rfl rfl (by omega)) ?_
      refine HW.early rfl rfl (Yi.load (by kernel_rfl) rfl (fun w' hw' => octN g1 (k1 (nil_of_get hx)) (hcl.trans' hw') hx)) ?_
      refine HW.early rfl rfl (Yi.move) ?_
      refine HW.early rfl rfl (Yi.move) ?_
      refine HW.early rfl rfl (Yi.indexAddr (s := 1) (by kernel_rfl) rfl rfl (by omega)) ?_
      refine HW.early rfl rfl (Yi.load (by kernel_rfl) rfl (fun w' hw' => octN g2 (k2 (nil_of_get hy)) (hcl.trans' hw') hy)) ?_
      refine HW.early rfl rfl (Yi.cmp (r := false) (by simp [cmpB]) rfl rfl) ?_
      refine HW.done ?_
      refine CWL.condF rfl ?_
      simp only [flat, List.cons_append, List.nil_append, List.append_nil]
      try refine CWL.nil_ (P := Try.prog) (n := 0) ?_
      show CWL _ _ _ _ _ _
      have hi1 := i64_succ i (by omega)
      refine CWL.reg (ops := [(.binOp .add 3 (.tmp 26) (.const (Go.Value.int Go.IntKind.i64 1)) 3, 3)]) (b := [(13, 1), (25, 1)]) (by kernel_rfl) ?_
      refine OpK.arith (r := ((i + 1 : Nat) : Int)) (by rw [← hi1]; rfl) rfl rfl ?_
      show CWL _ _ _ _ _ _
      try refine CWL.nil_ (P := Try.prog) (n := 0) ?_
      refine ⟨m, Nat.lt_succ_self m, i + 1, by omega, rfl, rfl, rfl, rfl, hcl.trans' (Ch.drew _ _), fun j hj => ?_⟩
      by_cases hji : j = i
      · subst hji; rw [hx, hy]
      · exact heq j (by omega)
    · have hne : (x.toNat : Int) ≠ (y.toNat : Int) := fun e => hxy (UInt8.toNat_inj.1 (by omega))
      refine CWL.regD0 mixed [(0, true), (1, true), (2, true), (3, true), (4, true), (5, true), (6, true), (7, true), (8, true)] (by decide +kernel) ?_
      refine HW.early rfl rfl (Yi.move) ?_
      refine HW.early rfl rfl (Yi.move) ?_
      refine HW.early rfl rfl (Yi.indexAddr (s := 1) (by kernel_rfl) rfl rfl (by omega)) ?_
      refine HW.early rfl rfl (Yi.load (by kernel_rfl) rfl (fun w' hw' => octN g1 (k1 (nil_of_get hx)) (hcl.trans' hw') hx)) ?_
      refine HW.early rfl rfl (Yi.move) ?_
      refine HW.early rfl rfl (Yi.move) ?_
      refine HW.early rfl rfl (Yi.indexAddr (s := 1) (by kernel_rfl) rfl rfl (by omega)) ?_
      refine HW.early rfl rfl (Yi.load (by kernel_rfl) rfl (fun w' hw' => octN g2 (k2 (nil_of_get hy)) (hcl.trans' hw') hy)) ?_
      refine HW.early rfl rfl (Yi.cmp (r := true) (by simp [cmpB, hne]) rfl rfl) ?_
      refine HW.done ?_
      refine CWL.condT rfl ?_
      simp only [flat, List.cons_append, List.nil_append, List.append_nil]
      refine CWL.reg (ops := [(.assign (.const (Go.Value.bool false)), 4)]) (b := [(4, 1)]) (by kernel_rfl) ?_
      refine OpK.assign ?_
      show CWL _ _ _ _ _ _
      refine CWL.ret ?_
      refine ⟨_, rfl, congrArg Value.bool (decide_eq_false fun e => ?_).symm, hcl.trans' (Ch.drew _ _)⟩
      subst e
      rw [hx] at hy
      cases hy
      exact hxy rfl

theorem call11 : Callable Try.prog 11 := ⟨Try.f11, Try.func11, by kernel_rfl, by kernel_rfl⟩
set_option maxHeartbeats 4000000 in
theorem tagBytes (w : World) (l : List (Nat × List UInt8)) (v : Value) (h : Ts w l v) (hn : l.length ≤ 1000000) (hs : ∀ x ∈ l, x.2.length ≤ 2000) (hl : (l.flatMap tagB).length ≤ Lim) : Calls Try.prog 11 #[v] w fun en w' => ∃ d, en = .returned d ∧ New w w' d (l.flatMap tagB) := by
  have h' := h
  obtain ⟨a, c, rfl, _⟩ := h'
  refine Calls.of_CW Try.func11 rfl (by decide +kernel) (Nat.le_of_ble_eq_true (by kernel_rfl)) (CW.of_flat ?_)
  simp only [flat, List.cons_append, List.nil_append, List.append_nil]
  refine CWL.reg (ops := [(.assign (.const (Go.Value.slice none 0 0)), 27)]) (b := [(2, 1)]) (by kernel_rfl) ?_
  refine OpK.assign ?_
  show CWL _ _ _ _ _ _
  refine CWL.reg (ops := [(.assign (.const (Go.Value.slice none 0 0)), 27)]) (b := [(3, 1)]) (by kernel_rfl) ?_
  refine OpK.assign ?_
  show CWL _ _ _ _ _ _
  refine CWL.reg (ops := [(.call ⟨.builtin .len, #[.tmp 0], #[24]⟩, 3), (.move (.const (Go.Value.int Go.IntKind.i64 0)), 3)]) (b := [(8, 3), (7, 1), (6, 0)]) (by kernel_rfl) ?_
  refine OpK.len (e := 38) (by kernel_rfl) rfl ?_
  refine OpK.move ?_
  show CWL _ _ _ _ _ _
  refine CWL.cons (CW.block (CW.loop (fun m σ wl => ∃ i d, i + m = l.length ∧ σ 3 = d ∧ σ 6 = .slice a l.length c ∧ σ 7 = .int .i64 (l.length : Int) ∧ σ 8 = .int .i64 (i : Int) ∧ New w wl d ((l.take i).flatMap tagB)) l.length
    ⟨0, .slice none 0 0, by omega, rfl, rfl, rfl, rfl, by simpa using Grew.refl (Own.nil _ _)⟩ ?_))
  rintro m σ wl ⟨i, d, him, e3, e6, e7, e8, hg⟩
  refine CW.pin [(3, d), (6, .slice a l.length c), (7, .int .i64 (l.length : Int)), (8, .int .i64 (i : Int))] (all_pin e3 (all_pin e6 (all_pin e7 (all_pin e8 (fun _ h => by cases h))))) fun σ => ?_
  simp only [flat, List.cons_append, List.nil_append, List.append_nil]
  have hcl := hg.new_ch
  refine CWL.reg (ops := [(.binOp .lss 3 (.tmp 16) (.tmp 14) 3, 0)]) (b := [(9, 1)]) (by kernel_rfl) ?_
  refine OpK.cmp rfl rfl rfl ?_
  show CWL _ _ _ _ _ _
  cases m with
  | zero =>
    refine CWL.condF (congrArg Value.bool (decide_eq_false (by omega))) ?_
    simp only [flat, List.cons_append, List.nil_append, List.append_nil]
    refine CWL.cons (CW.exit ?_)
    show CWL _ _ _ _ _ _
    refine CWL.reg (ops := []) (b := [(2, 6), (30, 6)]) (by kernel_rfl) ?_
    show CWL _ _ _ _ _ _
    refine CWL.ret ?_
    rw [List.take_of_length_le (by omega)] at hg
    exact ⟨_, rfl, hg⟩
  | succ m =>
    refine CWL.condT (congrArg Value.bool (decide_eq_true (by omega))) ?_
    simp only [flat, List.cons_append, List.nil_append, List.append_nil]
    refine CWL.block ?_
    simp only [flat, List.cons_append, List.nil_append, List.append_nil]
    obtain ⟨x, hx⟩ : ∃ x, l[i]? = some x := ⟨_, List.getElem?_eq_getElem (by omega)⟩
    obtain ⟨a', c', vv, ev, hab, hk, hat0, hvv0⟩ := h.get hx
    cases ev
    have hat := hat0.ch (by rw [add_block]; exact hab) hcl
    have hvv := hvv0.chw hcl
    refine CWL.reg (ops := [(.indexAddr 24 (.tmp 12) (.tmp 16), 0), (.load 38 (.tmp 1), 38), (.alloc 38, 0), (.store 38 (.tmp 5) (.tmp 3), 0)]) (b := [(5, 5), (11, 3), (10, 1)]) (by kernel_rfl) ?_
    refine OpK.indexAddr (s := 2) (by kernel_rfl) rfl rfl (by omega) ?_
    refine OpK.loadA (n := 2) (by kernel_rfl) rfl (hat) rfl ?_
    refine OpK.allocZ zeroG (by kernel_rfl) fun w2 r hr hc2 hr1 hs2 => ?_
    refine OpK.storeG (cs := zeroG) (us := [.int .u32 (x.1 : Int), vv]) (by kernel_rfl) rfl rfl (by intro q hq; simp only [List.mem_cons, List.not_mem_nil, or_false] at hq; rcases hq with rfl | rfl; rfl; exact hvv.form) hr rfl fun w3 hbt3 hc3 hs3 => ?_
    show CWL _ _ _ _ _ _
    have hcl3 : Ch (fun _ => False) wl w3 := hc2.trans hc3 fun k hk e => by omega
    have hvv3 := hvv.chw hcl3
    obtain ⟨av, cv, hvf, _⟩ := id hvv0
    subst hvf
    have hx2 := hs x (List.mem_of_getElem? hx)
    have hsplit : (l.take (i + 1)).flatMap tagB = (l.take i).flatMap tagB ++ uvar x.1 ++ uvar x.2.length ++ x.2 := by rw [List.take_add_one, hx]; simp [tagB]
    have hle : ((l.take (i + 1)).flatMap tagB).length ≤ (l.flatMap tagB).length := by
      conv => rhs; rw [← List.take_append_drop (i + 1) l]
      rw [List.flatMap_append, List.length_append]
      omega
    rw [hsplit] at hle
    simp only [List.length_append] at hle
    have hg3 := hg.later hcl3
    refine CWL.reg (ops := [(.fieldAddr 38 (.tmp 10) 0, 0), (.load 33 (.tmp 1), 33), (.convert 33 47 (.tmp 3), 47), (.call ⟨.value (.func 17), #[.tmp 5], #[47]⟩, 27), (.call ⟨.builtin .append, #[.tmp 6, .tmp 7], #[27, 27]⟩, 27)]) (b := [(3, 9), (17, 9), (16, 7), (15, 5), (14, 3), (13, 1), (12, 6)]) (by kernel_rfl) ?_
    refine OpK.fieldAddr (off := 0) (by kernel_rfl) rfl ?_
    refine OpK.load (by kernel_rfl) rfl (hbt3.cell 0) ?_
    refine OpK.convInt (k' := .u64) (by kernel_rfl) (by kernel_rfl) rfl ?_
    rw [u64_nat (by omega)]
    refine OpK.asCall rfl call17 rfl ((uvarint w3 x.1 (by omega)).mono ?_)
    rintro en w4 ⟨d4, he4, hg4⟩
    refine ⟨_, he4, ?_⟩
    have hgd4 := hg3.later hg4.new_ch
    obtain ⟨a4, c4, rfl, hn4, ho4⟩ := hg4.own.slice
    obtain ⟨d5, w5, hr5, hg5⟩ := run_append_oct (P := Try.prog) (ty := 27) (t := 27) u8 und hgd4.own (a := a4) (l := uvar x.1) (c := c4) hn4 (fun a' e => (ho4 a' e).1) (by omega)
    have hgd5 := hgd4.more hg5
    refine OpK.run rfl hr5 ?_
    show CWL _ _ _ _ _ _
    have hne5 : ¬ d.ownBlock = some r := fun e => by have := hg.own.lt e; omega
    have hb5 : Blk w5 r 38 [.int .u32 (x.1 : Int), .slice av x.2.length cv] := (hbt3.ch hg4.new_ch).keep (hg5.ch.block r (by have := hbt3.lt; have := hg4.new_ch.size; omega) hne5)
    refine CWL.reg (ops := [(.fieldAddr 38 (.tmp 10) 1, 0), (.load 27 (.tmp 1), 27), (.call ⟨.builtin .len, #[.tmp 3], #[27]⟩, 3), (.convert 3 47 (.tmp 5), 47), (.call ⟨.value (.func 17), #[.tmp 7], #[47]⟩, 27), (.call ⟨.builtin .append, #[.tmp 6, .tmp 9], #[27, 27]⟩, 27)]) (b := [(3, 11), (24, 11), (23, 9), (22, 7), (21, 5), (20, 3), (19, 1), (18, 6)]) (by kernel_rfl) ?_
    refine OpK.fieldAddr (off := 1) (by kernel_rfl) rfl ?_
    refine OpK.load (by kernel_rfl) rfl (hb5.cell 1) ?_
    refine OpK.len (e := 5) (by kernel_rfl) rfl ?_
    refine OpK.convInt (k' := .u64) (by kernel_rfl) (by kernel_rfl) rfl ?_
    rw [u64_nat (by omega)]
    refine OpK.asCall rfl call17 rfl ((uvarint w5 x.2.length (by omega)).mono ?_)
    rintro en w6 ⟨d6, he6, hg6⟩
    refine ⟨_, he6, ?_⟩
    have hgd6 := hgd5.later hg6.new_ch
    obtain ⟨a6, c6, rfl, hn6, ho6⟩ := hg6.own.slice
    obtain ⟨d7, w7, hr7, hg7⟩ := run_append_oct (P := Try.prog) (ty := 27) (t := 27) u8 und hgd6.own (a := a6) (l := uvar x.2.length) (c := c6) hn6 (fun a' e => (ho6 a' e).1) (by simp only [List.length_append]; omega)
    have hgd7 := hgd6.more hg7
    refine OpK.run rfl hr7 ?_
    show CWL _ _ _ _ _ _
    have hne7 : ¬ d5.ownBlock = some r := fun e => by
      rcases hg5.blk r e with h1 | h1
      · exact hne5 h1
      · have := hbt3.lt; have := hg4.new_ch.size; omega
    have hb7 : Blk w7 r 38 [.int .u32 (x.1 : Int), .slice av x.2.length cv] := (hb5.ch hg6.new_ch).keep (hg7.ch.block r (by have := hb5.lt; have := hg6.new_ch.size; omega) hne7)
    obtain ⟨av', cv', ev, _, _, hnv, hov⟩ := hvv0.chw hgd7.new_ch
    cases ev
    obtain ⟨d8, w8, hr8, hg8⟩ := run_append_oct (P := Try.prog) (ty := 27) (t := 27) u8 und hgd7.own (a := av) (l := x.2) (c := cv) hnv (fun a' e => (hov a' e).1) (by simp only [List.length_append]; omega)
    have hgd8 := hgd7.more hg8
    refine CWL.reg (ops := [(.fieldAddr 38 (.tmp 10) 1, 0), (.load 27 (.tmp 1), 27), (.call ⟨.builtin .append, #[.tmp 6, .tmp 3], #[27, 27]⟩, 27)]) (b := [(3, 5), (28, 5), (27, 3), (26, 1), (25, 6)]) (by kernel_rfl) ?_
    refine OpK.fieldAddr (off := 1) (by kernel_rfl) rfl ?_
    refine OpK.load (by kernel_rfl) rfl (hb7.cell 1) ?_
    refine OpK.run rfl hr8 ?_
    show CWL _ _ _ _ _ _
    try refine CWL.nil_ (P := Try.prog) (n := 0) ?_
    show CWL _ _ _ _ _ _
    have hi1 := i64_succ i (by omega)
    refine CWL.reg (ops := [(.binOp .add 3 (.tmp 16) (.const (Go.Value.int Go.IntKind.i64 1)) 3, 3)]) (b := [(8, 1), (29, 1)]) (by kernel_rfl) ?_
    refine OpK.arith (r := ((i + 1 : Nat) : Int)) (by rw [← hi1]; rfl) rfl rfl ?_
    show CWL _ _ _ _ _ _
    try refine CWL.nil_ (P := Try.prog) (n := 0) ?_
    refine ⟨m, Nat.lt_succ_self m, i + 1, d8, by omega, rfl, rfl, rfl, rfl, ?_⟩
    rw [hsplit]
    exact hgd8
theorem call9 : Callable Try.prog 9 := ⟨Try.f9, Try.func9, by kernel_rfl, by kernel_rfl⟩
set_option maxHeartbeats 4000000 in
theorem sameTags (w : World) (l1 l2 : List (Nat × List UInt8)) (v1 v2 : Value) (h1 : Ts w l1 v1) (h2 : Ts w l2 v2) (hn : l1.length ≤ 1000000) (heq : l1 = l2) (hs : ∀ x ∈ l1, x.2.length ≤ 2000) : Calls Try.prog 9 #[v1, v2] w fun en w' => ∃ v, en = .returned v ∧ v = .bool true ∧ Ch (fun _ => False) w w' := by
  subst heq
  have h1' := h1
  have h2' := h2
  obtain ⟨a1, c1, rfl, _⟩ := h1'
  obtain ⟨a2, c2, rfl, _⟩ := h2'
  refine Calls.of_CW Try.func9 rfl (by decide +kernel) (Nat.le_of_ble_eq_true (by kernel_rfl)) (CW.of_flat ?_)
  simp only [flat, List.cons_append, List.nil_append, List.append_nil]
  refine CWL.reg (ops := [(.assign (.const (Go.Value.bool false)), 4)]) (b := [(4, 1)]) (by kernel_rfl) ?_
  refine OpK.assign ?_
  show CWL _ _ _ _ _ _
  refine CWL.reg (ops := [(.call ⟨.builtin .len, #[.tmp 0], #[24]⟩, 3), (.call ⟨.builtin .len, #[.tmp 2], #[24]⟩, 3), (.binOp .neq 3 (.tmp 1) (.tmp 3) 3, 4)]) (b := [(10, 5), (9, 3), (8, 2), (7, 1), (6, 0)]) (by kernel_rfl) ?_
  refine OpK.len (e := 38) (by kernel_rfl) rfl ?_
  refine OpK.len (e := 38) (by kernel_rfl) rfl ?_
  refine OpK.cmp rfl rfl rfl ?_
  show CWL _ _ _ _ _ _
  refine CWL.condF (congrArg Value.bool (by simp)) ?_
  simp only [flat, List.cons_append, List.nil_append, List.append_nil]
  refine CWL.reg (ops := [(.call ⟨.builtin .len, #[.tmp 0], #[24]⟩, 3), (.move (.const (Go.Value.int Go.IntKind.i64 0)), 3)]) (b := [(13, 3), (12, 1), (11, 0)]) (by kernel_rfl) ?_
  refine OpK.len (e := 38) (by kernel_rfl) rfl ?_
  refine OpK.move ?_
  show CWL _ _ _ _ _ _
  refine CWL.cons (CW.block (CW.loop (fun m σ wl => ∃ i, i + m = l1.length ∧ σ 0 = .slice a1 l1.length c1 ∧ σ 1 = .slice a2 l1.length c2 ∧ σ 12 = .int .i64 (l1.length : Int) ∧ σ 13 = .int .i64 (i : Int) ∧ Ch (fun _ => False) w wl) l1.length
    ⟨0, by omega, rfl, rfl, rfl, rfl, Ch.refl _ _⟩ ?_))
  rintro m σ wl ⟨i, him, e0, e1, e12, e13, hcl⟩
  refine CW.pin [(0, .slice a1 l1.length c1), (1, .slice a2 l1.length c2), (12, .int .i64 (l1.length : Int)), (13, .int .i64 (i : Int))] (all_pin e0 (all_pin e1 (all_pin e12 (all_pin e13 (fun _ h => by cases h))))) fun σ => ?_
  simp only [flat, List.cons_append, List.nil_append, List.append_nil]
  refine CWL.reg (ops := [(.binOp .lss 3 (.tmp 26) (.tmp 24) 3, 0)]) (b := [(14, 1)]) (by kernel_rfl) ?_
  refine OpK.cmp rfl rfl rfl ?_
  show CWL _ _ _ _ _ _
  cases m with
  | zero =>
    refine CWL.condF (congrArg Value.bool (decide_eq_false (by omega))) ?_
    simp only [flat, List.cons_append, List.nil_append, List.append_nil]
    refine CWL.cons (CW.exit ?_)
    show CWL _ _ _ _ _ _
    refine CWL.reg (ops := [(.assign (.const (Go.Value.bool true)), 4)]) (b := [(4, 1)]) (by kernel_rfl) ?_
    refine OpK.assign ?_
    show CWL _ _ _ _ _ _
    refine CWL.ret ?_
    exact ⟨_, rfl, rfl, hcl⟩
  | succ m =>
    refine CWL.condT (congrArg Value.bool (decide_eq_true (by omega))) ?_
    simp only [flat, List.cons_append, List.nil_append, List.append_nil]
    refine CWL.block ?_
    simp only [flat, List.cons_append, List.nil_append, List.append_nil]
    obtain ⟨x, hx⟩ : ∃ x, l1[i]? = some x := ⟨_, List.getElem?_eq_getElem (by omega)⟩
    obtain ⟨a', c', vv, ev, hab, hk, hat, hvv⟩ := h1.get hx
    cases ev
    obtain ⟨b', k', uu, eu, hub, _, hut, huu⟩ := h2.get hx
    cases eu
    have hx2 := hs x (List.mem_of_getElem? hx)
    refine CWL.reg (ops := []) (b := [(5, 26), (15, 26)]) (by kernel_rfl) ?_
    show CWL _ _ _ _ _ _
    refine CWL.regD0 mixed [(0, true), (1, true), (2, true), (3, true), (4, true), (5, true), (6, true), (7, true), (8, true), (9, true), (10, true), (11, true), (12, true), (13, true), (14, true), (15, true), (16, true), (17, true), (18, true), (19, true), (20, true), (21, true), (22, false), (23, true), (24, true)] (by decide +kernel) ?_
    refine HW.early rfl rfl (Yi.move) ?_
    refine HW.early rfl rfl (Yi.move) ?_
    refine HW.early rfl rfl (Yi.indexAddr (s := 2) (by kernel_rfl) rfl rfl (by omega)) ?_
    refine HW.early rfl rfl (Yi.fieldAddr (off := 0) (by kernel_rfl) rfl) ?_
    refine HW.early rfl rfl (Yi.load (by kernel_rfl) rfl (fun w' hw' => hat.ch (by rw [add_block]; exact hab) (hcl.trans' hw') 0 _ rfl)) ?_
    refine HW.early rfl rfl (Yi.move) ?_
    refine HW.early rfl rfl (Yi.move) ?_
    refine HW.early rfl rfl (Yi.indexAddr (s := 2) (by kernel_rfl) rfl rfl (by omega)) ?_
    refine HW.early rfl rfl (Yi.fieldAddr (off := 0) (by kernel_rfl) rfl) ?_
    refine HW.early rfl rfl (Yi.load (by kernel_rfl) rfl (fun w' hw' => hut.ch (by rw [add_block]; exact hub) (hcl.trans' hw') 0 _ rfl)) ?_
    refine HW.early rfl rfl (Yi.cmp (r := false) (by simp [cmpB]) rfl rfl) ?_
    refine HW.early rfl rfl (Yi.move) ?_
    refine HW.early rfl rfl (Yi.move) ?_
    refine HW.early rfl rfl (Yi.move) ?_
    refine HW.early rfl rfl (Yi.indexAddr (s := 2) (by kernel_rfl) rfl rfl (by omega)) ?_
    refine HW.early rfl rfl (Yi.fieldAddr (off := 1) (by kernel_rfl) rfl) ?_
    refine HW.early rfl rfl (Yi.load (by kernel_rfl) rfl (fun w' hw' => hat.ch (by rw [add_block]; exact hab) (hcl.trans' hw') 1 _ rfl)) ?_
    refine HW.early rfl rfl (Yi.move) ?_
    refine HW.early rfl rfl (Yi.move) ?_
    refine HW.early rfl rfl (Yi.indexAddr (s := 2) (by kernel_rfl) rfl rfl (by omega)) ?_
    refine HW.early rfl rfl (Yi.fieldAddr (off := 1) (by kernel_rfl) rfl) ?_
    refine HW.early rfl rfl (Yi.load (by kernel_rfl) rfl (fun w' hw' => hut.ch (by rw [add_block]; exact hub) (hcl.trans' hw') 1 _ rfl)) ?_
    refine HW.next rfl rfl ?_
    refine OpK.asCall rfl call10 rfl ((same _ x.2 x.2 vv uu (hvv.chw (hcl.trans' (Ch.drew _ _))) (huu.chw (hcl.trans' (Ch.drew _ _))) (by omega) (by omega)).mono ?_)
    rintro en w4 ⟨_, he4, rfl, hc4⟩
    have hcl4 : Ch (fun _ => False) wl w4 := (Ch.drew _ _).trans' hc4
    refine ⟨_, he4, hcl4, ?_⟩
    refine HW.early rfl rfl (Yi.not rfl) ?_
    refine HW.early rfl rfl (Yi.pick rfl) ?_
    refine HW.done ?_
    refine CWL.condF (congrArg Value.bool (by simp)) ?_
    simp only [flat, List.cons_append, List.nil_append, List.append_nil]
    try refine CWL.nil_ (P := Try.prog) (n := 0) ?_
    show CWL _ _ _ _ _ _
    have hi1 := i64_succ i (by omega)
    refine CWL.reg (ops := [(.binOp .add 3 (.tmp 26) (.const (Go.Value.int Go.IntKind.i64 1)) 3, 3)]) (b := [(13, 1), (41, 1)]) (by kernel_rfl) ?_
    refine OpK.arith (r := ((i + 1 : Nat) : Int)) (by rw [← hi1]; rfl) rfl rfl ?_
    show CWL _ _ _ _ _ _
    try refine CWL.nil_ (P := Try.prog) (n := 0) ?_
    exact ⟨m, Nat.lt_succ_self m, i + 1, by omega, rfl, rfl, rfl, rfl, hcl.trans' hcl4⟩
end Go.Proofs.Ytagmcjolgfkcaaa.St
