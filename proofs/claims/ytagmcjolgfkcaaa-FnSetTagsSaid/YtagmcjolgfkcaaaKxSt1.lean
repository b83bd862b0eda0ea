/- Tags: what the law and the reference do with them. -/
import Derived.Test.YtagmcjolgfkcaaaKxLast2
import Derived.Test.YtagmcjolgfkcaaaProg
namespace Go.Proofs.Ytagmcjolgfkcaaa.St
open Go.Kx Go.RowKit Go.Proofs
set_option maxRecDepth 100000
set_option linter.unusedSimpArgs false
set_option linter.unusedVariables false

theorem mixed : Try.prog.follows .mixedOrders = true := by kernel_rfl
theorem u8 : U8 Try.prog 5 := by unfold U8; kernel_rfl
theorem und : Try.prog.underlying 27 = some (.slice 5) := by kernel_rfl
theorem undS : Try.prog.underlying 24 = some (.slice 38) := by kernel_rfl
theorem zS : (Try.prog.info? 38).map (fun i => (i.zero.map (·.cells), i.size, i.bytes)) = some (some #[.int .u32 0, .slice none 0 0], 2, 32) := by kernel_rfl
theorem undI : Try.prog.underlying 22 = some (.slice 35) := by kernel_rfl
theorem zI : (Try.prog.info? 35).map (fun i => (i.zero.map (·.cells), i.size, i.bytes)) = some (some #[.int .u32 0, .slice none 0 0], 2, 32) := by kernel_rfl
/-- New octets. -/
abbrev New (w w' : World) (d : Value) (bs : List UInt8) : Prop := Grew 5 w (.slice none 0 0) w' d bs

theorem call12 : Callable Try.prog 12 := ⟨Try.f12, Try.func12, by kernel_rfl, by kernel_rfl⟩
set_option maxHeartbeats 4000000 in
theorem fits6 (w : World) (x : Nat × List UInt8) (vv : Value) (hv : Oc w x.2 vv) : Calls Try.prog 12 #[.agg #[.int .u32 (x.1 : Int), vv]] w fun en w' => ∃ v, en = .returned v ∧ Ch (fun _ => False) w w' ∧ ∃ b, v = .bool b ∧ (b = true → x.2.length ≤ 2147483647) := by
  obtain ⟨a, c, rfl, _⟩ := hv
  refine Calls.of_CW Try.func12 rfl (by decide +kernel) (Nat.le_of_ble_eq_true (by kernel_rfl)) (CW.of_flat ?_)
  simp only [flat, List.cons_append, List.nil_append, List.append_nil]
  refine CWL.reg (ops := [(.box 35 (.tmp 0), 0), (.assign (.const (Go.Value.bool false)), 4)]) (b := [(2, 3), (1, 1)]) (by kernel_rfl) ?_
  refine OpK.boxG (cs := [.int .u32 (x.1 : Int), .slice a x.2.length c]) rfl fun w1 g hb hc1 hg hs1 => ?_
  refine OpK.assign ?_
  show CWL _ _ _ _ _ _
  refine CWL.reg (ops := [(.fieldAddr 35 (.tmp 2) 1, 0), (.load 27 (.tmp 1), 27), (.call ⟨.builtin .len, #[.tmp 3], #[27]⟩, 3), (.binOp .gtr 3 (.tmp 5) (.const (Go.Value.int Go.IntKind.i64 2147483647)) 3, 4)]) (b := [(6, 7), (5, 5), (4, 3), (3, 1)]) (by kernel_rfl) ?_
  refine OpK.fieldAddr (off := 1) (by kernel_rfl) rfl ?_
  refine OpK.load (by kernel_rfl) rfl (hb.cell 1) ?_
  refine OpK.len (e := 5) (by kernel_rfl) rfl ?_
  refine OpK.cmp rfl rfl rfl ?_
  show CWL _ _ _ _ _ _
  by_cases hl : x.2.length ≤ 2147483647
  · refine CWL.condF (congrArg Value.bool (decide_eq_false (by omega))) ?_
    simp only [flat, List.cons_append, List.nil_append, List.append_nil]
    try refine CWL.nil_ (P := Try.prog) (n := 0) ?_
    show CWL _ _ _ _ _ _
    refine CWL.reg (ops := [(.assign (.const (Go.Value.bool true)), 4)]) (b := [(2, 1)]) (by kernel_rfl) ?_
    refine OpK.assign ?_
    show CWL _ _ _ _ _ _
    refine CWL.ret ?_
    exact ⟨_, rfl, hc1, true, rfl, fun _ => hl⟩
  · refine CWL.condT (congrArg Value.bool (decide_eq_true (by omega))) ?_
    simp only [flat, List.cons_append, List.nil_append, List.append_nil]
    refine CWL.reg (ops := [(.assign (.const (Go.Value.bool false)), 4)]) (b := [(2, 1)]) (by kernel_rfl) ?_
    refine OpK.assign ?_
    show CWL _ _ _ _ _ _
    refine CWL.ret ?_
    exact ⟨_, rfl, hc1, false, rfl, fun h => by cases h⟩

theorem call4 : Callable Try.prog 4 := ⟨Try.f4, Try.func4, by kernel_rfl, by kernel_rfl⟩
set_option maxHeartbeats 4000000 in
theorem fits5 (w : World) (l : List (Nat × List UInt8)) (v : Value) (h : Ts w l v) : Calls Try.prog 4 #[v] w fun en w' => ∃ v, en = .returned v ∧ Ch (fun _ => False) w w' ∧ ∃ b, v = .bool b ∧ (b = true → l.length ≤ 2147483647 ∧ ∀ x ∈ l, x.2.length ≤ 2147483647) := by
  have h' := h
  obtain ⟨a, c, rfl, _⟩ := h'
  refine Calls.of_CW Try.func4 rfl (by decide +kernel) (Nat.le_of_ble_eq_true (by kernel_rfl)) (CW.of_flat ?_)
  simp only [flat, List.cons_append, List.nil_append, List.append_nil]
  refine CWL.reg (ops := [(.assign (.const (Go.Value.bool false)), 4)]) (b := [(2, 1)]) (by kernel_rfl) ?_
  refine OpK.assign ?_
  show CWL _ _ _ _ _ _
  refine CWL.reg (ops := [(.call ⟨.builtin .len, #[.tmp 0], #[22]⟩, 3), (.binOp .gtr 3 (.tmp 1) (.const (Go.Value.int Go.IntKind.i64 2147483647)) 3, 4)]) (b := [(7, 3), (6, 1), (5, 0)]) (by kernel_rfl) ?_
  refine OpK.len (e := 35) (by kernel_rfl) rfl ?_
  refine OpK.cmp rfl rfl rfl ?_
  show CWL _ _ _ _ _ _
  by_cases hn : l.length ≤ 2147483647
  rotate_left
  · refine CWL.condT (congrArg Value.bool (decide_eq_true (by omega))) ?_
    simp only [flat, List.cons_append, List.nil_append, List.append_nil]
    refine CWL.reg (ops := [(.assign (.const (Go.Value.bool false)), 4)]) (b := [(2, 1)]) (by kernel_rfl) ?_
    refine OpK.assign ?_
    show CWL _ _ _ _ _ _
    refine CWL.ret ?_
    exact ⟨_, rfl, Ch.refl _ _, false, rfl, fun h => by cases h⟩
  refine CWL.condF (congrArg Value.bool (decide_eq_false (by omega))) ?_
  simp only [flat, List.cons_append, List.nil_append, List.append_nil]
  refine CWL.reg (ops := [(.call ⟨.builtin .len, #[.tmp 0], #[22]⟩, 3), (.move (.const (Go.Value.int Go.IntKind.i64 0)), 3)]) (b := [(10, 3), (9, 1), (8, 0)]) (by kernel_rfl) ?_
  refine OpK.len (e := 35) (by kernel_rfl) rfl ?_
  refine OpK.move ?_
  show CWL _ _ _ _ _ _
  refine CWL.cons (CW.block (CW.loop (fun m σ wl => ∃ i, i + m = l.length ∧ σ 8 = .slice a l.length c ∧ σ 9 = .int .i64 (l.length : Int) ∧ σ 10 = .int .i64 (i : Int) ∧ Ch (fun _ => False) w wl ∧ ∀ j x, j < i → l[j]? = some x → x.2.length ≤ 2147483647) l.length
    ⟨0, by omega, rfl, rfl, rfl, Ch.refl _ _, fun j x hj => absurd hj (by omega)⟩ ?_))
  rintro m σ wl ⟨i, him, e8, e9, e10, hcl, hlow⟩
  refine CW.pin [(8, .slice a l.length c), (9, .int .i64 (l.length : Int)), (10, .int .i64 (i : Int))] (all_pin e8 (all_pin e9 (all_pin e10 (fun _ h => by cases h)))) fun σ => ?_
  simp only [flat, List.cons_append, List.nil_append, List.append_nil]
  refine CWL.reg (ops := [(.binOp .lss 3 (.tmp 20) (.tmp 18) 3, 0)]) (b := [(11, 1)]) (by kernel_rfl) ?_
  refine OpK.cmp rfl rfl rfl ?_
  show CWL _ _ _ _ _ _
  cases m with
  | zero =>
    refine CWL.condF (congrArg Value.bool (decide_eq_false (by omega))) ?_
    simp only [flat, List.cons_append, List.nil_append, List.append_nil]
    refine CWL.cons (CW.exit ?_)
    show CWL _ _ _ _ _ _
    refine CWL.reg (ops := [(.assign (.const (Go.Value.bool true)), 4)]) (b := [(2, 1)]) (by kernel_rfl) ?_
    refine OpK.assign ?_
    show CWL _ _ _ _ _ _
    refine CWL.ret ?_
    refine ⟨_, rfl, hcl, true, rfl, fun _ => ⟨hn, fun x hx => ?_⟩⟩
    obtain ⟨j, hj⟩ := List.mem_iff_getElem?.1 hx
    exact hlow j x (by have := (List.getElem?_eq_some_iff.1 hj).1; omega) hj
  | succ m =>
    refine CWL.condT (congrArg Value.bool (decide_eq_true (by omega))) ?_
    simp only [flat, List.cons_append, List.nil_append, List.append_nil]
    refine CWL.block ?_
    simp only [flat, List.cons_append, List.nil_append, List.append_nil]
    obtain ⟨x, hx⟩ : ∃ x, l[i]? = some x := ⟨_, List.getElem?_eq_getElem (by omega)⟩
    obtain ⟨a', c', vv, ev, hab, hk, hat0, hvv0⟩ := h.get hx
    cases ev
    have hat := hat0.ch (by rw [add_block]; exact hab) hcl
    have hvv := hvv0.chw hcl
    refine CWL.reg (ops := [(.indexAddr 22 (.tmp 16) (.tmp 20), 0), (.load 35 (.tmp 1), 35), (.alloc 35, 0), (.store 35 (.tmp 5) (.tmp 3), 0)]) (b := [(4, 5), (13, 3), (12, 1)]) (by kernel_rfl) ?_
    refine OpK.indexAddr (s := 2) (by kernel_rfl) rfl rfl (by omega) ?_
    refine OpK.loadA (n := 2) (by kernel_rfl) rfl (hat) rfl ?_
    refine OpK.allocZ zeroG (by kernel_rfl) fun w2 r hr hc2 hr1 hs2 => ?_
    refine OpK.storeG (cs := zeroG) (us := [.int .u32 (x.1 : Int), vv]) (by kernel_rfl) rfl rfl (by intro q hq; simp only [List.mem_cons, List.not_mem_nil, or_false] at hq; rcases hq with rfl | rfl; rfl; exact hvv.form) hr rfl fun w3 hbt3 hc3 hs3 => ?_
    show CWL _ _ _ _ _ _
    have hcl3 : Ch (fun _ => False) wl w3 := hc2.trans hc3 fun k hk e => by omega
    have hvv3 := hvv.chw hcl3
    refine CWL.reg (ops := [(.load 35 (.tmp 8), 35), (.call ⟨.value (.func 12), #[.tmp 1], #[35]⟩, 4), (.unOp .not 4 (.tmp 3), 4)]) (b := [(16, 5), (15, 3), (14, 1)]) (by kernel_rfl) ?_
    refine OpK.loadA (n := 2) (by kernel_rfl) rfl (hbt3.ata) rfl ?_
    refine OpK.asCall rfl call12 rfl ((fits6 w3 x vv hvv3).mono ?_)
    rintro en w4 ⟨_, he4, hc4, b, rfl, hb⟩
    refine ⟨_, he4, ?_⟩
    refine OpK.not rfl ?_
    show CWL _ _ _ _ _ _
    cases b with
    | false =>
      refine CWL.condT rfl ?_
      simp only [flat, List.cons_append, List.nil_append, List.append_nil]
      refine CWL.reg (ops := [(.assign (.const (Go.Value.bool false)), 4)]) (b := [(2, 1)]) (by kernel_rfl) ?_
      refine OpK.assign ?_
      show CWL _ _ _ _ _ _
      refine CWL.ret ?_
      exact ⟨_, rfl, (hcl.trans' hcl3).trans' hc4, false, rfl, fun h => by cases h⟩
    | true =>
    refine CWL.condF rfl ?_
    simp only [flat, List.cons_append, List.nil_append, List.append_nil]
    try refine CWL.nil_ (P := Try.prog) (n := 0) ?_
    show CWL _ _ _ _ _ _
    have hi1 := i64_succ i (by omega)
    refine CWL.reg (ops := [(.binOp .add 3 (.tmp 20) (.const (Go.Value.int Go.IntKind.i64 1)) 3, 3)]) (b := [(10, 1), (17, 1)]) (by kernel_rfl) ?_
    refine OpK.arith (r := ((i + 1 : Nat) : Int)) (by rw [← hi1]; rfl) rfl rfl ?_
    show CWL _ _ _ _ _ _
    try refine CWL.nil_ (P := Try.prog) (n := 0) ?_
    refine ⟨m, Nat.lt_succ_self m, i + 1, by omega, rfl, rfl, rfl, (hcl.trans' hcl3).trans' hc4, fun j y hj hy => ?_⟩
    by_cases hji : j = i
    · subst hji; rw [hx] at hy; cases hy; exact hb rfl
    · exact hlow j y (by omega) hy

theorem call5 : Callable Try.prog 5 := ⟨Try.f5, Try.func5, by kernel_rfl, by kernel_rfl⟩
set_option maxHeartbeats 4000000 in
theorem tagsFit (w : World) (l : List (Nat × List UInt8)) (v : Value) (h : Ts w l v) (hn : l.length ≤ 2147483647) : Calls Try.prog 5 #[v] w fun en w' => ∃ v, en = .returned v ∧ Ch (fun _ => False) w w' ∧ ∃ b, v = .bool b ∧ (b = true → l.length ≤ 50 ∧ ∀ x ∈ l, x.2.length ≤ 2000) := by
  have h' := h
  obtain ⟨a, c, rfl, _⟩ := h'
  refine Calls.of_CW Try.func5 rfl (by decide +kernel) (Nat.le_of_ble_eq_true (by kernel_rfl)) (CW.of_flat ?_)
  simp only [flat, List.cons_append, List.nil_append, List.append_nil]
  refine CWL.reg (ops := [(.assign (.const (Go.Value.bool false)), 4)]) (b := [(2, 1)]) (by kernel_rfl) ?_
  refine OpK.assign ?_
  show CWL _ _ _ _ _ _
  refine CWL.reg (ops := [(.call ⟨.builtin .len, #[.tmp 0], #[22]⟩, 3), (.move (.const (Go.Value.int Go.IntKind.i64 0)), 3)]) (b := [(7, 3), (6, 1), (5, 0)]) (by kernel_rfl) ?_
  refine OpK.len (e := 35) (by kernel_rfl) rfl ?_
  refine OpK.move ?_
  show CWL _ _ _ _ _ _
  refine CWL.cons (CW.block (CW.loop (fun m σ wl => ∃ i, i + m = l.length ∧ σ 0 = .slice a l.length c ∧ σ 5 = .slice a l.length c ∧ σ 6 = .int .i64 (l.length : Int) ∧ σ 7 = .int .i64 (i : Int) ∧ Ch (fun _ => False) w wl ∧ ∀ j x, j < i → l[j]? = some x → x.2.length ≤ 2000) l.length
    ⟨0, by omega, rfl, rfl, rfl, rfl, Ch.refl _ _, fun j x hj => absurd hj (by omega)⟩ ?_))
  rintro m σ wl ⟨i, him, e0, e5, e6, e7, hcl, hlow⟩
  refine CW.pin [(0, .slice a l.length c), (5, .slice a l.length c), (6, .int .i64 (l.length : Int)), (7, .int .i64 (i : Int))] (all_pin e0 (all_pin e5 (all_pin e6 (all_pin e7 (fun _ h => by cases h))))) fun σ => ?_
  simp only [flat, List.cons_append, List.nil_append, List.append_nil]
  refine CWL.reg (ops := [(.binOp .lss 3 (.tmp 14) (.tmp 12) 3, 0)]) (b := [(8, 1)]) (by kernel_rfl) ?_
  refine OpK.cmp rfl rfl rfl ?_
  show CWL _ _ _ _ _ _
  cases m with
  | zero =>
    refine CWL.condF (congrArg Value.bool (decide_eq_false (by omega))) ?_
    simp only [flat, List.cons_append, List.nil_append, List.append_nil]
    refine CWL.cons (CW.exit ?_)
    show CWL _ _ _ _ _ _
    refine CWL.reg (ops := [(.call ⟨.builtin .len, #[.tmp 0], #[22]⟩, 3), (.binOp .leq 3 (.tmp 1) (.const (Go.Value.int Go.IntKind.i64 50)) 3, 4)]) (b := [(2, 3), (18, 3), (17, 1), (16, 0)]) (by kernel_rfl) ?_
    refine OpK.len (e := 35) (by kernel_rfl) rfl ?_
    refine OpK.cmp rfl rfl rfl ?_
    show CWL _ _ _ _ _ _
    refine CWL.ret ?_
    refine ⟨_, rfl, hcl, _, rfl, fun hb => ?_⟩
    have hb' : (l.length : Int) ≤ 50 := of_decide_eq_true hb
    refine ⟨by omega, fun x hx => ?_⟩
    obtain ⟨j, hj⟩ := List.mem_iff_getElem?.1 hx
    exact hlow j x (by have := (List.getElem?_eq_some_iff.1 hj).1; omega) hj
  | succ m =>
    refine CWL.condT (congrArg Value.bool (decide_eq_true (by omega))) ?_
    simp only [flat, List.cons_append, List.nil_append, List.append_nil]
    refine CWL.block ?_
    simp only [flat, List.cons_append, List.nil_append, List.append_nil]
    obtain ⟨x, hx⟩ : ∃ x, l[i]? = some x := ⟨_, List.getElem?_eq_getElem (by omega)⟩
    obtain ⟨a', c', vv, ev, hab, hk, hat0, hvv0⟩ := h.get hx
    cases ev
    have hat := hat0.ch (by rw [add_block]; exact hab) hcl
    have hvv := hvv0.chw hcl
    refine CWL.reg (ops := [(.indexAddr 22 (.tmp 10) (.tmp 14), 0), (.load 35 (.tmp 1), 35), (.alloc 35, 0), (.store 35 (.tmp 5) (.tmp 3), 0)]) (b := [(4, 5), (10, 3), (9, 1)]) (by kernel_rfl) ?_
    refine OpK.indexAddr (s := 2) (by kernel_rfl) rfl rfl (by omega) ?_
    refine OpK.loadA (n := 2) (by kernel_rfl) rfl (hat) rfl ?_
    refine OpK.allocZ zeroG (by kernel_rfl) fun w2 r hr hc2 hr1 hs2 => ?_
    refine OpK.storeG (cs := zeroG) (us := [.int .u32 (x.1 : Int), vv]) (by kernel_rfl) rfl rfl (by intro q hq; simp only [List.mem_cons, List.not_mem_nil, or_false] at hq; rcases hq with rfl | rfl; rfl; exact hvv.form) hr rfl fun w3 hbt3 hc3 hs3 => ?_
    show CWL _ _ _ _ _ _
    have hcl3 : Ch (fun _ => False) wl w3 := hc2.trans hc3 fun k hk e => by omega
    have hvv3 := hvv.chw hcl3
    obtain ⟨av, cv, rfl, _⟩ := hvv
    refine CWL.reg (ops := [(.fieldAddr 35 (.tmp 8) 1, 0), (.load 27 (.tmp 1), 27), (.call ⟨.builtin .len, #[.tmp 3], #[27]⟩, 3), (.binOp .gtr 3 (.tmp 5) (.const (Go.Value.int Go.IntKind.i64 2000)) 3, 4)]) (b := [(14, 7), (13, 5), (12, 3), (11, 1)]) (by kernel_rfl) ?_
    refine OpK.fieldAddr (off := 1) (by kernel_rfl) rfl ?_
    refine OpK.load (by kernel_rfl) rfl (hbt3.cell 1) ?_
    refine OpK.len (e := 5) (by kernel_rfl) rfl ?_
    refine OpK.cmp rfl rfl rfl ?_
    show CWL _ _ _ _ _ _
    by_cases hbig : x.2.length ≤ 2000
    · refine CWL.condF (congrArg Value.bool (decide_eq_false (by omega))) ?_
      simp only [flat, List.cons_append, List.nil_append, List.append_nil]
      try refine CWL.nil_ (P := Try.prog) (n := 0) ?_
      show CWL _ _ _ _ _ _
      have hi1 := i64_succ i (by omega)
      refine CWL.reg (ops := [(.binOp .add 3 (.tmp 14) (.const (Go.Value.int Go.IntKind.i64 1)) 3, 3)]) (b := [(7, 1), (15, 1)]) (by kernel_rfl) ?_
      refine OpK.arith (r := ((i + 1 : Nat) : Int)) (by rw [← hi1]; rfl) rfl rfl ?_
      show CWL _ _ _ _ _ _
      try refine CWL.nil_ (P := Try.prog) (n := 0) ?_
      refine ⟨m, Nat.lt_succ_self m, i + 1, by omega, rfl, rfl, rfl, rfl, hcl.trans' hcl3, fun j y hj hy => ?_⟩
      by_cases hji : j = i
      · subst hji; rw [hx] at hy; cases hy; exact hbig
      · exact hlow j y (by omega) hy
    · refine CWL.condT (congrArg Value.bool (decide_eq_true (by omega))) ?_
      simp only [flat, List.cons_append, List.nil_append, List.append_nil]
      refine CWL.reg (ops := [(.assign (.const (Go.Value.bool false)), 4)]) (b := [(2, 1)]) (by kernel_rfl) ?_
      refine OpK.assign ?_
      show CWL _ _ _ _ _ _
      refine CWL.ret ?_
      exact ⟨_, rfl, hcl.trans' hcl3, false, rfl, fun h => by cases h⟩

theorem call7 : Callable Try.prog 7 := ⟨Try.f7, Try.func7, by kernel_rfl, by kernel_rfl⟩
set_option maxHeartbeats 4000000 in
theorem tagsOf (w : World) (l : List (Nat × List UInt8)) (v : Value) (h : Ts w l v) (hn : l.length ≤ 1000000) : Calls Try.prog 7 #[v] w fun en w' => ∃ x, en = .returned x ∧ Ts w' l x ∧ Ch (fun _ => False) w w' := by
  have h' := h
  obtain ⟨a, c, rfl, _⟩ := h'
  refine Calls.of_CW Try.func7 rfl (by decide +kernel) (Nat.le_of_ble_eq_true (by kernel_rfl)) (CW.of_flat ?_)
  simp only [flat, List.cons_append, List.nil_append, List.append_nil]
  refine CWL.reg (ops := [(.assign (.const (Go.Value.slice none 0 0)), 24)]) (b := [(2, 1)]) (by kernel_rfl) ?_
  refine OpK.assign ?_
  show CWL _ _ _ _ _ _
  refine CWL.reg (ops := [(.assign (.const (Go.Value.slice none 0 0)), 24)]) (b := [(3, 1)]) (by kernel_rfl) ?_
  refine OpK.assign ?_
  show CWL _ _ _ _ _ _
  refine CWL.reg (ops := [(.call ⟨.builtin .len, #[.tmp 0], #[22]⟩, 3), (.move (.const (Go.Value.int Go.IntKind.i64 0)), 3)]) (b := [(8, 3), (7, 1), (6, 0)]) (by kernel_rfl) ?_
  refine OpK.len (e := 35) (by kernel_rfl) rfl ?_
  refine OpK.move ?_
  show CWL _ _ _ _ _ _
  refine CWL.cons (CW.block (CW.loop (fun m σ wl => ∃ i v us, i + m = l.length ∧ σ 3 = v ∧ σ 6 = .slice a l.length c ∧ σ 7 = .int .i64 (l.length : Int) ∧ σ 8 = .int .i64 (i : Int) ∧ Ch (fun _ => False) w wl ∧ TOwn 38 wl v us ∧ All2 (TR w) us (l.take i) ∧ ∀ k, v.ownBlock = some k → w.heap.size ≤ k) l.length
    ⟨0, .slice none 0 0, [], by omega, rfl, rfl, rfl, rfl, Ch.refl _ _, TOwn.nil _ _, by simpa using All2.nil, fun k hk => by cases hk⟩ ?_))
  rintro m σ wl ⟨i, vo, us, him, e3, e6, e7, e8, hcl, hown, hA, hlo⟩
  refine CW.pin [(3, vo), (6, .slice a l.length c), (7, .int .i64 (l.length : Int)), (8, .int .i64 (i : Int))] (all_pin e3 (all_pin e6 (all_pin e7 (all_pin e8 (fun _ h => by cases h))))) fun σ => ?_
  simp only [flat, List.cons_append, List.nil_append, List.append_nil]
  refine CWL.reg (ops := [(.binOp .lss 3 (.tmp 16) (.tmp 14) 3, 0)]) (b := [(9, 1)]) (by kernel_rfl) ?_
  refine OpK.cmp rfl rfl rfl ?_
  show CWL _ _ _ _ _ _
  cases m with
  | zero =>
    refine CWL.condF (congrArg Value.bool (decide_eq_false (by omega))) ?_
    simp only [flat, List.cons_append, List.nil_append, List.append_nil]
    refine CWL.cons (CW.exit ?_)
    show CWL _ _ _ _ _ _
    refine CWL.reg (ops := []) (b := [(2, 6), (21, 6)]) (by kernel_rfl) ?_
    show CWL _ _ _ _ _ _
    refine CWL.ret ?_
    rw [List.take_of_length_le (by omega)] at hA
    exact ⟨_, rfl, hown.ts (TR.ch hA hcl) h.few, hcl⟩
  | succ m =>
    refine CWL.condT (congrArg Value.bool (decide_eq_true (by omega))) ?_
    simp only [flat, List.cons_append, List.nil_append, List.append_nil]
    refine CWL.block ?_
    simp only [flat, List.cons_append, List.nil_append, List.append_nil]
    obtain ⟨x, hx⟩ : ∃ x, l[i]? = some x := ⟨_, List.getElem?_eq_getElem (by omega)⟩
    obtain ⟨a', c', vv, ev, hab, hk, hat0, hvv0⟩ := h.get hx
    cases ev
    have hat := hat0.ch (by rw [add_block]; exact hab) hcl
    have hvv := hvv0.chw hcl
    refine CWL.reg (ops := [(.indexAddr 22 (.tmp 12) (.tmp 16), 0), (.load 35 (.tmp 1), 35), (.alloc 35, 0), (.store 35 (.tmp 5) (.tmp 3), 0)]) (b := [(5, 5), (11, 3), (10, 1)]) (by kernel_rfl) ?_
    refine OpK.indexAddr (s := 2) (by kernel_rfl) rfl rfl (by omega) ?_
    refine OpK.loadA (n := 2) (by kernel_rfl) rfl (hat) rfl ?_
    refine OpK.allocZ zeroG (by kernel_rfl) fun w2 r hr hc2 hr1 hs2 => ?_
    refine OpK.storeG (cs := zeroG) (us := [.int .u32 (x.1 : Int), vv]) (by kernel_rfl) rfl rfl (by intro q hq; simp only [List.mem_cons, List.not_mem_nil, or_false] at hq; rcases hq with rfl | rfl; rfl; exact hvv.form) hr rfl fun w3 hbt3 hc3 hs3 => ?_
    show CWL _ _ _ _ _ _
    have hcl3 : Ch (fun _ => False) wl w3 := hc2.trans hc3 fun k hk e => by omega
    have hvv3 := hvv.chw hcl3
    obtain ⟨av, cv, hvf, _⟩ := id hvv0
    subst hvf
    have hus : us.length = i := by rw [hA.size, List.length_take]; omega
    have hown4 : TOwn 38 (w3.alloc (.cells #[.int .u32 (x.1 : Int), (.slice av x.2.length cv)] 38)) vo us := (hown.ch hcl3).ch (Ch.alloc _ _ _)
    obtain ⟨v5, w5, hr5, hown5, hc5, hb5⟩ := append_tags (P := Try.prog) (t := 24) (ty := 24) undS zS hown4 (a := ⟨w3.heap.size, 0, none⟩) (c := 1) (news := [(x.1, .slice av x.2.length cv)]) (by simp only [List.length_cons, List.length_nil]; omega)
      (fun j y hy => by
        have hj : j = 0 := by have := (List.getElem?_eq_some_iff.1 hy).1; simp only [List.length_cons, List.length_nil] at this; omega
        subst hj
        simp only [List.getElem?_cons_zero, Option.some.injEq] at hy
        subst hy
        exact ⟨by rw [Nat.zero_mul, addr_add_zero]; exact (Blk.new w3 38 [.int .u32 (x.1 : Int), (.slice av x.2.length cv)]).ata, hvv.form⟩)
    have hc35 : Ch (fun i => vo.ownBlock = some i) w3 w5 := (Ch.alloc _ _ _).trans hc5 fun i _ h => h
    have hcw5 : Ch (fun _ => False) w w5 := (hcl.trans' hcl3).trans hc35 fun k hk e => by have := hlo k e; omega
    refine CWL.reg (ops := [(.fieldAddr 35 (.tmp 10) 0, 0), (.load 33 (.tmp 1), 33), (.fieldAddr 35 (.tmp 10) 1, 0), (.load 27 (.tmp 5), 27), (.build 38 #[(0, .tmp 3), (1, .tmp 7)], 38), (.buildSlice 24 1 #[(0, .tmp 9)], 24), (.call ⟨.builtin .append, #[.tmp 6, .tmp 11], #[24, 24]⟩, 24)]) (b := [(3, 13), (19, 13), (18, 11), (17, 9), (16, 7), (15, 5), (14, 3), (13, 1), (12, 6)]) (by kernel_rfl) ?_
    refine OpK.fieldAddr (off := 0) (by kernel_rfl) rfl ?_
    refine OpK.load (by kernel_rfl) rfl (hbt3.cell 0) ?_
    refine OpK.fieldAddr (off := 1) (by kernel_rfl) rfl ?_
    refine OpK.load (by kernel_rfl) rfl (hbt3.cell 1) ?_
    refine OpK.build (cells := #[.int .u32 (x.1 : Int), (.slice av x.2.length cv)]) (by kernel_rfl) ?_
    refine OpK.buildS (by simp only [List.map_toArray, List.map_cons, List.map_nil]; exact run_bsT undS zS (x.1, .slice av x.2.length cv)) ?_
    refine OpK.run rfl hr5 ?_
    show CWL _ _ _ _ _ _
    try refine CWL.nil_ (P := Try.prog) (n := 0) ?_
    show CWL _ _ _ _ _ _
    have hi1 := i64_succ i (by omega)
    refine CWL.reg (ops := [(.binOp .add 3 (.tmp 16) (.const (Go.Value.int Go.IntKind.i64 1)) 3, 3)]) (b := [(8, 1), (20, 1)]) (by kernel_rfl) ?_
    refine OpK.arith (r := ((i + 1 : Nat) : Int)) (by rw [← hi1]; rfl) rfl rfl ?_
    show CWL _ _ _ _ _ _
    try refine CWL.nil_ (P := Try.prog) (n := 0) ?_
    refine ⟨m, Nat.lt_succ_self m, i + 1, v5, us ++ [(x.1, .slice av x.2.length cv)], by omega, rfl, rfl, rfl, rfl, hcw5, hown5, ?_, fun k hk => ?_⟩
    · rw [List.take_add_one, hx]
      exact hA.app (.cons ⟨rfl, hvv0⟩ .nil)
    · rcases hb5 k hk with h1 | h1
      · exact hlo k h1
      · have e1 : (w3.alloc (.cells #[.int .u32 (x.1 : Int), .slice av x.2.length cv] 38)).heap.size = w3.heap.size + 1 := by simp
        have e2 := hcl.size
        have e3 := hcl3.size
        omega
end Go.Proofs.Ytagmcjolgfkcaaa.St
