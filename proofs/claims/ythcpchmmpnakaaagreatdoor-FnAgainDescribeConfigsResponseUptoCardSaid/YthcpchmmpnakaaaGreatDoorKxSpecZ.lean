/- What the reference's functions write of messages; sizes that are asked. -/
import Derived.Test.YthcpchmmpnakaaaGreatDoorKxSpecY
namespace Go.Proofs.YthcpchmmpnakaaaGreatDoor.Sp
open Go.Kx Go.RowKit Go.Proofs
set_option maxRecDepth 100000
set_option linter.unusedSimpArgs false
set_option linter.unusedVariables false

theorem call6 : Callable Tryz.prog 6 := ⟨Tryz.f6, Tryz.func6, by kernel_rfl, by kernel_rfl⟩
theorem aggM : aggSize Tryz.prog 32 = some 2 := by kernel_rfl
set_option maxHeartbeats 4000000 in
theorem write (w : World) (B dd d : Nat) (hB : B ≤ w.heap.size) (ver flex : Int) (flds : List Fld) (vF : Value) (hF : FldsIs w B dd flds vF) (hpl : plainB d flds = true) (t : Tr) (cs : List Value) (hT : TrIs w B t cs) (hl : (partF ver (flexB flex ver) d flds t).length ≤ Lim) :
    Calls Tryz.prog 6 #[.agg #[vF, .int .i64 flex], .int .i64 ver, .agg cs.toArray] w fun en w' => ∃ x, en = .returned x ∧ New w w' x (partF ver (flexB flex ver) d flds t) := by
  have hone := hT.one
  refine Calls.of_CW Tryz.func6 rfl (by decide +kernel) (Nat.le_of_ble_eq_true (by kernel_rfl)) (CW.of_flat ?_)
  simp only [flat, List.cons_append, List.nil_append, List.append_nil]
  refine CWL.reg (ops := [(.box 32 (.tmp 0), 0), (.box 26 (.tmp 4), 0), (.assign (.const (Go.Value.slice none 0 0)), 22)]) (b := [(6, 5), (5, 3), (3, 1)]) (by kernel_rfl) ?_
  refine OpK.boxG (cs := [vF, .int .i64 flex]) rfl fun w1 g hb1 hc1 hg1 hs1 => ?_
  refine OpK.boxG (cs := cs) rfl fun w2 gt hbt2 hc2 hg2 hs2 => ?_
  refine OpK.assign ?_
  show CWL _ _ _ _ _ _
  have hb2 := hb1.ch hc2
  have hcw2 : Ch (fun _ => False) w w2 := hc1.trans' hc2
  have hk2 : ∀ k, k < B → w2.heap[k]? = w.heap[k]? := fun k hk => hcw2.block k (by omega) fun h => h
  by_cases h1 : flex ≥ 0
  · by_cases h2 : ver ≥ flex
    · have e : flexB flex ver = true := by unfold flexB; rw [decide_eq_true h1, decide_eq_true h2]; rfl
      rw [e] at hl ⊢
      refine CWL.cons (CW.region ?_)
      refine RW.want rfl ?_
      refine OpK.fieldAddr (off := 0) (by kernel_rfl) rfl ?_
      refine RW.want rfl ?_
      refine OpK.load (by kernel_rfl) rfl (hb2.cell 0) ?_
      refine RW.want rfl ?_
      refine OpK.move ?_
      refine RW.want rfl ?_
      refine OpK.fieldAddr (off := 1) (by kernel_rfl) rfl ?_
      refine RW.want rfl ?_
      refine OpK.load (by kernel_rfl) rfl (hb2.cell 1) ?_
      refine RW.want rfl ?_
      refine OpK.cmp (r := true) (by rw [← decide_eq_true h1]; rfl) rfl rfl ?_
      refine RW.want rfl ?_
      refine OpK.move ?_
      refine RW.want rfl ?_
      refine OpK.move ?_
      refine RW.want rfl ?_
      refine OpK.fieldAddr (off := 1) (by kernel_rfl) rfl ?_
      refine RW.want rfl ?_
      refine OpK.load (by kernel_rfl) rfl (hb2.cell 1) ?_
      refine RW.want rfl ?_
      refine OpK.cmp (r := true) (by rw [← decide_eq_true h2]; rfl) rfl rfl ?_
      refine RW.want rfl ?_
      refine OpK.pick rfl ?_
      refine RW.want rfl ?_
      refine OpK.loadA (n := 5) (by kernel_rfl) rfl hbt2.ata hone.2 ?_
      refine RW.want rfl ?_
      refine OpK.asCall rfl call14 rfl ((part_all ver true d flds hpl w2 B dd vF t cs (by omega) (hF.keep hk2) (hT.keep hk2) hl).mono ?_)
      rintro en w3 ⟨d3, he3, hg3⟩
      refine ⟨_, he3, ?_⟩
      refine RW.want rfl ?_
      refine OpK.assign ?_
      refine RW.z ?_
      show CWL _ _ _ _ _ _
      refine CWL.ret ?_
      exact ⟨_, rfl, hg3.pre hcw2⟩
    · have e : flexB flex ver = false := by unfold flexB; rw [decide_eq_true h1, decide_eq_false h2]; rfl
      rw [e] at hl ⊢
      refine CWL.cons (CW.region ?_)
      refine RW.want rfl ?_
      refine OpK.fieldAddr (off := 0) (by kernel_rfl) rfl ?_
      refine RW.want rfl ?_
      refine OpK.load (by kernel_rfl) rfl (hb2.cell 0) ?_
      refine RW.want rfl ?_
      refine OpK.move ?_
      refine RW.want rfl ?_
      refine OpK.fieldAddr (off := 1) (by kernel_rfl) rfl ?_
      refine RW.want rfl ?_
      refine OpK.load (by kernel_rfl) rfl (hb2.cell 1) ?_
      refine RW.want rfl ?_
      refine OpK.cmp (r := true) (by rw [← decide_eq_true h1]; rfl) rfl rfl ?_
      refine RW.want rfl ?_
      refine OpK.move ?_
      refine RW.want rfl ?_
      refine OpK.move ?_
      refine RW.want rfl ?_
      refine OpK.fieldAddr (off := 1) (by kernel_rfl) rfl ?_
      refine RW.want rfl ?_
      refine OpK.load (by kernel_rfl) rfl (hb2.cell 1) ?_
      refine RW.want rfl ?_
      refine OpK.cmp (r := false) (by rw [← decide_eq_false h2]; rfl) rfl rfl ?_
      refine RW.want rfl ?_
      refine OpK.pick rfl ?_
      refine RW.want rfl ?_
      refine OpK.loadA (n := 5) (by kernel_rfl) rfl hbt2.ata hone.2 ?_
      refine RW.want rfl ?_
      refine OpK.asCall rfl call14 rfl ((part_all ver false d flds hpl w2 B dd vF t cs (by omega) (hF.keep hk2) (hT.keep hk2) hl).mono ?_)
      rintro en w3 ⟨d3, he3, hg3⟩
      refine ⟨_, he3, ?_⟩
      refine RW.want rfl ?_
      refine OpK.assign ?_
      refine RW.z ?_
      show CWL _ _ _ _ _ _
      refine CWL.ret ?_
      exact ⟨_, rfl, hg3.pre hcw2⟩
  · have e : flexB flex ver = false := by unfold flexB; rw [decide_eq_false h1]; rfl
    rw [e] at hl ⊢
    refine CWL.cons (CW.region ?_)
    refine RW.want rfl ?_
    refine OpK.fieldAddr (off := 0) (by kernel_rfl) rfl ?_
    refine RW.want rfl ?_
    refine OpK.load (by kernel_rfl) rfl (hb2.cell 0) ?_
    refine RW.want rfl ?_
    refine OpK.move ?_
    refine RW.want rfl ?_
    refine OpK.fieldAddr (off := 1) (by kernel_rfl) rfl ?_
    refine RW.want rfl ?_
    refine OpK.load (by kernel_rfl) rfl (hb2.cell 1) ?_
    refine RW.want rfl ?_
    refine OpK.cmp (r := false) (by rw [← decide_eq_false h1]; rfl) rfl rfl ?_
    refine RW.want rfl ?_
    refine OpK.move ?_
    refine RW.skip rfl ?_
    refine RW.skip rfl ?_
    refine RW.skip rfl ?_
    refine RW.skip rfl ?_
    refine RW.want rfl ?_
    refine OpK.pick rfl ?_
    refine RW.want rfl ?_
    refine OpK.loadA (n := 5) (by kernel_rfl) rfl hbt2.ata hone.2 ?_
    refine RW.want rfl ?_
    refine OpK.asCall rfl call14 rfl ((part_all ver false d flds hpl w2 B dd vF t cs (by omega) (hF.keep hk2) (hT.keep hk2) hl).mono ?_)
    rintro en w3 ⟨d3, he3, hg3⟩
    refine ⟨_, he3, ?_⟩
    refine RW.want rfl ?_
    refine OpK.assign ?_
    refine RW.z ?_
    show CWL _ _ _ _ _ _
    refine CWL.ret ?_
    exact ⟨_, rfl, hg3.pre hcw2⟩

theorem call19 : Callable Tryz.prog 19 := ⟨Tryz.f19, Tryz.func19, by kernel_rfl, by kernel_rfl⟩
set_option maxHeartbeats 4000000 in
theorem fits4 (w : World) (k : Int) (a : Option Addr) (n c : Nat) : Calls Tryz.prog 19 #[.agg #[.int .u32 k, .slice a n c]] w fun en w' => ∃ x, en = .returned x ∧ (∃ b, x = .bool b) ∧ Ch (fun _ => False) w w' := by
  refine Calls.of_CW Tryz.func19 rfl (by decide +kernel) (Nat.le_of_ble_eq_true (by kernel_rfl)) (CW.of_flat ?_)
  simp only [flat, List.cons_append, List.nil_append, List.append_nil]
  refine CWL.reg (ops := [(.box 55 (.tmp 0), 0), (.assign (.const (Go.Value.bool false)), 4)]) (b := [(2, 3), (1, 1)]) (by kernel_rfl) ?_
  refine OpK.boxG (cs := [.int .u32 k, .slice a n c]) rfl fun w1 g hb1 hc1 hg1 hs1 => ?_
  refine OpK.assign ?_
  show CWL _ _ _ _ _ _
  refine CWL.reg (ops := [(.fieldAddr 55 (.tmp 2) 1, 0), (.load 22 (.tmp 1), 22), (.call ⟨.builtin .len, #[.tmp 3], #[22]⟩, 3), (.binOp .gtr 3 (.tmp 5) (.const (Go.Value.int Go.IntKind.i64 2147483647)) 3, 4)]) (b := [(6, 7), (5, 5), (4, 3), (3, 1)]) (by kernel_rfl) ?_
  refine OpK.fieldAddr (off := 1) (by kernel_rfl) rfl ?_
  refine OpK.load (by kernel_rfl) rfl (hb1.cell 1) ?_
  refine OpK.len (e := 5) (by kernel_rfl) rfl ?_
  refine OpK.cmp rfl rfl rfl ?_
  show CWL _ _ _ _ _ _
  by_cases h : (n : Int) > 2147483647
  · refine CWL.condT (congrArg Value.bool (decide_eq_true h)) ?_
    simp only [flat, List.cons_append, List.nil_append, List.append_nil]
    refine CWL.reg (ops := [(.assign (.const (Go.Value.bool false)), 4)]) (b := [(2, 1)]) (by kernel_rfl) ?_
    refine OpK.assign ?_
    show CWL _ _ _ _ _ _
    refine CWL.ret ?_
    exact ⟨_, rfl, ⟨_, rfl⟩, hc1⟩
  · refine CWL.condF (congrArg Value.bool (decide_eq_false h)) ?_
    simp only [flat, List.cons_append, List.nil_append, List.append_nil]
    refine CWL.reg (ops := [(.assign (.const (Go.Value.bool true)), 4)]) (b := [(2, 1)]) (by kernel_rfl) ?_
    refine OpK.assign ?_
    show CWL _ _ _ _ _ _
    refine CWL.ret ?_
    exact ⟨_, rfl, ⟨_, rfl⟩, hc1⟩

theorem call11 : Callable Tryz.prog 11 := ⟨Tryz.f11, Tryz.func11, by kernel_rfl, by kernel_rfl⟩
set_option maxHeartbeats 4000000 in
theorem fits3 (w : World) (B : Nat) (hB : B ≤ w.heap.size) (u : List (UInt32 × List UInt8)) (vu : Value) (hu : TgIs w B u vu) : Calls Tryz.prog 11 #[vu] w fun en w' => ∃ x, en = .returned x ∧ (∃ b, x = .bool b) ∧ Ch (fun _ => False) w w' := by
  obtain ⟨a, c, rfl, h2, h3, h4, h5⟩ := hu
  refine Calls.of_CW Tryz.func11 rfl (by decide +kernel) (Nat.le_of_ble_eq_true (by kernel_rfl)) (CW.of_flat ?_)
  simp only [flat, List.cons_append, List.nil_append, List.append_nil]
  refine CWL.reg (ops := [(.assign (.const (Go.Value.bool false)), 4)]) (b := [(2, 1)]) (by kernel_rfl) ?_
  refine OpK.assign ?_
  show CWL _ _ _ _ _ _
  refine CWL.reg (ops := [(.call ⟨.builtin .len, #[.tmp 0], #[24]⟩, 3), (.binOp .gtr 3 (.tmp 1) (.const (Go.Value.int Go.IntKind.i64 2147483647)) 3, 4)]) (b := [(7, 3), (6, 1), (5, 0)]) (by kernel_rfl) ?_
  refine OpK.len (e := 55) (by kernel_rfl) rfl ?_
  refine OpK.cmp rfl rfl rfl ?_
  show CWL _ _ _ _ _ _
  by_cases h : (u.length : Int) > 2147483647
  · refine CWL.condT (congrArg Value.bool (decide_eq_true h)) ?_
    simp only [flat, List.cons_append, List.nil_append, List.append_nil]
    refine CWL.reg (ops := [(.assign (.const (Go.Value.bool false)), 4)]) (b := [(2, 1)]) (by kernel_rfl) ?_
    refine OpK.assign ?_
    show CWL _ _ _ _ _ _
    refine CWL.ret ?_
    exact ⟨_, rfl, ⟨_, rfl⟩, Ch.refl _ _⟩
  refine CWL.condF (congrArg Value.bool (decide_eq_false h)) ?_
  simp only [flat, List.cons_append, List.nil_append, List.append_nil]
  refine CWL.reg (ops := [(.call ⟨.builtin .len, #[.tmp 0], #[24]⟩, 3), (.move (.const (Go.Value.int Go.IntKind.i64 0)), 3)]) (b := [(10, 3), (9, 1), (8, 0)]) (by kernel_rfl) ?_
  refine OpK.len (e := 55) (by kernel_rfl) rfl ?_
  refine OpK.move ?_
  show CWL _ _ _ _ _ _
  refine CWL.cons (CW.block (CW.loop (fun m σ wl => ∃ i, i + m = u.length ∧ σ 8 = .slice a u.length c ∧ σ 9 = .int .i64 (u.length : Int) ∧ σ 10 = .int .i64 (i : Int) ∧ Ch (fun _ => False) w wl) u.length
    ⟨0, by simp, rfl, rfl, rfl, Ch.refl _ _⟩ ?_))
  rintro m σ wl ⟨i, him, e8, e9, e10, hcl⟩
  refine CW.pin [(8, .slice a u.length c), (9, .int .i64 (u.length : Int)), (10, .int .i64 (i : Int))] (all_pin e8 (all_pin e9 (all_pin e10 (fun _ h => by cases h)))) fun σ => ?_
  simp only [flat, List.cons_append, List.nil_append, List.append_nil]
  refine CWL.reg (ops := [(.binOp .lss 3 (.tmp 20) (.tmp 18) 3, 0)]) (b := [(11, 1)]) (by kernel_rfl) ?_
  refine OpK.cmp rfl rfl rfl ?_
  show CWL _ _ _ _ _ _
  cases m with
  | zero =>
    refine CWL.condF (congrArg Value.bool (decide_eq_false (by omega))) ?_
    simp only [flat, List.cons_append, List.nil_append, List.append_nil]
    refine CWL.cons (CW.exit ?_)
    show CWL _ _ _ _ _ _
    refine CWL.reg (ops := [(.assign (.const (Go.Value.bool true)), 4)]) (b := [(2, 1)]) (by kernel_rfl) ?_
    refine OpK.assign ?_
    show CWL _ _ _ _ _ _
    refine CWL.ret ?_
    exact ⟨_, rfl, ⟨_, rfl⟩, hcl⟩
  | succ m =>
    refine CWL.condT (congrArg Value.bool (decide_eq_true (by omega))) ?_
    simp only [flat, List.cons_append, List.nil_append, List.append_nil]
    refine CWL.block ?_
    simp only [flat, List.cons_append, List.nil_append, List.append_nil]
    obtain ⟨x, hx⟩ : ∃ x, u[i]? = some x := ⟨_, List.getElem?_eq_getElem (by omega)⟩
    cases a with
    | none => rw [h4 rfl] at hx; simp at hx
    | some a =>
    obtain ⟨hab, h6⟩ := h5 a rfl
    obtain ⟨vv, hk0, hk1, hvv⟩ := h6 i x hx
    have hab := hab (nil_of_get hx)
    have hat := (two_at hk0 hk1).ch (by rw [add_block]; omega) hcl
    obtain ⟨va, vc, rfl, _⟩ := hvv
    refine CWL.reg (ops := [(.indexAddr 24 (.tmp 16) (.tmp 20), 0), (.load 55 (.tmp 1), 55), (.alloc 55, 0), (.store 55 (.tmp 5) (.tmp 3), 0)]) (b := [(4, 5), (13, 3), (12, 1)]) (by kernel_rfl) ?_
    refine OpK.indexAddr (s := 2) (by kernel_rfl) rfl rfl (by omega) ?_
    refine OpK.loadA (n := 2) (by kernel_rfl) rfl (hat) rfl ?_
    refine OpK.allocZ zeroG (by kernel_rfl) fun w2 r hr hc2 hr1 hs2 => ?_
    refine OpK.storeG (cs := zeroG) (us := [.int .u32 (x.1.toNat : Int), .slice va x.2.length vc]) (by kernel_rfl) rfl rfl (by intro q hq; simp only [List.mem_cons, List.not_mem_nil, or_false] at hq; rcases hq with rfl | rfl <;> rfl) hr rfl fun w3 hbt3 hc3 hs3 => ?_
    show CWL _ _ _ _ _ _
    have hcl3 : Ch (fun _ => False) w w3 := (hcl.trans' hc2).trans hc3 fun k hk e => by have := hcl.size; omega
    refine CWL.reg (ops := [(.load 55 (.tmp 8), 55), (.call ⟨.value (.func 19), #[.tmp 1], #[55]⟩, 4), (.unOp .not 4 (.tmp 3), 4)]) (b := [(16, 5), (15, 3), (14, 1)]) (by kernel_rfl) ?_
    refine OpK.loadA (n := 2) (by kernel_rfl) rfl (hbt3.ata) rfl ?_
    refine OpK.asCall rfl call19 rfl ((fits4 w3 _ va x.2.length vc).mono ?_)
    rintro en w4 ⟨x4, he4, ⟨b, rfl⟩, hc4⟩
    refine ⟨_, he4, ?_⟩
    refine OpK.not rfl ?_
    show CWL _ _ _ _ _ _
    cases b with
    | true =>
      refine CWL.condF rfl ?_
      simp only [flat, List.cons_append, List.nil_append, List.append_nil]
      try refine CWL.nil_ (P := Tryz.prog) (n := 0) ?_
      show CWL _ _ _ _ _ _
      have hi1 := i64_succ i (by simp only [maxLen] at h3; omega)
      refine CWL.reg (ops := [(.binOp .add 3 (.tmp 20) (.const (Go.Value.int Go.IntKind.i64 1)) 3, 3)]) (b := [(10, 1), (17, 1)]) (by kernel_rfl) ?_
      refine OpK.arith (r := ((i + 1 : Nat) : Int)) (by rw [← hi1]; rfl) rfl rfl ?_
      show CWL _ _ _ _ _ _
      try refine CWL.nil_ (P := Tryz.prog) (n := 0) ?_
      exact ⟨m, Nat.lt_succ_self m, i + 1, by omega, rfl, rfl, rfl, hcl3.trans' hc4⟩
    | false =>
      refine CWL.condT rfl ?_
      simp only [flat, List.cons_append, List.nil_append, List.append_nil]
      refine CWL.reg (ops := [(.assign (.const (Go.Value.bool false)), 4)]) (b := [(2, 1)]) (by kernel_rfl) ?_
      refine OpK.assign ?_
      show CWL _ _ _ _ _ _
      refine CWL.ret ?_
      exact ⟨_, rfl, ⟨_, rfl⟩, hcl3.trans' hc4⟩

theorem call4 : Callable Tryz.prog 4 := ⟨Tryz.f4, Tryz.func4, by kernel_rfl, by kernel_rfl⟩
set_option maxHeartbeats 4000000 in
theorem fits2 (w : World) (B : Nat) (hB : B ≤ w.heap.size) (t : Tr) (cs : List Value) (hT : TrIs w B t cs) : Calls Tryz.prog 4 #[.agg cs.toArray] w fun en w' => ∃ x, en = .returned x ∧ (∃ b, x = .bool b) ∧ Ch (fun _ => False) w w' := by
  cases hT with
  | @mk n s tn l u vs vl vu cells hn hs hl hc hu =>
  have hs' := hs
  have hl' := hl
  obtain ⟨sa, sc, rfl, _⟩ := hs'
  obtain ⟨la, lc, rfl, _⟩ := hl'
  refine Calls.of_CW Tryz.func4 rfl (by decide +kernel) (Nat.le_of_ble_eq_true (by kernel_rfl)) (CW.of_flat ?_)
  simp only [flat, List.cons_append, List.nil_append, List.append_nil]
  refine CWL.reg (ops := [(.box 26 (.tmp 0), 0), (.assign (.const (Go.Value.bool false)), 4)]) (b := [(2, 3), (1, 1)]) (by kernel_rfl) ?_
  refine OpK.boxG (cs := [.int .i64 n, .slice sa s.length sc, .bool tn, .slice la l.length lc, vu]) rfl fun w1 g hb1 hc1 hg1 hs1 => ?_
  refine OpK.assign ?_
  show CWL _ _ _ _ _ _
  refine CWL.reg (ops := [(.fieldAddr 26 (.tmp 2) 1, 0), (.load 22 (.tmp 1), 22), (.call ⟨.builtin .len, #[.tmp 3], #[22]⟩, 3), (.binOp .gtr 3 (.tmp 5) (.const (Go.Value.int Go.IntKind.i64 2147483647)) 3, 4)]) (b := [(6, 7), (5, 5), (4, 3), (3, 1)]) (by kernel_rfl) ?_
  refine OpK.fieldAddr (off := 1) (by kernel_rfl) rfl ?_
  refine OpK.load (by kernel_rfl) rfl (hb1.cell 1) ?_
  refine OpK.len (e := 5) (by kernel_rfl) rfl ?_
  refine OpK.cmp rfl rfl rfl ?_
  show CWL _ _ _ _ _ _
  by_cases h1 : (s.length : Int) > 2147483647
  · refine CWL.condT (congrArg Value.bool (decide_eq_true h1)) ?_
    simp only [flat, List.cons_append, List.nil_append, List.append_nil]
    refine CWL.reg (ops := [(.assign (.const (Go.Value.bool false)), 4)]) (b := [(2, 1)]) (by kernel_rfl) ?_
    refine OpK.assign ?_
    show CWL _ _ _ _ _ _
    refine CWL.ret ?_
    exact ⟨_, rfl, ⟨_, rfl⟩, hc1⟩
  refine CWL.condF (congrArg Value.bool (decide_eq_false h1)) ?_
  simp only [flat, List.cons_append, List.nil_append, List.append_nil]
  refine CWL.reg (ops := [(.fieldAddr 26 (.tmp 2) 3, 0), (.load 23 (.tmp 1), 23), (.call ⟨.builtin .len, #[.tmp 3], #[23]⟩, 3), (.binOp .gtr 3 (.tmp 5) (.const (Go.Value.int Go.IntKind.i64 2147483647)) 3, 4)]) (b := [(10, 7), (9, 5), (8, 3), (7, 1)]) (by kernel_rfl) ?_
  refine OpK.fieldAddr (off := 3) (by kernel_rfl) rfl ?_
  refine OpK.load (by kernel_rfl) rfl (hb1.cell 3) ?_
  refine OpK.len (e := 26) (by kernel_rfl) rfl ?_
  refine OpK.cmp rfl rfl rfl ?_
  show CWL _ _ _ _ _ _
  by_cases h2 : (l.length : Int) > 2147483647
  · refine CWL.condT (congrArg Value.bool (decide_eq_true h2)) ?_
    simp only [flat, List.cons_append, List.nil_append, List.append_nil]
    refine CWL.reg (ops := [(.assign (.const (Go.Value.bool false)), 4)]) (b := [(2, 1)]) (by kernel_rfl) ?_
    refine OpK.assign ?_
    show CWL _ _ _ _ _ _
    refine CWL.ret ?_
    exact ⟨_, rfl, ⟨_, rfl⟩, hc1⟩
  refine CWL.condF (congrArg Value.bool (decide_eq_false h2)) ?_
  simp only [flat, List.cons_append, List.nil_append, List.append_nil]
  refine CWL.reg (ops := [(.fieldAddr 26 (.tmp 2) 4, 0), (.load 24 (.tmp 1), 24), (.call ⟨.value (.func 11), #[.tmp 3], #[24]⟩, 4), (.unOp .not 4 (.tmp 5), 4)]) (b := [(14, 7), (13, 5), (12, 3), (11, 1)]) (by kernel_rfl) ?_
  refine OpK.fieldAddr (off := 4) (by kernel_rfl) rfl ?_
  refine OpK.load (by kernel_rfl) rfl (hb1.cell 4) ?_
  refine OpK.asCall rfl call11 rfl ((fits3 w1 B (by omega) u vu (hu.keep fun k hk => hc1.block k (by omega) fun h => h)).mono ?_)
  rintro en w2 ⟨x2, he2, ⟨b, rfl⟩, hc2⟩
  refine ⟨_, he2, ?_⟩
  refine OpK.not rfl ?_
  show CWL _ _ _ _ _ _
  cases b with
  | true =>
    refine CWL.condF rfl ?_
    simp only [flat, List.cons_append, List.nil_append, List.append_nil]
    refine CWL.reg (ops := [(.assign (.const (Go.Value.bool true)), 4)]) (b := [(2, 1)]) (by kernel_rfl) ?_
    refine OpK.assign ?_
    show CWL _ _ _ _ _ _
    refine CWL.ret ?_
    exact ⟨_, rfl, ⟨_, rfl⟩, hc1.trans' hc2⟩
  | false =>
    refine CWL.condT rfl ?_
    simp only [flat, List.cons_append, List.nil_append, List.append_nil]
    refine CWL.reg (ops := [(.assign (.const (Go.Value.bool false)), 4)]) (b := [(2, 1)]) (by kernel_rfl) ?_
    refine OpK.assign ?_
    show CWL _ _ _ _ _ _
    refine CWL.ret ?_
    exact ⟨_, rfl, ⟨_, rfl⟩, hc1.trans' hc2⟩
end Go.Proofs.YthcpchmmpnakaaaGreatDoor.Sp
