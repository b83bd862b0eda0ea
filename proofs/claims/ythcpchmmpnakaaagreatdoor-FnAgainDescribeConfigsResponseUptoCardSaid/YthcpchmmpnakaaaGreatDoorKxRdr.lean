/- What the reading functions of the package read. -/
import Derived.Test.YthcpchmmpnakaaaGreatDoorKxAgain2
import Derived.Test.YthcpchmmpnakaaaGreatDoorProg
namespace Go.Proofs.YthcpchmmpnakaaaGreatDoor.Rd
open Go.Kx Go.RowKit Go.Proofs
set_option maxRecDepth 100000
set_option linter.unusedSimpArgs false
set_option linter.unusedVariables false

theorem mixed : Tryz.prog.follows .mixedOrders = true := by kernel_rfl

theorem call78 : Callable Tryz.prog 78 := ⟨Tryz.f78, Tryz.func78, by kernel_rfl, by kernel_rfl⟩
set_option maxHeartbeats 4000000 in
theorem be78 (w : World) (x : Value) (a : Addr) (n c : Nat) (b0 b1 : UInt8) (l : List UInt8) (hO : Oct w a (b0 :: b1 :: l)) (hn : n = (b0 :: b1 :: l).length) (hlt : a.block < w.heap.size) :
    Calls Tryz.prog 78 #[x, .slice (some a) n c] w fun en w' => ∃ v, en = .returned v ∧ v = .int .u16 ((unbe [b0, b1] : Nat) : Int) ∧ Ch (fun _ => False) w w' := by
  refine Calls.of_CW Tryz.func78 rfl (by decide +kernel) (Nat.le_of_ble_eq_true (by kernel_rfl)) (CW.of_flat ?_)
  simp only [flat, List.cons_append, List.nil_append, List.append_nil]
  have hc := Ch.alloc (fun _ => False) w (.cells x.cells 120)
  have hO0 : ∀ w', Ch (fun _ => False) (w.alloc (.cells x.cells 120)) w' → w'.cell? (a.add 0) = some (bv b0) := fun w' h => hO.mono hlt (hc.trans' h) 0 b0 rfl
  have hO1 : ∀ w', Ch (fun _ => False) (w.alloc (.cells x.cells 120)) w' → w'.cell? (a.add 1) = some (bv b1) := fun w' h => hO.mono hlt (hc.trans' h) 1 b1 rfl
  refine CWL.reg (ops := [(.box 120 (.tmp 0), 0), (.assign (.const (Go.Value.int Go.IntKind.u16 0)), 114)]) (b := [(4, 3), (2, 1)]) (by kernel_rfl) ?_
  refine OpK.box ?_
  refine OpK.assign ?_
  refine CWL.reg (ops := [(.indexAddr 22 (.tmp 2) (.const (Go.Value.int Go.IntKind.i64 1)), 0), (.load 5 (.tmp 1), 5)]) (b := [(7, 3), (6, 1), (5, 2)]) (by kernel_rfl) ?_
  refine OpK.indexAddr (s := 1) (j := 1) (by kernel_rfl) rfl rfl (by rw [hn]; simp; try omega) ?_
  refine OpK.load (by kernel_rfl) rfl (hO1 _ (Ch.refl _ _)) ?_
  refine CWL.regD0 mixed [(0, true), (1, true), (2, true), (3, true), (4, true), (5, true), (6, true), (7, true), (8, true), (9, true), (10, true)] (by decide +kernel) ?_
  refine HW.early rfl rfl Yi.move ?_
  refine HW.early rfl rfl (Yi.indexAddr (s := 1) (j := 1) (by kernel_rfl) rfl rfl (by rw [hn]; simp; try omega)) ?_
  refine HW.early rfl rfl (Yi.load (by kernel_rfl) rfl hO1) ?_
  refine HW.early rfl rfl (Yi.convInt (k' := .u16) (by kernel_rfl) (by kernel_rfl) rfl) ?_
  refine HW.early rfl rfl Yi.move ?_
  refine HW.early rfl rfl (Yi.indexAddr (s := 1) (j := 0) (by kernel_rfl) rfl rfl (by rw [hn]; simp; try omega)) ?_
  refine HW.early rfl rfl (Yi.load (by kernel_rfl) rfl hO0) ?_
  refine HW.early rfl rfl (Yi.convInt (k' := .u16) (by kernel_rfl) (by kernel_rfl) rfl) ?_
  refine HW.early rfl rfl (Yi.shl rfl rfl (by decide)) ?_
  refine HW.early rfl rfl (Yi.or rfl rfl) ?_
  refine HW.early rfl rfl Yi.assign ?_
  refine HW.done ?_
  refine CWL.ret ?_
  refine ⟨_, rfl, ?_, hc.trans' (Ch.drew _ _)⟩
  have e0 := oct_conv .u16 rfl (by decide) b1
  have e1 := oct_or .u16 rfl (by decide) (b1.toNat) b0 8 b1.toNat_lt (by decide)
  refine congrArg (Value.int .u16) (Eq.trans (Eq.trans (congrArg (fun z => bits .or .u16 z _) e0) e1.1) ?_)
  refine congrArg (fun n : Nat => (n : Int)) ?_
  simp only [unbe, List.foldl_cons, List.foldl_nil]
  omega

theorem call76 : Callable Tryz.prog 76 := ⟨Tryz.f76, Tryz.func76, by kernel_rfl, by kernel_rfl⟩
set_option maxHeartbeats 4000000 in
theorem be76 (w : World) (x : Value) (a : Addr) (n c : Nat) (b0 b1 b2 b3 : UInt8) (l : List UInt8) (hO : Oct w a (b0 :: b1 :: b2 :: b3 :: l)) (hn : n = (b0 :: b1 :: b2 :: b3 :: l).length) (hlt : a.block < w.heap.size) :
    Calls Tryz.prog 76 #[x, .slice (some a) n c] w fun en w' => ∃ v, en = .returned v ∧ v = .int .u32 ((unbe [b0, b1, b2, b3] : Nat) : Int) ∧ Ch (fun _ => False) w w' := by
  refine Calls.of_CW Tryz.func76 rfl (by decide +kernel) (Nat.le_of_ble_eq_true (by kernel_rfl)) (CW.of_flat ?_)
  simp only [flat, List.cons_append, List.nil_append, List.append_nil]
  have hc := Ch.alloc (fun _ => False) w (.cells x.cells 120)
  have hO0 : ∀ w', Ch (fun _ => False) (w.alloc (.cells x.cells 120)) w' → w'.cell? (a.add 0) = some (bv b0) := fun w' h => hO.mono hlt (hc.trans' h) 0 b0 rfl
  have hO1 : ∀ w', Ch (fun _ => False) (w.alloc (.cells x.cells 120)) w' → w'.cell? (a.add 1) = some (bv b1) := fun w' h => hO.mono hlt (hc.trans' h) 1 b1 rfl
  have hO2 : ∀ w', Ch (fun _ => False) (w.alloc (.cells x.cells 120)) w' → w'.cell? (a.add 2) = some (bv b2) := fun w' h => hO.mono hlt (hc.trans' h) 2 b2 rfl
  have hO3 : ∀ w', Ch (fun _ => False) (w.alloc (.cells x.cells 120)) w' → w'.cell? (a.add 3) = some (bv b3) := fun w' h => hO.mono hlt (hc.trans' h) 3 b3 rfl
  refine CWL.reg (ops := [(.box 120 (.tmp 0), 0), (.assign (.const (Go.Value.int Go.IntKind.u32 0)), 53)]) (b := [(4, 3), (2, 1)]) (by kernel_rfl) ?_
  refine OpK.box ?_
  refine OpK.assign ?_
  refine CWL.reg (ops := [(.indexAddr 22 (.tmp 2) (.const (Go.Value.int Go.IntKind.i64 3)), 0), (.load 5 (.tmp 1), 5)]) (b := [(7, 3), (6, 1), (5, 2)]) (by kernel_rfl) ?_
  refine OpK.indexAddr (s := 1) (j := 3) (by kernel_rfl) rfl rfl (by rw [hn]; simp; try omega) ?_
  refine OpK.load (by kernel_rfl) rfl (hO3 _ (Ch.refl _ _)) ?_
  refine CWL.regD0 mixed [(0, true), (1, true), (2, true), (3, true), (4, true), (5, true), (6, true), (7, true), (8, true), (9, true), (10, true), (11, true), (12, true), (13, true), (14, true), (15, true), (16, true), (17, true), (18, true), (19, true), (20, true), (21, true), (22, true)] (by decide +kernel) ?_
  refine HW.early rfl rfl Yi.move ?_
  refine HW.early rfl rfl (Yi.indexAddr (s := 1) (j := 3) (by kernel_rfl) rfl rfl (by rw [hn]; simp; try omega)) ?_
  refine HW.early rfl rfl (Yi.load (by kernel_rfl) rfl hO3) ?_
  refine HW.early rfl rfl (Yi.convInt (k' := .u32) (by kernel_rfl) (by kernel_rfl) rfl) ?_
  refine HW.early rfl rfl Yi.move ?_
  refine HW.early rfl rfl (Yi.indexAddr (s := 1) (j := 2) (by kernel_rfl) rfl rfl (by rw [hn]; simp; try omega)) ?_
  refine HW.early rfl rfl (Yi.load (by kernel_rfl) rfl hO2) ?_
  refine HW.early rfl rfl (Yi.convInt (k' := .u32) (by kernel_rfl) (by kernel_rfl) rfl) ?_
  refine HW.early rfl rfl (Yi.shl rfl rfl (by decide)) ?_
  refine HW.early rfl rfl (Yi.or rfl rfl) ?_
  refine HW.early rfl rfl Yi.move ?_
  refine HW.early rfl rfl (Yi.indexAddr (s := 1) (j := 1) (by kernel_rfl) rfl rfl (by rw [hn]; simp; try omega)) ?_
  refine HW.early rfl rfl (Yi.load (by kernel_rfl) rfl hO1) ?_
  refine HW.early rfl rfl (Yi.convInt (k' := .u32) (by kernel_rfl) (by kernel_rfl) rfl) ?_
  refine HW.early rfl rfl (Yi.shl rfl rfl (by decide)) ?_
  refine HW.early rfl rfl (Yi.or rfl rfl) ?_
  refine HW.early rfl rfl Yi.move ?_
  refine HW.early rfl rfl (Yi.indexAddr (s := 1) (j := 0) (by kernel_rfl) rfl rfl (by rw [hn]; simp; try omega)) ?_
  refine HW.early rfl rfl (Yi.load (by kernel_rfl) rfl hO0) ?_
  refine HW.early rfl rfl (Yi.convInt (k' := .u32) (by kernel_rfl) (by kernel_rfl) rfl) ?_
  refine HW.early rfl rfl (Yi.shl rfl rfl (by decide)) ?_
  refine HW.early rfl rfl (Yi.or rfl rfl) ?_
  refine HW.early rfl rfl Yi.assign ?_
  refine HW.done ?_
  refine CWL.ret ?_
  refine ⟨_, rfl, ?_, hc.trans' (Ch.drew _ _)⟩
  have e0 := oct_conv .u32 rfl (by decide) b3
  have e1 := oct_or .u32 rfl (by decide) (b3.toNat) b2 8 b3.toNat_lt (by decide)
  have e2 := oct_or .u32 rfl (by decide) (b3.toNat + b2.toNat * 2 ^ 8) b1 16 e1.2 (by decide)
  have e3 := oct_or .u32 rfl (by decide) (b3.toNat + b2.toNat * 2 ^ 8 + b1.toNat * 2 ^ 16) b0 24 e2.2 (by decide)
  refine congrArg (Value.int .u32) (Eq.trans (Eq.trans (congrArg (fun z => bits .or .u32 z _) (Eq.trans (congrArg (fun z => bits .or .u32 z _) (Eq.trans (congrArg (fun z => bits .or .u32 z _) e0) e1.1)) e2.1)) e3.1) ?_)
  refine congrArg (fun n : Nat => (n : Int)) ?_
  simp only [unbe, List.foldl_cons, List.foldl_nil]
  omega

theorem call57 : Callable Tryz.prog 57 := ⟨Tryz.f57, Tryz.func57, by kernel_rfl, by kernel_rfl⟩
set_option maxHeartbeats 4000000 in
theorem r57 (w : World) (S : Nat → Prop) (hS : ∀ k, S k → k < w.heap.size) (g : Nat) (t : TypeId) (s : Rs) (h : RdIs w S g t s) :
    Calls Tryz.prog 57 #[.pointer (some ⟨g, 0, none⟩)] w fun en w' => ∃ v, en = .returned v ∧ v = .int .i16 (rdInt .i16 2 s).1 ∧ RdIs w' S g t (rdInt .i16 2 s).2 ∧ Ch (fun k => k = g) w w' ∧ ((rdInt .i16 2 s).2.bad = false → NN w' g) := by
  obtain ⟨v, hb, hs, hg⟩ := id h
  obtain ⟨a, c, rfl, hlc⟩ := hs.form
  have hc0 : w.cell? ((⟨g, 0, none⟩ : Addr).add 0) = some (.slice a s.rest.length c) := hb.cell 0
  have hgl := hb.lt
  by_cases hlen : s.rest.length < 2
  · have hr : rdInt .i16 2 s = (0, Rs.fail) := by unfold rdInt rdN; rw [if_pos hlen]
    refine Calls.of_CW Tryz.func57 rfl (by decide +kernel) (Nat.le_of_ble_eq_true (by kernel_rfl)) (CW.of_flat ?_)
    simp only [flat, List.cons_append, List.nil_append, List.append_nil]
    refine CWL.reg (ops := [(.assign (.const (Go.Value.int Go.IntKind.i16 0)), 40)]) (b := [(2, 1)]) (by kernel_rfl) ?_
    refine OpK.assign ?_
    refine CWL.reg (ops := [(.nilCheck (.tmp 0), 0), (.fieldAddr 104 (.tmp 1) 0, 0), (.load 22 (.tmp 3), 22), (.call ⟨.builtin .len, #[.tmp 5], #[22]⟩, 3), (.binOp .lss 3 (.tmp 7) (.const (Go.Value.int Go.IntKind.i64 2)) 3, 4)]) (b := [(9, 9), (8, 7), (7, 5), (6, 3), (5, 1), (4, 0)]) (by kernel_rfl) ?_
    refine OpK.nilCheck rfl ?_
    refine OpK.fieldAddr (off := 0) (by kernel_rfl) rfl ?_
    refine OpK.load (by kernel_rfl) rfl hc0 ?_
    refine OpK.len (e := 5) (by kernel_rfl) rfl ?_
    refine OpK.cmp rfl rfl rfl ?_
    refine CWL.condT (congrArg Value.bool (decide_eq_true (by omega))) ?_
    simp only [flat, List.cons_append, List.nil_append, List.append_nil]
    refine CWL.reg (ops := [(.nilCheck (.tmp 0), 0), (.fieldAddr 104 (.tmp 1) 1, 0), (.store 4 (.tmp 3) (.const (Go.Value.bool true)), 0)]) (b := [(12, 3), (11, 1), (10, 0)]) (by kernel_rfl) ?_
    refine OpK.nilCheck rfl ?_
    refine OpK.fieldAddr (off := 1) (by kernel_rfl) rfl ?_
    refine OpK.store (by kernel_rfl) rfl rfl rfl (show (w.cell? ⟨g, 1, none⟩).isSome = true by rw [hb.cell 1]; rfl) (hb.free 1) ?_
    have hb1 := hb.set 1 (.bool true)
    refine CWL.reg (ops := [(.nilCheck (.tmp 0), 0), (.fieldAddr 104 (.tmp 1) 0, 0), (.store 22 (.tmp 3) (.const (Go.Value.slice none 0 0)), 0)]) (b := [(15, 3), (14, 1), (13, 0)]) (by kernel_rfl) ?_
    refine OpK.nilCheck rfl ?_
    refine OpK.fieldAddr (off := 0) (by kernel_rfl) rfl ?_
    refine OpK.store (by kernel_rfl) rfl rfl rfl (show ((w.setCell ⟨g, 1, none⟩ (.bool true)).cell? ⟨g, 0, none⟩).isSome = true by rw [hb1.cell 0]; rfl) (hb1.free 0) ?_
    refine CWL.reg (ops := [(.assign (.const (Go.Value.int Go.IntKind.i16 0)), 40)]) (b := [(2, 1)]) (by kernel_rfl) ?_
    refine OpK.assign ?_
    refine CWL.ret ?_
    rw [hr]
    exact ⟨_, rfl, rfl, h.fail.1, h.fail.2, fun h => by cases h⟩
  · obtain ⟨b0, b1, r, hrest⟩ := octets2 hlen
    obtain ⟨a', rfl, _, hSa, hO⟩ := hs.some_ (by rw [hrest]; simp)
    have hr : rdInt .i16 2 s = (IntKind.i16.wrap ((unbe [b0, b1] : Nat) : Int), ⟨s.rest.drop 2, s.bad⟩) := by
      unfold rdInt rdN
      rw [if_neg hlen, hrest]
      simp
    have hld : ∀ w', Ch (fun _ => False) w w' → w'.cell? ((⟨g, 0, none⟩ : Addr).add 0) = some (.slice (some a') s.rest.length c) := fun w' h' => (ch_cell h' hgl (fun h => h) rfl).trans hc0
    refine Calls.of_CW Tryz.func57 rfl (by decide +kernel) (Nat.le_of_ble_eq_true (by kernel_rfl)) (CW.of_flat ?_)
    simp only [flat, List.cons_append, List.nil_append, List.append_nil]
    refine CWL.reg (ops := [(.assign (.const (Go.Value.int Go.IntKind.i16 0)), 40)]) (b := [(2, 1)]) (by kernel_rfl) ?_
    refine OpK.assign ?_
    refine CWL.reg (ops := [(.nilCheck (.tmp 0), 0), (.fieldAddr 104 (.tmp 1) 0, 0), (.load 22 (.tmp 3), 22), (.call ⟨.builtin .len, #[.tmp 5], #[22]⟩, 3), (.binOp .lss 3 (.tmp 7) (.const (Go.Value.int Go.IntKind.i64 2)) 3, 4)]) (b := [(9, 9), (8, 7), (7, 5), (6, 3), (5, 1), (4, 0)]) (by kernel_rfl) ?_
    refine OpK.nilCheck rfl ?_
    refine OpK.fieldAddr (off := 0) (by kernel_rfl) rfl ?_
    refine OpK.load (by kernel_rfl) rfl hc0 ?_
    refine OpK.len (e := 5) (by kernel_rfl) rfl ?_
    refine OpK.cmp rfl rfl rfl ?_
    refine CWL.condF (congrArg Value.bool (decide_eq_false (by omega))) ?_
    simp only [flat, List.cons_append, List.nil_append, List.append_nil]
    refine CWL.regD0 mixed [(0, true), (1, true), (2, true), (3, true), (4, true), (5, false), (6, true), (7, true)] (by decide +kernel) ?_
    refine HW.early rfl rfl (Yi.empty (by kernel_rfl) rfl) ?_
    refine HW.early rfl rfl Yi.move ?_
    refine HW.early rfl rfl (Yi.nilCheck rfl) ?_
    refine HW.early rfl rfl (Yi.fieldAddr (off := 0) (by kernel_rfl) rfl) ?_
    refine HW.early rfl rfl (Yi.load (by kernel_rfl) rfl hld) ?_
    refine HW.next rfl rfl ?_
    refine OpK.asCall rfl call78 rfl ((be78 w.drew (.agg #[]) a' s.rest.length c b0 b1 r (hrest ▸ hO) (by rw [hrest]) (hS _ hSa)).mono ?_)
    rintro en w1 ⟨v1, he1, hv1, hch⟩
    subst hv1
    have hch : Ch (fun _ => False) w w1 := (Ch.drew _ w).trans' hch
    refine ⟨_, he1, hch, ?_⟩
    refine HW.early rfl rfl (Yi.convInt (k' := .i16) (by kernel_rfl) (by kernel_rfl) rfl) ?_
    refine HW.early rfl rfl Yi.assign ?_
    refine HW.done ?_
    have h1 := h.keep hS hch
    have hb1 := hb.keep (hch.block g hgl fun h => h)
    refine CWL.reg (ops := [(.nilCheck (.tmp 0), 0), (.fieldAddr 104 (.tmp 1) 0, 0), (.load 22 (.tmp 3), 22), (.slice 22 (.tmp 5) (some (.const (Go.Value.int Go.IntKind.i64 2))) none none, 22), (.nilCheck (.tmp 0), 0), (.fieldAddr 104 (.tmp 9) 0, 0), (.store 22 (.tmp 11) (.tmp 7), 0)]) (b := [(30, 11), (29, 9), (28, 7), (27, 5), (26, 3), (25, 1), (24, 0), (23, 0)]) (by kernel_rfl) ?_
    refine OpK.nilCheck rfl ?_
    refine OpK.fieldAddr (off := 0) (by kernel_rfl) rfl ?_
    refine OpK.load (by kernel_rfl) rfl (hld _ hch) ?_
    refine OpK.sliceFrom (e := 5) (j := 2) (by kernel_rfl) (by kernel_rfl) rfl rfl (by omega) hlc ?_
    refine OpK.nilCheck rfl ?_
    refine OpK.fieldAddr (off := 0) (by kernel_rfl) rfl ?_
    refine OpK.store (by kernel_rfl) rfl rfl rfl (show (w1.cell? ⟨g, 0, none⟩).isSome = true by rw [hb1.cell 0]; rfl) (hb1.free 0) ?_
    refine CWL.reg (ops := []) (b := [(2, 6), (31, 6)]) (by kernel_rfl) ?_
    refine CWL.ret ?_
    rw [hr]
    have hs1 : SrcIs w1 S s.rest (.slice (some a') s.rest.length c) := hs.keep fun k hk => hch.block k (hS k hk) fun h => h
    have hst := h1.step (hs1.drop (j := 2) (by omega))
    exact ⟨_, rfl, rfl, hst.1, (hch.mono fun _ _ h => h.elim).trans' hst.2, fun _ => NN.of_step hb1 a' c 2 _ _⟩

theorem call51 : Callable Tryz.prog 51 := ⟨Tryz.f51, Tryz.func51, by kernel_rfl, by kernel_rfl⟩
set_option maxHeartbeats 4000000 in
theorem r51 (w : World) (S : Nat → Prop) (hS : ∀ k, S k → k < w.heap.size) (g : Nat) (t : TypeId) (s : Rs) (h : RdIs w S g t s) :
    Calls Tryz.prog 51 #[.pointer (some ⟨g, 0, none⟩)] w fun en w' => ∃ v, en = .returned v ∧ v = .int .i32 (rdInt .i32 4 s).1 ∧ RdIs w' S g t (rdInt .i32 4 s).2 ∧ Ch (fun k => k = g) w w' ∧ ((rdInt .i32 4 s).2.bad = false → NN w' g) := by
  obtain ⟨v, hb, hs, hg⟩ := id h
  obtain ⟨a, c, rfl, hlc⟩ := hs.form
  have hc0 : w.cell? ((⟨g, 0, none⟩ : Addr).add 0) = some (.slice a s.rest.length c) := hb.cell 0
  have hgl := hb.lt
  by_cases hlen : s.rest.length < 4
  · have hr : rdInt .i32 4 s = (0, Rs.fail) := by unfold rdInt rdN; rw [if_pos hlen]
    refine Calls.of_CW Tryz.func51 rfl (by decide +kernel) (Nat.le_of_ble_eq_true (by kernel_rfl)) (CW.of_flat ?_)
    simp only [flat, List.cons_append, List.nil_append, List.append_nil]
    refine CWL.reg (ops := [(.assign (.const (Go.Value.int Go.IntKind.i32 0)), 21)]) (b := [(2, 1)]) (by kernel_rfl) ?_
    refine OpK.assign ?_
    refine CWL.reg (ops := [(.nilCheck (.tmp 0), 0), (.fieldAddr 104 (.tmp 1) 0, 0), (.load 22 (.tmp 3), 22), (.call ⟨.builtin .len, #[.tmp 5], #[22]⟩, 3), (.binOp .lss 3 (.tmp 7) (.const (Go.Value.int Go.IntKind.i64 4)) 3, 4)]) (b := [(9, 9), (8, 7), (7, 5), (6, 3), (5, 1), (4, 0)]) (by kernel_rfl) ?_
    refine OpK.nilCheck rfl ?_
    refine OpK.fieldAddr (off := 0) (by kernel_rfl) rfl ?_
    refine OpK.load (by kernel_rfl) rfl hc0 ?_
    refine OpK.len (e := 5) (by kernel_rfl) rfl ?_
    refine OpK.cmp rfl rfl rfl ?_
    refine CWL.condT (congrArg Value.bool (decide_eq_true (by omega))) ?_
    simp only [flat, List.cons_append, List.nil_append, List.append_nil]
    refine CWL.reg (ops := [(.nilCheck (.tmp 0), 0), (.fieldAddr 104 (.tmp 1) 1, 0), (.store 4 (.tmp 3) (.const (Go.Value.bool true)), 0)]) (b := [(12, 3), (11, 1), (10, 0)]) (by kernel_rfl) ?_
    refine OpK.nilCheck rfl ?_
    refine OpK.fieldAddr (off := 1) (by kernel_rfl) rfl ?_
    refine OpK.store (by kernel_rfl) rfl rfl rfl (show (w.cell? ⟨g, 1, none⟩).isSome = true by rw [hb.cell 1]; rfl) (hb.free 1) ?_
    have hb1 := hb.set 1 (.bool true)
    refine CWL.reg (ops := [(.nilCheck (.tmp 0), 0), (.fieldAddr 104 (.tmp 1) 0, 0), (.store 22 (.tmp 3) (.const (Go.Value.slice none 0 0)), 0)]) (b := [(15, 3), (14, 1), (13, 0)]) (by kernel_rfl) ?_
    refine OpK.nilCheck rfl ?_
    refine OpK.fieldAddr (off := 0) (by kernel_rfl) rfl ?_
    refine OpK.store (by kernel_rfl) rfl rfl rfl (show ((w.setCell ⟨g, 1, none⟩ (.bool true)).cell? ⟨g, 0, none⟩).isSome = true by rw [hb1.cell 0]; rfl) (hb1.free 0) ?_
    refine CWL.reg (ops := [(.assign (.const (Go.Value.int Go.IntKind.i32 0)), 21)]) (b := [(2, 1)]) (by kernel_rfl) ?_
    refine OpK.assign ?_
    refine CWL.ret ?_
    rw [hr]
    exact ⟨_, rfl, rfl, h.fail.1, h.fail.2, fun h => by cases h⟩
  · obtain ⟨b0, b1, b2, b3, r, hrest⟩ := octets4 hlen
    obtain ⟨a', rfl, _, hSa, hO⟩ := hs.some_ (by rw [hrest]; simp)
    have hr : rdInt .i32 4 s = (IntKind.i32.wrap ((unbe [b0, b1, b2, b3] : Nat) : Int), ⟨s.rest.drop 4, s.bad⟩) := by
      unfold rdInt rdN
      rw [if_neg hlen, hrest]
      simp
    have hld : ∀ w', Ch (fun _ => False) w w' → w'.cell? ((⟨g, 0, none⟩ : Addr).add 0) = some (.slice (some a') s.rest.length c) := fun w' h' => (ch_cell h' hgl (fun h => h) rfl).trans hc0
    refine Calls.of_CW Tryz.func51 rfl (by decide +kernel) (Nat.le_of_ble_eq_true (by kernel_rfl)) (CW.of_flat ?_)
    simp only [flat, List.cons_append, List.nil_append, List.append_nil]
    refine CWL.reg (ops := [(.assign (.const (Go.Value.int Go.IntKind.i32 0)), 21)]) (b := [(2, 1)]) (by kernel_rfl) ?_
    refine OpK.assign ?_
    refine CWL.reg (ops := [(.nilCheck (.tmp 0), 0), (.fieldAddr 104 (.tmp 1) 0, 0), (.load 22 (.tmp 3), 22), (.call ⟨.builtin .len, #[.tmp 5], #[22]⟩, 3), (.binOp .lss 3 (.tmp 7) (.const (Go.Value.int Go.IntKind.i64 4)) 3, 4)]) (b := [(9, 9), (8, 7), (7, 5), (6, 3), (5, 1), (4, 0)]) (by kernel_rfl) ?_
    refine OpK.nilCheck rfl ?_
    refine OpK.fieldAddr (off := 0) (by kernel_rfl) rfl ?_
    refine OpK.load (by kernel_rfl) rfl hc0 ?_
    refine OpK.len (e := 5) (by kernel_rfl) rfl ?_
    refine OpK.cmp rfl rfl rfl ?_
    refine CWL.condF (congrArg Value.bool (decide_eq_false (by omega))) ?_
    simp only [flat, List.cons_append, List.nil_append, List.append_nil]
    refine CWL.regD0 mixed [(0, true), (1, true), (2, true), (3, true), (4, true), (5, false), (6, true), (7, true)] (by decide +kernel) ?_
    refine HW.early rfl rfl (Yi.empty (by kernel_rfl) rfl) ?_
    refine HW.early rfl rfl Yi.move ?_
    refine HW.early rfl rfl (Yi.nilCheck rfl) ?_
    refine HW.early rfl rfl (Yi.fieldAddr (off := 0) (by kernel_rfl) rfl) ?_
    refine HW.early rfl rfl (Yi.load (by kernel_rfl) rfl hld) ?_
    refine HW.next rfl rfl ?_
    refine OpK.asCall rfl call76 rfl ((be76 w.drew (.agg #[]) a' s.rest.length c b0 b1 b2 b3 r (hrest ▸ hO) (by rw [hrest]) (hS _ hSa)).mono ?_)
    rintro en w1 ⟨v1, he1, hv1, hch⟩
    subst hv1
    have hch : Ch (fun _ => False) w w1 := (Ch.drew _ w).trans' hch
    refine ⟨_, he1, hch, ?_⟩
    refine HW.early rfl rfl (Yi.convInt (k' := .i32) (by kernel_rfl) (by kernel_rfl) rfl) ?_
    refine HW.early rfl rfl Yi.assign ?_
    refine HW.done ?_
    have h1 := h.keep hS hch
    have hb1 := hb.keep (hch.block g hgl fun h => h)
    refine CWL.reg (ops := [(.nilCheck (.tmp 0), 0), (.fieldAddr 104 (.tmp 1) 0, 0), (.load 22 (.tmp 3), 22), (.slice 22 (.tmp 5) (some (.const (Go.Value.int Go.IntKind.i64 4))) none none, 22), (.nilCheck (.tmp 0), 0), (.fieldAddr 104 (.tmp 9) 0, 0), (.store 22 (.tmp 11) (.tmp 7), 0)]) (b := [(30, 11), (29, 9), (28, 7), (27, 5), (26, 3), (25, 1), (24, 0), (23, 0)]) (by kernel_rfl) ?_
    refine OpK.nilCheck rfl ?_
    refine OpK.fieldAddr (off := 0) (by kernel_rfl) rfl ?_
    refine OpK.load (by kernel_rfl) rfl (hld _ hch) ?_
    refine OpK.sliceFrom (e := 5) (j := 4) (by kernel_rfl) (by kernel_rfl) rfl rfl (by omega) hlc ?_
    refine OpK.nilCheck rfl ?_
    refine OpK.fieldAddr (off := 0) (by kernel_rfl) rfl ?_
    refine OpK.store (by kernel_rfl) rfl rfl rfl (show (w1.cell? ⟨g, 0, none⟩).isSome = true by rw [hb1.cell 0]; rfl) (hb1.free 0) ?_
    refine CWL.reg (ops := []) (b := [(2, 6), (31, 6)]) (by kernel_rfl) ?_
    refine CWL.ret ?_
    rw [hr]
    have hs1 : SrcIs w1 S s.rest (.slice (some a') s.rest.length c) := hs.keep fun k hk => hch.block k (hS k hk) fun h => h
    have hst := h1.step (hs1.drop (j := 4) (by omega))
    exact ⟨_, rfl, rfl, hst.1, (hch.mono fun _ _ h => h.elim).trans' hst.2, fun _ => NN.of_step hb1 a' c 4 _ _⟩

theorem call68 : Callable Tryz.prog 68 := ⟨Tryz.f68, Tryz.func68, by kernel_rfl, by kernel_rfl⟩
set_option maxHeartbeats 4000000 in
theorem r68 (w : World) (S : Nat → Prop) (hS : ∀ k, S k → k < w.heap.size) (g : Nat) (t : TypeId) (s : Rs) (h : RdIs w S g t s) :
    Calls Tryz.prog 68 #[.pointer (some ⟨g, 0, none⟩)] w fun en w' => ∃ v, en = .returned v ∧ v = .bool (rdBool s).1 ∧ RdIs w' S g t (rdBool s).2 ∧ Ch (fun k => k = g) w w' := by
  obtain ⟨v, hb, hs, hg⟩ := id h
  obtain ⟨a, c, rfl, hlc⟩ := hs.form
  have hc0 : w.cell? ((⟨g, 0, none⟩ : Addr).add 0) = some (.slice a s.rest.length c) := hb.cell 0
  have hgl := hb.lt
  by_cases hlen : s.rest.length < 1
  · have hr : (rdBool s) = (false, Rs.fail) := by
      have : s.rest = [] := List.eq_nil_of_length_eq_zero (by omega)
      unfold rdBool
      rw [this]
    refine Calls.of_CW Tryz.func68 rfl (by decide +kernel) (Nat.le_of_ble_eq_true (by kernel_rfl)) (CW.of_flat ?_)
    simp only [flat, List.cons_append, List.nil_append, List.append_nil]
    refine CWL.reg (ops := [(.assign (.const (Go.Value.bool false)), 4)]) (b := [(2, 1)]) (by kernel_rfl) ?_
    refine OpK.assign ?_
    refine CWL.reg (ops := [(.nilCheck (.tmp 0), 0), (.fieldAddr 104 (.tmp 1) 0, 0), (.load 22 (.tmp 3), 22), (.call ⟨.builtin .len, #[.tmp 5], #[22]⟩, 3), (.binOp .lss 3 (.tmp 7) (.const (Go.Value.int Go.IntKind.i64 1)) 3, 4)]) (b := [(9, 9), (8, 7), (7, 5), (6, 3), (5, 1), (4, 0)]) (by kernel_rfl) ?_
    refine OpK.nilCheck rfl ?_
    refine OpK.fieldAddr (off := 0) (by kernel_rfl) rfl ?_
    refine OpK.load (by kernel_rfl) rfl hc0 ?_
    refine OpK.len (e := 5) (by kernel_rfl) rfl ?_
    refine OpK.cmp rfl rfl rfl ?_
    refine CWL.condT (congrArg Value.bool (decide_eq_true (by omega))) ?_
    simp only [flat, List.cons_append, List.nil_append, List.append_nil]
    refine CWL.reg (ops := [(.nilCheck (.tmp 0), 0), (.fieldAddr 104 (.tmp 1) 1, 0), (.store 4 (.tmp 3) (.const (Go.Value.bool true)), 0)]) (b := [(12, 3), (11, 1), (10, 0)]) (by kernel_rfl) ?_
    refine OpK.nilCheck rfl ?_
    refine OpK.fieldAddr (off := 1) (by kernel_rfl) rfl ?_
    refine OpK.store (by kernel_rfl) rfl rfl rfl (show (w.cell? ⟨g, 1, none⟩).isSome = true by rw [hb.cell 1]; rfl) (hb.free 1) ?_
    have hb1 := hb.set 1 (.bool true)
    refine CWL.reg (ops := [(.nilCheck (.tmp 0), 0), (.fieldAddr 104 (.tmp 1) 0, 0), (.store 22 (.tmp 3) (.const (Go.Value.slice none 0 0)), 0)]) (b := [(15, 3), (14, 1), (13, 0)]) (by kernel_rfl) ?_
    refine OpK.nilCheck rfl ?_
    refine OpK.fieldAddr (off := 0) (by kernel_rfl) rfl ?_
    refine OpK.store (by kernel_rfl) rfl rfl rfl (show ((w.setCell ⟨g, 1, none⟩ (.bool true)).cell? ⟨g, 0, none⟩).isSome = true by rw [hb1.cell 0]; rfl) (hb1.free 0) ?_
    refine CWL.reg (ops := [(.assign (.const (Go.Value.bool false)), 4)]) (b := [(2, 1)]) (by kernel_rfl) ?_
    refine OpK.assign ?_
    refine CWL.ret ?_
    rw [hr]
    exact ⟨_, rfl, rfl, h.fail.1, h.fail.2⟩
  · obtain ⟨b0, r, hrest⟩ := oct1 hlen
    obtain ⟨a', rfl, _, hSa, hO⟩ := hs.some_ (by rw [hrest]; simp)
    have hO0 : w.cell? (a'.add (0 * 1)) = some (bv b0) := hO 0 b0 (by rw [hrest]; rfl)
    have hr : rdBool s = (b0 != 0, ⟨s.rest.drop 1, s.bad⟩) := by unfold rdBool; rw [hrest]; rfl
    refine Calls.of_CW Tryz.func68 rfl (by decide +kernel) (Nat.le_of_ble_eq_true (by kernel_rfl)) (CW.of_flat ?_)
    simp only [flat, List.cons_append, List.nil_append, List.append_nil]
    refine CWL.reg (ops := [(.assign (.const (Go.Value.bool false)), 4)]) (b := [(2, 1)]) (by kernel_rfl) ?_
    refine OpK.assign ?_
    refine CWL.reg (ops := [(.nilCheck (.tmp 0), 0), (.fieldAddr 104 (.tmp 1) 0, 0), (.load 22 (.tmp 3), 22), (.call ⟨.builtin .len, #[.tmp 5], #[22]⟩, 3), (.binOp .lss 3 (.tmp 7) (.const (Go.Value.int Go.IntKind.i64 1)) 3, 4)]) (b := [(9, 9), (8, 7), (7, 5), (6, 3), (5, 1), (4, 0)]) (by kernel_rfl) ?_
    refine OpK.nilCheck rfl ?_
    refine OpK.fieldAddr (off := 0) (by kernel_rfl) rfl ?_
    refine OpK.load (by kernel_rfl) rfl hc0 ?_
    refine OpK.len (e := 5) (by kernel_rfl) rfl ?_
    refine OpK.cmp rfl rfl rfl ?_
    refine CWL.condF (congrArg Value.bool (decide_eq_false (by omega))) ?_
    simp only [flat, List.cons_append, List.nil_append, List.append_nil]
    refine CWL.reg (ops := [(.nilCheck (.tmp 0), 0), (.fieldAddr 104 (.tmp 1) 0, 0), (.load 22 (.tmp 3), 22), (.indexAddr 22 (.tmp 5) (.const (Go.Value.int Go.IntKind.i64 0)), 0), (.load 5 (.tmp 7), 5), (.binOp .neq 5 (.tmp 9) (.const (Go.Value.int Go.IntKind.u8 0)) 5, 4)]) (b := [(3, 11), (22, 11), (21, 9), (20, 7), (19, 5), (18, 3), (17, 1), (16, 0)]) (by kernel_rfl) ?_
    refine OpK.nilCheck rfl ?_
    refine OpK.fieldAddr (off := 0) (by kernel_rfl) rfl ?_
    refine OpK.load (by kernel_rfl) rfl hc0 ?_
    refine OpK.indexAddr (s := 1) (j := 0) (by kernel_rfl) rfl rfl (by omega) ?_
    refine OpK.load (by kernel_rfl) rfl hO0 ?_
    refine OpK.cmp rfl rfl rfl ?_
    refine CWL.reg (ops := [(.nilCheck (.tmp 0), 0), (.fieldAddr 104 (.tmp 1) 0, 0), (.load 22 (.tmp 3), 22), (.slice 22 (.tmp 5) (some (.const (Go.Value.int Go.IntKind.i64 1))) none none, 22), (.nilCheck (.tmp 0), 0), (.fieldAddr 104 (.tmp 9) 0, 0), (.store 22 (.tmp 11) (.tmp 7), 0)]) (b := [(30, 11), (29, 9), (28, 7), (27, 5), (26, 3), (25, 1), (24, 0), (23, 0)]) (by kernel_rfl) ?_
    refine OpK.nilCheck rfl ?_
    refine OpK.fieldAddr (off := 0) (by kernel_rfl) rfl ?_
    refine OpK.load (by kernel_rfl) rfl hc0 ?_
    refine OpK.sliceFrom (e := 5) (j := 1) (by kernel_rfl) (by kernel_rfl) rfl rfl (by omega) hlc ?_
    refine OpK.nilCheck rfl ?_
    refine OpK.fieldAddr (off := 0) (by kernel_rfl) rfl ?_
    refine OpK.store (by kernel_rfl) rfl rfl rfl (show (w.cell? ⟨g, 0, none⟩).isSome = true by rw [hb.cell 0]; rfl) (hb.free 0) ?_
    refine CWL.reg (ops := []) (b := [(2, 6), (31, 6)]) (by kernel_rfl) ?_
    refine CWL.ret ?_
    rw [hr]
    have hst := h.step (hs.drop (j := 1) (by omega))
    exact ⟨_, rfl, congrArg Value.bool (byte_ne b0), hst.1, hst.2⟩

theorem call62 : Callable Tryz.prog 62 := ⟨Tryz.f62, Tryz.func62, by kernel_rfl, by kernel_rfl⟩
set_option maxHeartbeats 4000000 in
theorem r62 (w : World) (S : Nat → Prop) (hS : ∀ k, S k → k < w.heap.size) (g : Nat) (t : TypeId) (s : Rs) (h : RdIs w S g t s) :
    Calls Tryz.prog 62 #[.pointer (some ⟨g, 0, none⟩)] w fun en w' => ∃ v, en = .returned v ∧ v = .int .i8 (rdInt .i8 1 s).1 ∧ RdIs w' S g t (rdInt .i8 1 s).2 ∧ Ch (fun k => k = g) w w' := by
  obtain ⟨v, hb, hs, hg⟩ := id h
  obtain ⟨a, c, rfl, hlc⟩ := hs.form
  have hc0 : w.cell? ((⟨g, 0, none⟩ : Addr).add 0) = some (.slice a s.rest.length c) := hb.cell 0
  have hgl := hb.lt
  by_cases hlen : s.rest.length < 1
  · have hr : (rdInt .i8 1 s) = (0, Rs.fail) := by
      have : s.rest = [] := List.eq_nil_of_length_eq_zero (by omega)
      unfold rdInt rdN
      rw [if_pos hlen]
    refine Calls.of_CW Tryz.func62 rfl (by decide +kernel) (Nat.le_of_ble_eq_true (by kernel_rfl)) (CW.of_flat ?_)
    simp only [flat, List.cons_append, List.nil_append, List.append_nil]
    refine CWL.reg (ops := [(.assign (.const (Go.Value.int Go.IntKind.i8 0)), 76)]) (b := [(2, 1)]) (by kernel_rfl) ?_
    refine OpK.assign ?_
    refine CWL.reg (ops := [(.nilCheck (.tmp 0), 0), (.fieldAddr 104 (.tmp 1) 0, 0), (.load 22 (.tmp 3), 22), (.call ⟨.builtin .len, #[.tmp 5], #[22]⟩, 3), (.binOp .lss 3 (.tmp 7) (.const (Go.Value.int Go.IntKind.i64 1)) 3, 4)]) (b := [(9, 9), (8, 7), (7, 5), (6, 3), (5, 1), (4, 0)]) (by kernel_rfl) ?_
    refine OpK.nilCheck rfl ?_
    refine OpK.fieldAddr (off := 0) (by kernel_rfl) rfl ?_
    refine OpK.load (by kernel_rfl) rfl hc0 ?_
    refine OpK.len (e := 5) (by kernel_rfl) rfl ?_
    refine OpK.cmp rfl rfl rfl ?_
    refine CWL.condT (congrArg Value.bool (decide_eq_true (by omega))) ?_
    simp only [flat, List.cons_append, List.nil_append, List.append_nil]
    refine CWL.reg (ops := [(.nilCheck (.tmp 0), 0), (.fieldAddr 104 (.tmp 1) 1, 0), (.store 4 (.tmp 3) (.const (Go.Value.bool true)), 0)]) (b := [(12, 3), (11, 1), (10, 0)]) (by kernel_rfl) ?_
    refine OpK.nilCheck rfl ?_
    refine OpK.fieldAddr (off := 1) (by kernel_rfl) rfl ?_
    refine OpK.store (by kernel_rfl) rfl rfl rfl (show (w.cell? ⟨g, 1, none⟩).isSome = true by rw [hb.cell 1]; rfl) (hb.free 1) ?_
    have hb1 := hb.set 1 (.bool true)
    refine CWL.reg (ops := [(.nilCheck (.tmp 0), 0), (.fieldAddr 104 (.tmp 1) 0, 0), (.store 22 (.tmp 3) (.const (Go.Value.slice none 0 0)), 0)]) (b := [(15, 3), (14, 1), (13, 0)]) (by kernel_rfl) ?_
    refine OpK.nilCheck rfl ?_
    refine OpK.fieldAddr (off := 0) (by kernel_rfl) rfl ?_
    refine OpK.store (by kernel_rfl) rfl rfl rfl (show ((w.setCell ⟨g, 1, none⟩ (.bool true)).cell? ⟨g, 0, none⟩).isSome = true by rw [hb1.cell 0]; rfl) (hb1.free 0) ?_
    refine CWL.reg (ops := [(.assign (.const (Go.Value.int Go.IntKind.i8 0)), 76)]) (b := [(2, 1)]) (by kernel_rfl) ?_
    refine OpK.assign ?_
    refine CWL.ret ?_
    rw [hr]
    exact ⟨_, rfl, rfl, h.fail.1, h.fail.2⟩
  · obtain ⟨b0, r, hrest⟩ := oct1 hlen
    obtain ⟨a', rfl, _, hSa, hO⟩ := hs.some_ (by rw [hrest]; simp)
    have hO0 : w.cell? (a'.add (0 * 1)) = some (bv b0) := hO 0 b0 (by rw [hrest]; rfl)
    have hr : rdInt .i8 1 s = (IntKind.i8.wrap ((unbe [b0] : Nat) : Int), ⟨s.rest.drop 1, s.bad⟩) := by unfold rdInt rdN; rw [if_neg hlen, hrest]; rfl
    refine Calls.of_CW Tryz.func62 rfl (by decide +kernel) (Nat.le_of_ble_eq_true (by kernel_rfl)) (CW.of_flat ?_)
    simp only [flat, List.cons_append, List.nil_append, List.append_nil]
    refine CWL.reg (ops := [(.assign (.const (Go.Value.int Go.IntKind.i8 0)), 76)]) (b := [(2, 1)]) (by kernel_rfl) ?_
    refine OpK.assign ?_
    refine CWL.reg (ops := [(.nilCheck (.tmp 0), 0), (.fieldAddr 104 (.tmp 1) 0, 0), (.load 22 (.tmp 3), 22), (.call ⟨.builtin .len, #[.tmp 5], #[22]⟩, 3), (.binOp .lss 3 (.tmp 7) (.const (Go.Value.int Go.IntKind.i64 1)) 3, 4)]) (b := [(9, 9), (8, 7), (7, 5), (6, 3), (5, 1), (4, 0)]) (by kernel_rfl) ?_
    refine OpK.nilCheck rfl ?_
    refine OpK.fieldAddr (off := 0) (by kernel_rfl) rfl ?_
    refine OpK.load (by kernel_rfl) rfl hc0 ?_
    refine OpK.len (e := 5) (by kernel_rfl) rfl ?_
    refine OpK.cmp rfl rfl rfl ?_
    refine CWL.condF (congrArg Value.bool (decide_eq_false (by omega))) ?_
    simp only [flat, List.cons_append, List.nil_append, List.append_nil]
    refine CWL.reg (ops := [(.nilCheck (.tmp 0), 0), (.fieldAddr 104 (.tmp 1) 0, 0), (.load 22 (.tmp 3), 22), (.indexAddr 22 (.tmp 5) (.const (Go.Value.int Go.IntKind.i64 0)), 0), (.load 5 (.tmp 7), 5)]) (b := [(3, 9), (21, 9), (20, 7), (19, 5), (18, 3), (17, 1), (16, 0)]) (by kernel_rfl) ?_
    refine OpK.nilCheck rfl ?_
    refine OpK.fieldAddr (off := 0) (by kernel_rfl) rfl ?_
    refine OpK.load (by kernel_rfl) rfl hc0 ?_
    refine OpK.indexAddr (s := 1) (j := 0) (by kernel_rfl) rfl rfl (by omega) ?_
    refine OpK.load (by kernel_rfl) rfl hO0 ?_
    refine CWL.reg (ops := [(.nilCheck (.tmp 0), 0), (.fieldAddr 104 (.tmp 1) 0, 0), (.load 22 (.tmp 3), 22), (.slice 22 (.tmp 5) (some (.const (Go.Value.int Go.IntKind.i64 1))) none none, 22), (.nilCheck (.tmp 0), 0), (.fieldAddr 104 (.tmp 9) 0, 0), (.store 22 (.tmp 11) (.tmp 7), 0)]) (b := [(29, 11), (28, 9), (27, 7), (26, 5), (25, 3), (24, 1), (23, 0), (22, 0)]) (by kernel_rfl) ?_
    refine OpK.nilCheck rfl ?_
    refine OpK.fieldAddr (off := 0) (by kernel_rfl) rfl ?_
    refine OpK.load (by kernel_rfl) rfl hc0 ?_
    refine OpK.sliceFrom (e := 5) (j := 1) (by kernel_rfl) (by kernel_rfl) rfl rfl (by omega) hlc ?_
    refine OpK.nilCheck rfl ?_
    refine OpK.fieldAddr (off := 0) (by kernel_rfl) rfl ?_
    refine OpK.store (by kernel_rfl) rfl rfl rfl (show (w.cell? ⟨g, 0, none⟩).isSome = true by rw [hb.cell 0]; rfl) (hb.free 0) ?_
    refine CWL.reg (ops := [(.convert 5 76 (.tmp 6), 76)]) (b := [(2, 1), (31, 1), (30, 6)]) (by kernel_rfl) ?_
    refine OpK.convInt (k' := .i8) (by kernel_rfl) (by kernel_rfl) rfl ?_
    refine CWL.ret ?_
    rw [hr]
    have hst := h.step (hs.drop (j := 1) (by omega))
    exact ⟨_, rfl, congrArg (Value.int .i8) (by simp [unbe]), hst.1, hst.2⟩

theorem call54 : Callable Tryz.prog 54 := ⟨Tryz.f54, Tryz.func54, by kernel_rfl, by kernel_rfl⟩
theorem ok54 (gE : Nat) (eV : Value) : RfOk Tryz.prog gE eV 54 .ok := by
  intro w S g t s h
  obtain ⟨v, hb, hs, hg⟩ := h
  have hc1 : w.cell? ((⟨g, 0, none⟩ : Addr).add 1) = some (.bool s.bad) := hb.cell 1
  refine (Calls.of_CW (R := fun v w' => v = .bool (!s.bad) ∧ w' = w) Tryz.func54 rfl (by decide +kernel) (Nat.le_of_ble_eq_true (by kernel_rfl)) (CW.of_flat ?_)).mono fun en w' ⟨v, he, hv, hw⟩ => ⟨by rw [he, hv], hw⟩
  simp only [flat, List.cons_append, List.nil_append, List.append_nil]
  refine CWL.reg (ops := [(.assign (.const (Go.Value.bool false)), 4)]) (b := [(2, 1)]) (by kernel_rfl) ?_
  refine OpK.assign ?_
  refine CWL.reg (ops := [(.nilCheck (.tmp 0), 0), (.fieldAddr 104 (.tmp 1) 1, 0), (.load 4 (.tmp 3), 4), (.unOp .not 4 (.tmp 5), 4)]) (b := [(2, 7), (7, 7), (6, 5), (5, 3), (4, 1), (3, 0)]) (by kernel_rfl) ?_
  refine OpK.nilCheck rfl ?_
  refine OpK.fieldAddr (off := 1) (by kernel_rfl) rfl ?_
  refine OpK.load (by kernel_rfl) rfl hc1 ?_
  refine OpK.not rfl ?_
  refine CWL.ret ?_
  exact ⟨_, rfl, rfl, rfl⟩

theorem call55 : Callable Tryz.prog 55 := ⟨Tryz.f55, Tryz.func55, by kernel_rfl, by kernel_rfl⟩
theorem ok55 (eV : Value) : RfOk Tryz.prog 1 eV 55 .comp := by
  intro w S g t s h he
  obtain ⟨v, hb, hs, hg⟩ := h
  have hc1 : w.cell? ((⟨g, 0, none⟩ : Addr).add 1) = some (.bool s.bad) := hb.cell 1
  refine (Calls.of_CW (R := fun v w' => v = (if s.bad then eV else .nilIface) ∧ w' = w) Tryz.func55 rfl (by decide +kernel) (Nat.le_of_ble_eq_true (by kernel_rfl)) (CW.of_flat ?_)).mono fun en w' ⟨v, he, hv, hw⟩ => ⟨by rw [he, hv], hw⟩
  simp only [flat, List.cons_append, List.nil_append, List.append_nil]
  refine CWL.reg (ops := [(.assign (.const (Go.Value.nilIface)), 50)]) (b := [(2, 1)]) (by kernel_rfl) ?_
  refine OpK.assign ?_
  refine CWL.reg (ops := [(.nilCheck (.tmp 0), 0), (.fieldAddr 104 (.tmp 1) 1, 0), (.load 4 (.tmp 3), 4)]) (b := [(6, 5), (5, 3), (4, 1), (3, 0)]) (by kernel_rfl) ?_
  refine OpK.nilCheck rfl ?_
  refine OpK.fieldAddr (off := 1) (by kernel_rfl) rfl ?_
  refine OpK.load (by kernel_rfl) rfl hc1 ?_
  cases hbad : s.bad with
  | true =>
    refine CWL.condT rfl ?_
    simp only [flat, List.cons_append, List.nil_append, List.append_nil]
    refine CWL.reg (ops := [(.load 50 (.global 1), 50)]) (b := [(2, 1), (7, 1)]) (by kernel_rfl) ?_
    refine OpK.load (by kernel_rfl) rfl he ?_
    refine CWL.ret ?_
    exact ⟨_, rfl, rfl, rfl⟩
  | false =>
    refine CWL.condF rfl ?_
    simp only [flat, List.cons_append, List.nil_append, List.append_nil]
    refine CWL.reg (ops := [(.assign (.const (Go.Value.nilIface)), 50)]) (b := [(2, 1)]) (by kernel_rfl) ?_
    refine OpK.assign ?_
    refine CWL.ret ?_
    exact ⟨_, rfl, rfl, rfl⟩

theorem call85 : Callable Tryz.prog 85 := ⟨Tryz.f85, Tryz.func85, by kernel_rfl, by kernel_rfl⟩
set_option maxHeartbeats 16000000 in
theorem uv85 (w : World) (S : Nat → Prop) (l : List UInt8) (v : Value) (h : SrcIs w S l v) :
    Calls Tryz.prog 85 #[v] w fun en w' => ∃ (x m : Int), en = .returned (.tuple #[.int .u32 x, .int .i64 m]) ∧ w' = w ∧ UvIs l x m := by
  obtain ⟨a, c, rfl, hlc⟩ := h.form
  refine (Calls.of_CW (R := fun v w' => ∃ (x m : Int), v = .tuple #[.int .u32 x, .int .i64 m] ∧ w' = w ∧ UvIs l x m) Tryz.func85 rfl (by decide +kernel) (Nat.le_of_ble_eq_true (by kernel_rfl)) (CW.of_flat ?_)).mono fun en w' ⟨v, he, x, m, hv, hR⟩ => ⟨x, m, by rw [he, hv], hR⟩
  simp only [flat, List.cons_append, List.nil_append, List.append_nil]
  refine CWL.reg (ops := [(.assign (.const (Go.Value.int Go.IntKind.u32 0)), 53), (.assign (.const (Go.Value.int Go.IntKind.i64 0)), 3)]) (b := [(3, 3), (2, 1)]) (by kernel_rfl) ?_
  refine OpK.assign ?_
  refine OpK.assign ?_
  refine CWL.cons (CW.scope 0 rfl (by decide +kernel) (by decide +kernel) (fun σ w' => w' = w ∧ decUv l = none ∧ ∃ m : Int, σ 5 = .int .i64 m ∧ m ≤ 0) (CW.of_flat ?_) ?_)
  rotate_left
  · rintro σ w1 ⟨rfl, hd, m, hm, hm0⟩
    refine CW.of_flat ?_
    simp only [flat, List.cons_append, List.nil_append, List.append_nil]
    refine CWL.reg (ops := [(.assign (.const (Go.Value.int Go.IntKind.u32 0)), 53)]) (b := [(3, 10), (2, 1), (86, 10)]) (by kernel_rfl) ?_
    refine OpK.assign ?_
    refine CWL.ret ?_
    refine ⟨_, rfl, 0, m, ?_, rfl, by unfold UvIs; rw [hd]; exact ⟨rfl, hm0⟩⟩
    show Value.tuple #[.int .u32 0, enF σ (2 * 5)] = _
    rw [enF_two, hm]
  simp only [flat, List.cons_append, List.nil_append, List.append_nil]
  refine CWL.reg (ops := [(.assign (.const (Go.Value.int Go.IntKind.u32 0)), 53)]) (b := [(4, 1)]) (by kernel_rfl) ?_
  refine OpK.assign ?_
  refine CWL.reg (ops := [(.assign (.const (Go.Value.int Go.IntKind.i64 0)), 3)]) (b := [(5, 1)]) (by kernel_rfl) ?_
  refine OpK.assign ?_
  refine CWL.reg (ops := [(.call ⟨.builtin .len, #[.tmp 0], #[22]⟩, 3), (.binOp .lss 3 (.tmp 1) (.const (Go.Value.int Go.IntKind.i64 1)) 3, 4)]) (b := [(8, 3), (7, 1), (6, 0)]) (by kernel_rfl) ?_
  refine OpK.len (e := 5) (by kernel_rfl) rfl ?_
  refine OpK.cmp rfl rfl rfl ?_
  rcases l with _ | ⟨b0, l⟩
  · refine CWL.condT rfl ?_
    simp only [flat, List.cons_append, List.nil_append, List.append_nil]
    exact CWL.cons (CW.goto_ ⟨rfl, rfl, rfl, _, rfl, by decide⟩)
  obtain ⟨a', rfl, _, hSa, hO⟩ := h.some_ (by simp)
  refine CWL.condF (congrArg Value.bool (decide_eq_false (by simp only [List.length_cons]; omega))) ?_
  simp only [flat, List.cons_append, List.nil_append, List.append_nil]
  have hO0 : w.cell? (a'.add (0 * 1)) = some (bv b0) := hO 0 b0 rfl
  refine CWL.reg (ops := [(.indexAddr 22 (.tmp 0) (.const (Go.Value.int Go.IntKind.i64 0)), 0), (.load 5 (.tmp 1), 5), (.binOp .and 5 (.tmp 3) (.const (Go.Value.int Go.IntKind.u8 127)) 5, 5), (.convert 5 53 (.tmp 5), 53)]) (b := [(4, 7), (13, 7), (12, 5), (11, 3), (10, 1), (9, 0)]) (by kernel_rfl) ?_
  refine OpK.indexAddr (s := 1) (j := 0) (by kernel_rfl) rfl rfl (by simp only [List.length_cons]; omega) ?_
  refine OpK.load (by kernel_rfl) rfl hO0 ?_
  refine OpK.and rfl rfl ?_
  refine OpK.convInt (k' := .u32) (by kernel_rfl) (by kernel_rfl) rfl ?_
  refine CWL.reg (ops := [(.indexAddr 22 (.tmp 0) (.const (Go.Value.int Go.IntKind.i64 0)), 0), (.load 5 (.tmp 1), 5), (.binOp .and 5 (.tmp 3) (.const (Go.Value.int Go.IntKind.u8 128)) 5, 5), (.binOp .eql 5 (.tmp 5) (.const (Go.Value.int Go.IntKind.u8 0)) 5, 4)]) (b := [(18, 7), (17, 5), (16, 3), (15, 1), (14, 0)]) (by kernel_rfl) ?_
  refine OpK.indexAddr (s := 1) (j := 0) (by kernel_rfl) rfl rfl (by simp only [List.length_cons]; omega) ?_
  refine OpK.load (by kernel_rfl) rfl hO0 ?_
  refine OpK.and rfl rfl ?_
  refine OpK.cmp rfl rfl rfl ?_
  by_cases hb0 : b0.toNat < 128
  · refine CWL.condT (congrArg Value.bool (u8_last b0 hb0)) ?_
    simp only [flat, List.cons_append, List.nil_append, List.append_nil]
    refine CWL.reg (ops := [(.assign (.const (Go.Value.int Go.IntKind.i64 1)), 3)]) (b := [(3, 1), (2, 8), (19, 8)]) (by kernel_rfl) ?_
    refine OpK.assign ?_
    refine CWL.ret ?_
    exact ⟨_, rfl, _, _, rfl, rfl, uv_is1 b0 hb0⟩
  refine CWL.condF (congrArg Value.bool (u8_more b0 hb0)) ?_
  simp only [flat, List.cons_append, List.nil_append, List.append_nil]
  refine CWL.reg (ops := [(.call ⟨.builtin .len, #[.tmp 0], #[22]⟩, 3), (.binOp .lss 3 (.tmp 1) (.const (Go.Value.int Go.IntKind.i64 2)) 3, 4)]) (b := [(22, 3), (21, 1), (20, 0)]) (by kernel_rfl) ?_
  refine OpK.len (e := 5) (by kernel_rfl) rfl ?_
  refine OpK.cmp rfl rfl rfl ?_
  rcases l with _ | ⟨b1, l⟩
  · refine CWL.condT rfl ?_
    simp only [flat, List.cons_append, List.nil_append, List.append_nil]
    exact CWL.cons (CW.goto_ ⟨rfl, rfl, by simp [decUv, decUvA, hb0], _, rfl, by decide⟩)
  refine CWL.condF (congrArg Value.bool (decide_eq_false (by simp only [List.length_cons]; omega))) ?_
  simp only [flat, List.cons_append, List.nil_append, List.append_nil]
  have hO1 : w.cell? (a'.add (1 * 1)) = some (bv b1) := hO 1 b1 rfl
  refine CWL.reg (ops := [(.indexAddr 22 (.tmp 0) (.const (Go.Value.int Go.IntKind.i64 1)), 0), (.load 5 (.tmp 1), 5), (.binOp .and 5 (.tmp 3) (.const (Go.Value.int Go.IntKind.u8 127)) 5, 5), (.convert 5 53 (.tmp 5), 53), (.binOp .shl 53 (.tmp 7) (.const (Go.Value.int Go.IntKind.u64 7)) 102, 53), (.binOp .or 53 (.tmp 8) (.tmp 9) 53, 53)]) (b := [(4, 11), (30, 11), (29, 9), (28, 7), (27, 5), (26, 3), (25, 1), (24, 0), (23, 8)]) (by kernel_rfl) ?_
  refine OpK.indexAddr (s := 1) (j := 1) (by kernel_rfl) rfl rfl (by simp only [List.length_cons]; omega) ?_
  refine OpK.load (by kernel_rfl) rfl hO1 ?_
  refine OpK.and rfl rfl ?_
  refine OpK.convInt (k' := .u32) (by kernel_rfl) (by kernel_rfl) rfl ?_
  refine OpK.shl rfl rfl (by decide) ?_
  refine OpK.or rfl rfl ?_
  refine CWL.reg (ops := [(.indexAddr 22 (.tmp 0) (.const (Go.Value.int Go.IntKind.i64 1)), 0), (.load 5 (.tmp 1), 5), (.binOp .and 5 (.tmp 3) (.const (Go.Value.int Go.IntKind.u8 128)) 5, 5), (.binOp .eql 5 (.tmp 5) (.const (Go.Value.int Go.IntKind.u8 0)) 5, 4)]) (b := [(35, 7), (34, 5), (33, 3), (32, 1), (31, 0)]) (by kernel_rfl) ?_
  refine OpK.indexAddr (s := 1) (j := 1) (by kernel_rfl) rfl rfl (by simp only [List.length_cons]; omega) ?_
  refine OpK.load (by kernel_rfl) rfl hO1 ?_
  refine OpK.and rfl rfl ?_
  refine OpK.cmp rfl rfl rfl ?_
  by_cases hb1 : b1.toNat < 128
  · refine CWL.condT (congrArg Value.bool (u8_last b1 hb1)) ?_
    simp only [flat, List.cons_append, List.nil_append, List.append_nil]
    refine CWL.reg (ops := [(.assign (.const (Go.Value.int Go.IntKind.i64 2)), 3)]) (b := [(3, 1), (2, 8), (36, 8)]) (by kernel_rfl) ?_
    refine OpK.assign ?_
    refine CWL.ret ?_
    exact ⟨_, rfl, _, _, rfl, rfl, uv_is2 b0 b1 hb0 hb1⟩
  refine CWL.condF (congrArg Value.bool (u8_more b1 hb1)) ?_
  simp only [flat, List.cons_append, List.nil_append, List.append_nil]
  refine CWL.reg (ops := [(.call ⟨.builtin .len, #[.tmp 0], #[22]⟩, 3), (.binOp .lss 3 (.tmp 1) (.const (Go.Value.int Go.IntKind.i64 3)) 3, 4)]) (b := [(39, 3), (38, 1), (37, 0)]) (by kernel_rfl) ?_
  refine OpK.len (e := 5) (by kernel_rfl) rfl ?_
  refine OpK.cmp rfl rfl rfl ?_
  rcases l with _ | ⟨b2, l⟩
  · refine CWL.condT rfl ?_
    simp only [flat, List.cons_append, List.nil_append, List.append_nil]
    exact CWL.cons (CW.goto_ ⟨rfl, rfl, by simp [decUv, decUvA, hb0, hb1], _, rfl, by decide⟩)
  refine CWL.condF (congrArg Value.bool (decide_eq_false (by simp only [List.length_cons]; omega))) ?_
  simp only [flat, List.cons_append, List.nil_append, List.append_nil]
  have hO2 : w.cell? (a'.add (2 * 1)) = some (bv b2) := hO 2 b2 rfl
  refine CWL.reg (ops := [(.indexAddr 22 (.tmp 0) (.const (Go.Value.int Go.IntKind.i64 2)), 0), (.load 5 (.tmp 1), 5), (.binOp .and 5 (.tmp 3) (.const (Go.Value.int Go.IntKind.u8 127)) 5, 5), (.convert 5 53 (.tmp 5), 53), (.binOp .shl 53 (.tmp 7) (.const (Go.Value.int Go.IntKind.u64 14)) 102, 53), (.binOp .or 53 (.tmp 8) (.tmp 9) 53, 53)]) (b := [(4, 11), (47, 11), (46, 9), (45, 7), (44, 5), (43, 3), (42, 1), (41, 0), (40, 8)]) (by kernel_rfl) ?_
  refine OpK.indexAddr (s := 1) (j := 2) (by kernel_rfl) rfl rfl (by simp only [List.length_cons]; omega) ?_
  refine OpK.load (by kernel_rfl) rfl hO2 ?_
  refine OpK.and rfl rfl ?_
  refine OpK.convInt (k' := .u32) (by kernel_rfl) (by kernel_rfl) rfl ?_
  refine OpK.shl rfl rfl (by decide) ?_
  refine OpK.or rfl rfl ?_
  refine CWL.reg (ops := [(.indexAddr 22 (.tmp 0) (.const (Go.Value.int Go.IntKind.i64 2)), 0), (.load 5 (.tmp 1), 5), (.binOp .and 5 (.tmp 3) (.const (Go.Value.int Go.IntKind.u8 128)) 5, 5), (.binOp .eql 5 (.tmp 5) (.const (Go.Value.int Go.IntKind.u8 0)) 5, 4)]) (b := [(52, 7), (51, 5), (50, 3), (49, 1), (48, 0)]) (by kernel_rfl) ?_
  refine OpK.indexAddr (s := 1) (j := 2) (by kernel_rfl) rfl rfl (by simp only [List.length_cons]; omega) ?_
  refine OpK.load (by kernel_rfl) rfl hO2 ?_
  refine OpK.and rfl rfl ?_
  refine OpK.cmp rfl rfl rfl ?_
  by_cases hb2 : b2.toNat < 128
  · refine CWL.condT (congrArg Value.bool (u8_last b2 hb2)) ?_
    simp only [flat, List.cons_append, List.nil_append, List.append_nil]
    refine CWL.reg (ops := [(.assign (.const (Go.Value.int Go.IntKind.i64 3)), 3)]) (b := [(3, 1), (2, 8), (53, 8)]) (by kernel_rfl) ?_
    refine OpK.assign ?_
    refine CWL.ret ?_
    exact ⟨_, rfl, _, _, rfl, rfl, uv_is3 b0 b1 b2 hb0 hb1 hb2⟩
  refine CWL.condF (congrArg Value.bool (u8_more b2 hb2)) ?_
  simp only [flat, List.cons_append, List.nil_append, List.append_nil]
  refine CWL.reg (ops := [(.call ⟨.builtin .len, #[.tmp 0], #[22]⟩, 3), (.binOp .lss 3 (.tmp 1) (.const (Go.Value.int Go.IntKind.i64 4)) 3, 4)]) (b := [(56, 3), (55, 1), (54, 0)]) (by kernel_rfl) ?_
  refine OpK.len (e := 5) (by kernel_rfl) rfl ?_
  refine OpK.cmp rfl rfl rfl ?_
  rcases l with _ | ⟨b3, l⟩
  · refine CWL.condT rfl ?_
    simp only [flat, List.cons_append, List.nil_append, List.append_nil]
    exact CWL.cons (CW.goto_ ⟨rfl, rfl, by simp [decUv, decUvA, hb0, hb1, hb2], _, rfl, by decide⟩)
  refine CWL.condF (congrArg Value.bool (decide_eq_false (by simp only [List.length_cons]; omega))) ?_
  simp only [flat, List.cons_append, List.nil_append, List.append_nil]
  have hO3 : w.cell? (a'.add (3 * 1)) = some (bv b3) := hO 3 b3 rfl
  refine CWL.reg (ops := [(.indexAddr 22 (.tmp 0) (.const (Go.Value.int Go.IntKind.i64 3)), 0), (.load 5 (.tmp 1), 5), (.binOp .and 5 (.tmp 3) (.const (Go.Value.int Go.IntKind.u8 127)) 5, 5), (.convert 5 53 (.tmp 5), 53), (.binOp .shl 53 (.tmp 7) (.const (Go.Value.int Go.IntKind.u64 21)) 102, 53), (.binOp .or 53 (.tmp 8) (.tmp 9) 53, 53)]) (b := [(4, 11), (64, 11), (63, 9), (62, 7), (61, 5), (60, 3), (59, 1), (58, 0), (57, 8)]) (by kernel_rfl) ?_
  refine OpK.indexAddr (s := 1) (j := 3) (by kernel_rfl) rfl rfl (by simp only [List.length_cons]; omega) ?_
  refine OpK.load (by kernel_rfl) rfl hO3 ?_
  refine OpK.and rfl rfl ?_
  refine OpK.convInt (k' := .u32) (by kernel_rfl) (by kernel_rfl) rfl ?_
  refine OpK.shl rfl rfl (by decide) ?_
  refine OpK.or rfl rfl ?_
  refine CWL.reg (ops := [(.indexAddr 22 (.tmp 0) (.const (Go.Value.int Go.IntKind.i64 3)), 0), (.load 5 (.tmp 1), 5), (.binOp .and 5 (.tmp 3) (.const (Go.Value.int Go.IntKind.u8 128)) 5, 5), (.binOp .eql 5 (.tmp 5) (.const (Go.Value.int Go.IntKind.u8 0)) 5, 4)]) (b := [(69, 7), (68, 5), (67, 3), (66, 1), (65, 0)]) (by kernel_rfl) ?_
  refine OpK.indexAddr (s := 1) (j := 3) (by kernel_rfl) rfl rfl (by simp only [List.length_cons]; omega) ?_
  refine OpK.load (by kernel_rfl) rfl hO3 ?_
  refine OpK.and rfl rfl ?_
  refine OpK.cmp rfl rfl rfl ?_
  by_cases hb3 : b3.toNat < 128
  · refine CWL.condT (congrArg Value.bool (u8_last b3 hb3)) ?_
    simp only [flat, List.cons_append, List.nil_append, List.append_nil]
    refine CWL.reg (ops := [(.assign (.const (Go.Value.int Go.IntKind.i64 4)), 3)]) (b := [(3, 1), (2, 8), (70, 8)]) (by kernel_rfl) ?_
    refine OpK.assign ?_
    refine CWL.ret ?_
    exact ⟨_, rfl, _, _, rfl, rfl, uv_is4 b0 b1 b2 b3 hb0 hb1 hb2 hb3⟩
  refine CWL.condF (congrArg Value.bool (u8_more b3 hb3)) ?_
  simp only [flat, List.cons_append, List.nil_append, List.append_nil]
  refine CWL.reg (ops := [(.call ⟨.builtin .len, #[.tmp 0], #[22]⟩, 3), (.binOp .lss 3 (.tmp 1) (.const (Go.Value.int Go.IntKind.i64 5)) 3, 4)]) (b := [(73, 3), (72, 1), (71, 0)]) (by kernel_rfl) ?_
  refine OpK.len (e := 5) (by kernel_rfl) rfl ?_
  refine OpK.cmp rfl rfl rfl ?_
  rcases l with _ | ⟨b4, l⟩
  · refine CWL.condT rfl ?_
    simp only [flat, List.cons_append, List.nil_append, List.append_nil]
    exact CWL.cons (CW.goto_ ⟨rfl, rfl, by simp [decUv, decUvA, hb0, hb1, hb2, hb3], _, rfl, by decide⟩)
  refine CWL.condF (congrArg Value.bool (decide_eq_false (by simp only [List.length_cons]; omega))) ?_
  simp only [flat, List.cons_append, List.nil_append, List.append_nil]
  have hO4 : w.cell? (a'.add (4 * 1)) = some (bv b4) := hO 4 b4 rfl
  refine CWL.reg (ops := [(.indexAddr 22 (.tmp 0) (.const (Go.Value.int Go.IntKind.i64 4)), 0), (.load 5 (.tmp 1), 5), (.convert 5 53 (.tmp 3), 53), (.binOp .shl 53 (.tmp 5) (.const (Go.Value.int Go.IntKind.u64 28)) 102, 53), (.binOp .or 53 (.tmp 8) (.tmp 7) 53, 53)]) (b := [(4, 9), (80, 9), (79, 7), (78, 5), (77, 3), (76, 1), (75, 0), (74, 8)]) (by kernel_rfl) ?_
  refine OpK.indexAddr (s := 1) (j := 4) (by kernel_rfl) rfl rfl (by simp only [List.length_cons]; omega) ?_
  refine OpK.load (by kernel_rfl) rfl hO4 ?_
  refine OpK.convInt (k' := .u32) (by kernel_rfl) (by kernel_rfl) rfl ?_
  refine OpK.shl rfl rfl (by decide) ?_
  refine OpK.or rfl rfl ?_
  refine CWL.reg (ops := [(.indexAddr 22 (.tmp 0) (.const (Go.Value.int Go.IntKind.i64 4)), 0), (.load 5 (.tmp 1), 5), (.binOp .leq 5 (.tmp 3) (.const (Go.Value.int Go.IntKind.u8 15)) 5, 4)]) (b := [(84, 5), (83, 3), (82, 1), (81, 0)]) (by kernel_rfl) ?_
  refine OpK.indexAddr (s := 1) (j := 4) (by kernel_rfl) rfl rfl (by simp only [List.length_cons]; omega) ?_
  refine OpK.load (by kernel_rfl) rfl hO4 ?_
  refine OpK.cmp rfl rfl rfl ?_
  by_cases hb4 : b4.toNat ≤ 15
  · refine CWL.condT (congrArg Value.bool (decide_eq_true (by omega))) ?_
    simp only [flat, List.cons_append, List.nil_append, List.append_nil]
    refine CWL.reg (ops := [(.assign (.const (Go.Value.int Go.IntKind.i64 5)), 3)]) (b := [(3, 1), (2, 8), (85, 8)]) (by kernel_rfl) ?_
    refine OpK.assign ?_
    refine CWL.ret ?_
    exact ⟨_, rfl, _, _, rfl, rfl, uv_is5 b0 b1 b2 b3 b4 hb0 hb1 hb2 hb3 hb4⟩
  refine CWL.condF (congrArg Value.bool (decide_eq_false (by omega))) ?_
  simp only [flat, List.cons_append, List.nil_append, List.append_nil]
  refine CWL.reg (ops := [(.assign (.const (Go.Value.int Go.IntKind.i64 (-5))), 3)]) (b := [(5, 1)]) (by kernel_rfl) ?_
  refine OpK.assign ?_
  refine CWL.cons (CW.label_ ?_)
  simp only [Then]
  refine CWL.reg (ops := [(.assign (.const (Go.Value.int Go.IntKind.u32 0)), 53)]) (b := [(3, 10), (2, 1), (86, 10)]) (by kernel_rfl) ?_
  refine OpK.assign ?_
  refine CWL.ret ?_
  exact ⟨_, rfl, 0, -5, rfl, rfl, by unfold UvIs; simp [decUv, decUvA, hb0, hb1, hb2, hb3, hb4]⟩

theorem call77 : Callable Tryz.prog 77 := ⟨Tryz.f77, Tryz.func77, by kernel_rfl, by kernel_rfl⟩
set_option maxHeartbeats 4000000 in
theorem r77 (w : World) (S : Nat → Prop) (hS : ∀ k, S k → k < w.heap.size) (g : Nat) (t : TypeId) (s : Rs) (h : RdIs w S g t s) :
    Calls Tryz.prog 77 #[.pointer (some ⟨g, 0, none⟩)] w fun en w' => ∃ (x : Nat) (s' : Rs), en = .returned (.int .u32 x) ∧ x < 4294967296 ∧ RdIs w' S g t s' ∧ Ch (fun k => k = g) w w' ∧ Got s.o decUv x s' ∧ (s'.bad = false → NN w' g) := by
  obtain ⟨v, hb, hs, hg⟩ := id h
  obtain ⟨a, c, rfl, hlc⟩ := hs.form
  have hc0 : w.cell? ((⟨g, 0, none⟩ : Addr).add 0) = some (.slice a s.rest.length c) := hb.cell 0
  have hgl := hb.lt
  refine (Calls.of_CW (R := fun v w' => ∃ (x : Nat) (s' : Rs), v = .int .u32 x ∧ x < 4294967296 ∧ RdIs w' S g t s' ∧ Ch (fun k => k = g) w w' ∧ Got s.o decUv x s' ∧ (s'.bad = false → NN w' g)) Tryz.func77 rfl (by decide +kernel) (Nat.le_of_ble_eq_true (by kernel_rfl)) (CW.of_flat ?_)).mono fun en w' ⟨v, he, x, s', hv, hR⟩ => ⟨x, s', by rw [he, hv], hR⟩
  simp only [flat, List.cons_append, List.nil_append, List.append_nil]
  refine CWL.reg (ops := [(.assign (.const (Go.Value.int Go.IntKind.u32 0)), 53)]) (b := [(2, 1)]) (by kernel_rfl) ?_
  refine OpK.assign ?_
  refine CWL.reg (ops := [(.nilCheck (.tmp 0), 0), (.fieldAddr 104 (.tmp 1) 0, 0), (.load 22 (.tmp 3), 22), (.call ⟨.value (.func 85), #[.tmp 5], #[22]⟩, 129), (.extract (.tmp 7) 0, 53), (.extract (.tmp 7) 1, 3)]) (b := [(4, 11), (3, 9), (12, 11), (11, 9), (5, 7), (10, 7), (9, 5), (8, 3), (7, 1), (6, 0)]) (by kernel_rfl) ?_
  refine OpK.nilCheck rfl ?_
  refine OpK.fieldAddr (off := 0) (by kernel_rfl) rfl ?_
  refine OpK.load (by kernel_rfl) rfl hc0 ?_
  refine OpK.asCall rfl call85 rfl ((uv85 w S s.rest _ hs).mono ?_)
  rintro en w1 ⟨x, m, he1, rfl, hu⟩
  refine ⟨_, he1, ?_⟩
  refine OpK.extract rfl rfl ?_
  refine OpK.extract rfl rfl ?_
  refine CWL.reg (ops := [(.binOp .leq 3 (.tmp 8) (.const (Go.Value.int Go.IntKind.i64 0)) 3, 4)]) (b := [(14, 1), (13, 8)]) (by kernel_rfl) ?_
  refine OpK.cmp rfl rfl rfl ?_
  unfold UvIs at hu
  cases hd : decUv s.rest with
  | none =>
    rw [hd] at hu
    refine CWL.condT (congrArg Value.bool (decide_eq_true hu.2)) ?_
    simp only [flat, List.cons_append, List.nil_append, List.append_nil]
    refine CWL.reg (ops := [(.nilCheck (.tmp 0), 0), (.fieldAddr 104 (.tmp 1) 1, 0), (.store 4 (.tmp 3) (.const (Go.Value.bool true)), 0)]) (b := [(17, 3), (16, 1), (15, 0)]) (by kernel_rfl) ?_
    refine OpK.nilCheck rfl ?_
    refine OpK.fieldAddr (off := 1) (by kernel_rfl) rfl ?_
    refine OpK.store (by kernel_rfl) rfl rfl rfl (show (w1.cell? ⟨g, 1, none⟩).isSome = true by rw [hb.cell 1]; rfl) (hb.free 1) ?_
    have hb1 := hb.set 1 (.bool true)
    refine CWL.reg (ops := [(.nilCheck (.tmp 0), 0), (.fieldAddr 104 (.tmp 1) 0, 0), (.store 22 (.tmp 3) (.const (Go.Value.slice none 0 0)), 0)]) (b := [(20, 3), (19, 1), (18, 0)]) (by kernel_rfl) ?_
    refine OpK.nilCheck rfl ?_
    refine OpK.fieldAddr (off := 0) (by kernel_rfl) rfl ?_
    refine OpK.store (by kernel_rfl) rfl rfl rfl (show ((w1.setCell ⟨g, 1, none⟩ (.bool true)).cell? ⟨g, 0, none⟩).isSome = true by rw [hb1.cell 0]; rfl) (hb1.free 0) ?_
    refine CWL.reg (ops := [(.assign (.const (Go.Value.int Go.IntKind.u32 0)), 53)]) (b := [(2, 1)]) (by kernel_rfl) ?_
    refine OpK.assign ?_
    refine CWL.ret ?_
    exact ⟨_, rfl, 0, Rs.fail, rfl, by decide, h.fail.1, h.fail.2, Got.of (fun _ => rfl) (fun _ => by rw [hd]; rfl), fun h => by cases h⟩
  | some y =>
    rw [hd] at hu
    obtain ⟨rfl, hm⟩ := hu
    have hlt := decUv_lt hd
    have hle := decUv_len hd
    have hup := uvar_pos y.1
    obtain ⟨mn, rfl⟩ : ∃ mn : Nat, m = (mn : Int) := ⟨m.toNat, by omega⟩
    have hdrop : s.rest.drop mn = y.2 := uv_drop hd (by omega)
    obtain ⟨a', rfl, _, hSa, hO⟩ := hs.some_ (fun e => by rw [e] at hd; cases hd)
    refine CWL.condF (congrArg Value.bool (decide_eq_false (by omega))) ?_
    simp only [flat, List.cons_append, List.nil_append, List.append_nil]
    refine CWL.reg (ops := [(.nilCheck (.tmp 0), 0), (.fieldAddr 104 (.tmp 1) 0, 0), (.load 22 (.tmp 3), 22), (.slice 22 (.tmp 5) (some (.tmp 8)) none none, 22), (.nilCheck (.tmp 0), 0), (.fieldAddr 104 (.tmp 9) 0, 0), (.store 22 (.tmp 11) (.tmp 7), 0)]) (b := [(29, 11), (28, 9), (27, 7), (26, 8), (25, 5), (24, 3), (23, 1), (22, 0), (21, 0)]) (by kernel_rfl) ?_
    refine OpK.nilCheck rfl ?_
    refine OpK.fieldAddr (off := 0) (by kernel_rfl) rfl ?_
    refine OpK.load (by kernel_rfl) rfl hc0 ?_
    refine OpK.sliceFrom (e := 5) (j := mn) (by kernel_rfl) (by kernel_rfl) rfl rfl (by omega) hlc ?_
    refine OpK.nilCheck rfl ?_
    refine OpK.fieldAddr (off := 0) (by kernel_rfl) rfl ?_
    refine OpK.store (by kernel_rfl) rfl rfl rfl (show (w1.cell? ⟨g, 0, none⟩).isSome = true by rw [hb.cell 0]; rfl) (hb.free 0) ?_
    refine CWL.reg (ops := []) (b := [(2, 6), (30, 6)]) (by kernel_rfl) ?_
    refine CWL.ret ?_
    have hst := h.step (hs.drop (j := mn) (by omega))
    rw [hdrop] at hst
    exact ⟨_, rfl, y.1, ⟨y.2, s.bad⟩, rfl, hlt, hst.1, hst.2, Got.of (fun hb => hb) (fun hb => by rw [hd, hb]; exact ⟨rfl, rfl⟩), fun _ => NN.of_step hb a' c mn _ _⟩

theorem call53 : Callable Tryz.prog 53 := ⟨Tryz.f53, Tryz.func53, by kernel_rfl, by kernel_rfl⟩
set_option maxHeartbeats 4000000 in
theorem ok53 (gE : Nat) (eV : Value) : RfOk Tryz.prog gE eV 53 (.len false) := by
  intro w S g t s hS h
  refine (Calls.of_CW (R := fun v w' => ∃ (m : Int) (s' : Rs), v = .int .i32 m ∧ RdIs w' S g t s' ∧ Ch (fun k => k = g) w w' ∧ (-2147483648 ≤ m ∧ m < 2147483648) ∧ Got s.o (decLen false) m s') Tryz.func53 rfl (by decide +kernel) (Nat.le_of_ble_eq_true (by kernel_rfl)) (CW.of_flat ?_)).mono fun en w' ⟨v, he, m, s', hv, hR⟩ => ⟨m, s', by rw [he, hv], hR⟩
  simp only [flat, List.cons_append, List.nil_append, List.append_nil]
  refine CWL.reg (ops := [(.assign (.const (Go.Value.int Go.IntKind.i32 0)), 21)]) (b := [(2, 1)]) (by kernel_rfl) ?_
  refine OpK.assign ?_
  refine CWL.reg (ops := [(.call ⟨.value (.func 51), #[.tmp 0], #[112]⟩, 21)]) (b := [(3, 1), (5, 1), (4, 0)]) (by kernel_rfl) ?_
  refine OpK.asCall rfl call51 rfl ((r51 w S hS g t s h).mono ?_)
  rintro en w1 ⟨v1, he1, hv1, h1, hch, _⟩
  subst hv1
  refine ⟨_, he1, ?_⟩
  have hcnt : Got s.o (decCnt false) (rdInt .i32 4 s).1 (rdInt .i32 4 s).2 := got_int .i32 4 s
  have hin := rdInt_i32 s
  generalize rdInt .i32 4 s = q at h1 hin hcnt ⊢
  obtain ⟨n, s1⟩ := q
  simp only at h1 hin hcnt ⊢
  have hlen := got_check hcnt
  obtain ⟨v, hb, hs, hg⟩ := id h1
  obtain ⟨a, c, rfl, hlc⟩ := hs.form
  have hc0 : w1.cell? ((⟨g, 0, none⟩ : Addr).add 0) = some (.slice a s1.rest.length c) := hb.cell 0
  refine CWL.reg (ops := [(.nilCheck (.tmp 0), 0), (.fieldAddr 104 (.tmp 1) 0, 0), (.load 22 (.tmp 3), 22), (.call ⟨.builtin .len, #[.tmp 5], #[22]⟩, 3), (.convert 21 3 (.tmp 6), 3), (.binOp .lss 3 (.tmp 7) (.tmp 9) 3, 4)]) (b := [(13, 11), (12, 9), (11, 6), (10, 7), (9, 5), (8, 3), (7, 1), (6, 0)]) (by kernel_rfl) ?_
  refine OpK.nilCheck rfl ?_
  refine OpK.fieldAddr (off := 0) (by kernel_rfl) rfl ?_
  refine OpK.load (by kernel_rfl) rfl hc0 ?_
  refine OpK.len (e := 5) (by kernel_rfl) rfl ?_
  refine OpK.convInt (k' := .i64) (by kernel_rfl) (by kernel_rfl) rfl ?_
  refine OpK.cmp rfl rfl rfl ?_
  by_cases hlt : (s1.rest.length : Int) < n
  · rw [if_pos hlt] at hlen
    refine CWL.condT (congrArg Value.bool (decide_eq_true (by rw [i64_in n hin.1 hin.2]; exact hlt))) ?_
    simp only [flat, List.cons_append, List.nil_append, List.append_nil]
    refine CWL.reg (ops := [(.nilCheck (.tmp 0), 0), (.fieldAddr 104 (.tmp 1) 1, 0), (.store 4 (.tmp 3) (.const (Go.Value.bool true)), 0)]) (b := [(16, 3), (15, 1), (14, 0)]) (by kernel_rfl) ?_
    refine OpK.nilCheck rfl ?_
    refine OpK.fieldAddr (off := 1) (by kernel_rfl) rfl ?_
    refine OpK.store (by kernel_rfl) rfl rfl rfl (show (w1.cell? ⟨g, 1, none⟩).isSome = true by rw [hb.cell 1]; rfl) (hb.free 1) ?_
    have hb1 := hb.set 1 (.bool true)
    refine CWL.reg (ops := [(.nilCheck (.tmp 0), 0), (.fieldAddr 104 (.tmp 1) 0, 0), (.store 22 (.tmp 3) (.const (Go.Value.slice none 0 0)), 0)]) (b := [(19, 3), (18, 1), (17, 0)]) (by kernel_rfl) ?_
    refine OpK.nilCheck rfl ?_
    refine OpK.fieldAddr (off := 0) (by kernel_rfl) rfl ?_
    refine OpK.store (by kernel_rfl) rfl rfl rfl (show ((w1.setCell ⟨g, 1, none⟩ (.bool true)).cell? ⟨g, 0, none⟩).isSome = true by rw [hb1.cell 0]; rfl) (hb1.free 0) ?_
    refine CWL.reg (ops := [(.assign (.const (Go.Value.int Go.IntKind.i32 0)), 21)]) (b := [(2, 1)]) (by kernel_rfl) ?_
    refine OpK.assign ?_
    refine CWL.ret ?_
    exact ⟨_, rfl, 0, Rs.fail, rfl, h1.fail.1, hch.trans' h1.fail.2, by decide, hlen⟩
  · rw [if_neg hlt] at hlen
    refine CWL.condF (congrArg Value.bool (decide_eq_false (by rw [i64_in n hin.1 hin.2]; exact hlt))) ?_
    simp only [flat, List.cons_append, List.nil_append, List.append_nil]
    refine CWL.reg (ops := []) (b := [(2, 6), (20, 6)]) (by kernel_rfl) ?_
    refine CWL.ret ?_
    exact ⟨_, rfl, n, s1, rfl, h1, hch, hin, hlen⟩

theorem call52 : Callable Tryz.prog 52 := ⟨Tryz.f52, Tryz.func52, by kernel_rfl, by kernel_rfl⟩
set_option maxHeartbeats 4000000 in
theorem ok52 (gE : Nat) (eV : Value) : RfOk Tryz.prog gE eV 52 (.len true) := by
  intro w S g t s hS h
  refine (Calls.of_CW (R := fun v w' => ∃ (m : Int) (s' : Rs), v = .int .i32 m ∧ RdIs w' S g t s' ∧ Ch (fun k => k = g) w w' ∧ (-2147483648 ≤ m ∧ m < 2147483648) ∧ Got s.o (decLen true) m s') Tryz.func52 rfl (by decide +kernel) (Nat.le_of_ble_eq_true (by kernel_rfl)) (CW.of_flat ?_)).mono fun en w' ⟨v, he, m, s', hv, hR⟩ => ⟨m, s', by rw [he, hv], hR⟩
  simp only [flat, List.cons_append, List.nil_append, List.append_nil]
  refine CWL.reg (ops := [(.assign (.const (Go.Value.int Go.IntKind.i32 0)), 21)]) (b := [(2, 1)]) (by kernel_rfl) ?_
  refine OpK.assign ?_
  refine CWL.reg (ops := [(.call ⟨.value (.func 77), #[.tmp 0], #[112]⟩, 53), (.convert 53 21 (.tmp 1), 21), (.binOp .sub 21 (.tmp 3) (.const (Go.Value.int Go.IntKind.i32 1)) 21, 21)]) (b := [(3, 5), (7, 5), (6, 3), (5, 1), (4, 0)]) (by kernel_rfl) ?_
  refine OpK.asCall rfl call77 rfl ((r77 w S hS g t s h).mono ?_)
  rintro en w1 ⟨x, s1, he1, hx, h1, hch, hgot, _⟩
  refine ⟨_, he1, ?_⟩
  refine OpK.convInt (k' := .i32) (by kernel_rfl) (by kernel_rfl) rfl ?_
  refine OpK.arith rfl rfl rfl ?_
  have hcnt : Got s.o (decCnt true) (IntKind.i32.wrap (IntKind.i32.wrap (x : Int) - 1)) s1 := hgot.map fun x => IntKind.i32.wrap (IntKind.i32.wrap (x : Int) - 1)
  have hin : -2147483648 ≤ IntKind.i32.wrap (IntKind.i32.wrap (x : Int) - 1) ∧ IntKind.i32.wrap (IntKind.i32.wrap (x : Int) - 1) < 2147483648 := by rw [IntKind.wrap_i32]; omega
  generalize IntKind.i32.wrap (IntKind.i32.wrap (x : Int) - 1) = n at hcnt hin ⊢
  have hlen := got_check hcnt
  obtain ⟨v, hb, hs, hg⟩ := id h1
  obtain ⟨a, c, rfl, hlc⟩ := hs.form
  have hc0 : w1.cell? ((⟨g, 0, none⟩ : Addr).add 0) = some (.slice a s1.rest.length c) := hb.cell 0
  refine CWL.reg (ops := [(.nilCheck (.tmp 0), 0), (.fieldAddr 104 (.tmp 1) 0, 0), (.load 22 (.tmp 3), 22), (.call ⟨.builtin .len, #[.tmp 5], #[22]⟩, 3), (.convert 21 3 (.tmp 6), 3), (.binOp .lss 3 (.tmp 7) (.tmp 9) 3, 4)]) (b := [(15, 11), (14, 9), (13, 6), (12, 7), (11, 5), (10, 3), (9, 1), (8, 0)]) (by kernel_rfl) ?_
  refine OpK.nilCheck rfl ?_
  refine OpK.fieldAddr (off := 0) (by kernel_rfl) rfl ?_
  refine OpK.load (by kernel_rfl) rfl hc0 ?_
  refine OpK.len (e := 5) (by kernel_rfl) rfl ?_
  refine OpK.convInt (k' := .i64) (by kernel_rfl) (by kernel_rfl) rfl ?_
  refine OpK.cmp rfl rfl rfl ?_
  by_cases hlt : (s1.rest.length : Int) < n
  · rw [if_pos hlt] at hlen
    refine CWL.condT (congrArg Value.bool (decide_eq_true (by rw [i64_in n hin.1 hin.2]; exact hlt))) ?_
    simp only [flat, List.cons_append, List.nil_append, List.append_nil]
    refine CWL.reg (ops := [(.nilCheck (.tmp 0), 0), (.fieldAddr 104 (.tmp 1) 1, 0), (.store 4 (.tmp 3) (.const (Go.Value.bool true)), 0)]) (b := [(18, 3), (17, 1), (16, 0)]) (by kernel_rfl) ?_
    refine OpK.nilCheck rfl ?_
    refine OpK.fieldAddr (off := 1) (by kernel_rfl) rfl ?_
    refine OpK.store (by kernel_rfl) rfl rfl rfl (show (w1.cell? ⟨g, 1, none⟩).isSome = true by rw [hb.cell 1]; rfl) (hb.free 1) ?_
    have hb1 := hb.set 1 (.bool true)
    refine CWL.reg (ops := [(.nilCheck (.tmp 0), 0), (.fieldAddr 104 (.tmp 1) 0, 0), (.store 22 (.tmp 3) (.const (Go.Value.slice none 0 0)), 0)]) (b := [(21, 3), (20, 1), (19, 0)]) (by kernel_rfl) ?_
    refine OpK.nilCheck rfl ?_
    refine OpK.fieldAddr (off := 0) (by kernel_rfl) rfl ?_
    refine OpK.store (by kernel_rfl) rfl rfl rfl (show ((w1.setCell ⟨g, 1, none⟩ (.bool true)).cell? ⟨g, 0, none⟩).isSome = true by rw [hb1.cell 0]; rfl) (hb1.free 0) ?_
    refine CWL.reg (ops := [(.assign (.const (Go.Value.int Go.IntKind.i32 0)), 21)]) (b := [(2, 1)]) (by kernel_rfl) ?_
    refine OpK.assign ?_
    refine CWL.ret ?_
    exact ⟨_, rfl, 0, Rs.fail, rfl, h1.fail.1, hch.trans' h1.fail.2, by decide, hlen⟩
  · rw [if_neg hlt] at hlen
    refine CWL.condF (congrArg Value.bool (decide_eq_false (by rw [i64_in n hin.1 hin.2]; exact hlt))) ?_
    simp only [flat, List.cons_append, List.nil_append, List.append_nil]
    refine CWL.reg (ops := []) (b := [(2, 6), (22, 6)]) (by kernel_rfl) ?_
    refine CWL.ret ?_
    exact ⟨_, rfl, n, s1, rfl, h1, hch, hin, hlen⟩

theorem call80 : Callable Tryz.prog 80 := ⟨Tryz.f80, Tryz.func80, by kernel_rfl, by kernel_rfl⟩
set_option maxHeartbeats 4000000 in
theorem sp80 (w : World) (S : Nat → Prop) (hS : ∀ k, S k → k < w.heap.size) (g : Nat) (t : TypeId) (s : Rs) (h : RdIs w S g t s) (n : Int) :
    Calls Tryz.prog 80 #[.pointer (some ⟨g, 0, none⟩), .int .i64 n] w fun en w' => ∃ v, en = .returned v ∧ SrcIs w' S ((rdSpan n s).1.getD []) v ∧ RdIs w' S g t (rdSpan n s).2 ∧ Ch (fun k => k = g) w w' ∧ ((rdSpan n s).2.bad = false → NN w g → v ≠ .slice none 0 0) := by
  obtain ⟨v, hb, hs, hg⟩ := id h
  obtain ⟨a, c, rfl, hlc⟩ := hs.form
  have hc0 : w.cell? ((⟨g, 0, none⟩ : Addr).add 0) = some (.slice a s.rest.length c) := hb.cell 0
  have hgl := hb.lt
  by_cases hlt : (s.rest.length : Int) < n
  · have hr : rdSpan n s = (none, Rs.fail) := by unfold rdSpan rdN; rw [if_neg (by omega), if_pos (by omega)]
    refine Calls.of_CW Tryz.func80 rfl (by decide +kernel) (Nat.le_of_ble_eq_true (by kernel_rfl)) (CW.of_flat ?_)
    simp only [flat, List.cons_append, List.nil_append, List.append_nil]
    refine CWL.reg (ops := [(.assign (.const (Go.Value.slice none 0 0)), 22)]) (b := [(4, 1)]) (by kernel_rfl) ?_
    refine OpK.assign ?_
    refine CWL.cons (CW.region ?_)
    refine RW.want rfl (OpK.move ?_)
    refine RW.want rfl (OpK.nilCheck rfl ?_)
    refine RW.want rfl (OpK.fieldAddr (off := 0) (by kernel_rfl) rfl ?_)
    refine RW.want rfl (OpK.load (by kernel_rfl) rfl hc0 ?_)
    refine RW.want rfl (OpK.len (e := 5) (by kernel_rfl) rfl ?_)
    refine RW.want rfl (OpK.move ?_)
    refine RW.want rfl (OpK.cmp rfl rfl rfl ?_)
    refine RW.want rfl (OpK.move ?_)
    refine RW.skip (guard_not false (decide_eq_true hlt)) ?_
    refine RW.skip (guard_not false (decide_eq_true hlt)) ?_
    refine RW.want rfl (OpK.pick rfl ?_)
    refine RW.z ?_
    refine CWL.condT (by simp only [Then, ev_tmp]; simp [upd, hlt]) ?_
    simp only [flat, List.cons_append, List.nil_append, List.append_nil]
    refine CWL.reg (ops := [(.nilCheck (.tmp 0), 0), (.fieldAddr 104 (.tmp 1) 1, 0), (.store 4 (.tmp 3) (.const (Go.Value.bool true)), 0)]) (b := [(19, 3), (18, 1), (17, 0)]) (by kernel_rfl) ?_
    refine OpK.nilCheck rfl ?_
    refine OpK.fieldAddr (off := 1) (by kernel_rfl) rfl ?_
    refine OpK.store (by kernel_rfl) rfl rfl rfl (show (w.cell? ⟨g, 1, none⟩).isSome = true by rw [hb.cell 1]; rfl) (hb.free 1) ?_
    have hb1 := hb.set 1 (.bool true)
    refine CWL.reg (ops := [(.nilCheck (.tmp 0), 0), (.fieldAddr 104 (.tmp 1) 0, 0), (.store 22 (.tmp 3) (.const (Go.Value.slice none 0 0)), 0)]) (b := [(22, 3), (21, 1), (20, 0)]) (by kernel_rfl) ?_
    refine OpK.nilCheck rfl ?_
    refine OpK.fieldAddr (off := 0) (by kernel_rfl) rfl ?_
    refine OpK.store (by kernel_rfl) rfl rfl rfl (show ((w.setCell ⟨g, 1, none⟩ (.bool true)).cell? ⟨g, 0, none⟩).isSome = true by rw [hb1.cell 0]; rfl) (hb1.free 0) ?_
    refine CWL.reg (ops := [(.assign (.const (Go.Value.slice none 0 0)), 22)]) (b := [(4, 1)]) (by kernel_rfl) ?_
    refine OpK.assign ?_
    refine CWL.ret ?_
    rw [hr]
    exact ⟨_, rfl, .inl ⟨rfl, rfl⟩, h.fail.1, h.fail.2, fun h => by cases h⟩
  · by_cases hn : n < 0
    · have hr : rdSpan n s = (none, Rs.fail) := by unfold rdSpan; rw [if_pos hn]
      refine Calls.of_CW Tryz.func80 rfl (by decide +kernel) (Nat.le_of_ble_eq_true (by kernel_rfl)) (CW.of_flat ?_)
      simp only [flat, List.cons_append, List.nil_append, List.append_nil]
      refine CWL.reg (ops := [(.assign (.const (Go.Value.slice none 0 0)), 22)]) (b := [(4, 1)]) (by kernel_rfl) ?_
      refine OpK.assign ?_
      refine CWL.cons (CW.region ?_)
      refine RW.want rfl (OpK.move ?_)
      refine RW.want rfl (OpK.nilCheck rfl ?_)
      refine RW.want rfl (OpK.fieldAddr (off := 0) (by kernel_rfl) rfl ?_)
      refine RW.want rfl (OpK.load (by kernel_rfl) rfl hc0 ?_)
      refine RW.want rfl (OpK.len (e := 5) (by kernel_rfl) rfl ?_)
      refine RW.want rfl (OpK.move ?_)
      refine RW.want rfl (OpK.cmp rfl rfl rfl ?_)
      refine RW.want rfl (OpK.move ?_)
      refine RW.want (guard_is false (decide_eq_false hlt)) (OpK.move ?_)
      refine RW.want (guard_is false (decide_eq_false hlt)) (OpK.cmp rfl rfl rfl ?_)
      refine RW.want rfl (OpK.pick rfl ?_)
      refine RW.z ?_
      refine CWL.condT (by simp only [Then, ev_tmp]; simp [upd, hlt, hn]) ?_
      simp only [flat, List.cons_append, List.nil_append, List.append_nil]
      refine CWL.reg (ops := [(.nilCheck (.tmp 0), 0), (.fieldAddr 104 (.tmp 1) 1, 0), (.store 4 (.tmp 3) (.const (Go.Value.bool true)), 0)]) (b := [(19, 3), (18, 1), (17, 0)]) (by kernel_rfl) ?_
      refine OpK.nilCheck rfl ?_
      refine OpK.fieldAddr (off := 1) (by kernel_rfl) rfl ?_
      refine OpK.store (by kernel_rfl) rfl rfl rfl (show (w.cell? ⟨g, 1, none⟩).isSome = true by rw [hb.cell 1]; rfl) (hb.free 1) ?_
      have hb1 := hb.set 1 (.bool true)
      refine CWL.reg (ops := [(.nilCheck (.tmp 0), 0), (.fieldAddr 104 (.tmp 1) 0, 0), (.store 22 (.tmp 3) (.const (Go.Value.slice none 0 0)), 0)]) (b := [(22, 3), (21, 1), (20, 0)]) (by kernel_rfl) ?_
      refine OpK.nilCheck rfl ?_
      refine OpK.fieldAddr (off := 0) (by kernel_rfl) rfl ?_
      refine OpK.store (by kernel_rfl) rfl rfl rfl (show ((w.setCell ⟨g, 1, none⟩ (.bool true)).cell? ⟨g, 0, none⟩).isSome = true by rw [hb1.cell 0]; rfl) (hb1.free 0) ?_
      refine CWL.reg (ops := [(.assign (.const (Go.Value.slice none 0 0)), 22)]) (b := [(4, 1)]) (by kernel_rfl) ?_
      refine OpK.assign ?_
      refine CWL.ret ?_
      rw [hr]
      exact ⟨_, rfl, .inl ⟨rfl, rfl⟩, h.fail.1, h.fail.2, fun h => by cases h⟩
    · obtain ⟨j, rfl⟩ : ∃ j : Nat, n = (j : Int) := ⟨n.toNat, by omega⟩
      have hr : rdSpan (j : Int) s = (some (s.rest.take j), ⟨s.rest.drop j, s.bad⟩) := by unfold rdSpan rdN; rw [if_neg hn, Int.toNat_natCast, if_neg (by omega)]
      refine Calls.of_CW Tryz.func80 rfl (by decide +kernel) (Nat.le_of_ble_eq_true (by kernel_rfl)) (CW.of_flat ?_)
      simp only [flat, List.cons_append, List.nil_append, List.append_nil]
      refine CWL.reg (ops := [(.assign (.const (Go.Value.slice none 0 0)), 22)]) (b := [(4, 1)]) (by kernel_rfl) ?_
      refine OpK.assign ?_
      refine CWL.cons (CW.region ?_)
      refine RW.want rfl (OpK.move ?_)
      refine RW.want rfl (OpK.nilCheck rfl ?_)
      refine RW.want rfl (OpK.fieldAddr (off := 0) (by kernel_rfl) rfl ?_)
      refine RW.want rfl (OpK.load (by kernel_rfl) rfl hc0 ?_)
      refine RW.want rfl (OpK.len (e := 5) (by kernel_rfl) rfl ?_)
      refine RW.want rfl (OpK.move ?_)
      refine RW.want rfl (OpK.cmp rfl rfl rfl ?_)
      refine RW.want rfl (OpK.move ?_)
      refine RW.want (guard_is false (decide_eq_false hlt)) (OpK.move ?_)
      refine RW.want (guard_is false (decide_eq_false hlt)) (OpK.cmp rfl rfl rfl ?_)
      refine RW.want rfl (OpK.pick rfl ?_)
      refine RW.z ?_
      refine CWL.condF (by simp only [Then, ev_tmp]; simp [upd, hlt]; try omega) ?_
      simp only [flat, List.cons_append, List.nil_append, List.append_nil]
      refine CWL.reg (ops := [(.nilCheck (.tmp 0), 0), (.fieldAddr 104 (.tmp 1) 0, 0), (.load 22 (.tmp 3), 22), (.slice 22 (.tmp 5) none (some (.tmp 2)) (some (.tmp 2)), 22)]) (b := [(5, 7), (29, 7), (28, 2), (27, 2), (26, 5), (25, 3), (24, 1), (23, 0)]) (by kernel_rfl) ?_
      refine OpK.nilCheck rfl ?_
      refine OpK.fieldAddr (off := 0) (by kernel_rfl) rfl ?_
      refine OpK.load (by kernel_rfl) rfl hc0 ?_
      refine OpK.sliceTo3 (e := 5) (j := j) (by kernel_rfl) (by kernel_rfl) rfl rfl rfl (by omega) ?_
      refine CWL.reg (ops := [(.nilCheck (.tmp 0), 0), (.fieldAddr 104 (.tmp 1) 0, 0), (.load 22 (.tmp 3), 22), (.slice 22 (.tmp 5) (some (.tmp 2)) none none, 22), (.nilCheck (.tmp 0), 0), (.fieldAddr 104 (.tmp 9) 0, 0), (.store 22 (.tmp 11) (.tmp 7), 0)]) (b := [(38, 11), (37, 9), (36, 7), (35, 2), (34, 5), (33, 3), (32, 1), (31, 0), (30, 0)]) (by kernel_rfl) ?_
      refine OpK.nilCheck rfl ?_
      refine OpK.fieldAddr (off := 0) (by kernel_rfl) rfl ?_
      refine OpK.load (by kernel_rfl) rfl hc0 ?_
      refine OpK.sliceFrom (e := 5) (j := j) (by kernel_rfl) (by kernel_rfl) rfl rfl (by omega) hlc ?_
      refine OpK.nilCheck rfl ?_
      refine OpK.fieldAddr (off := 0) (by kernel_rfl) rfl ?_
      refine OpK.store (by kernel_rfl) rfl rfl rfl (show (w.cell? ⟨g, 0, none⟩).isSome = true by rw [hb.cell 0]; rfl) (hb.free 0) ?_
      refine CWL.reg (ops := []) (b := [(4, 10), (39, 10)]) (by kernel_rfl) ?_
      refine CWL.ret ?_
      rw [hr]
      have hst := h.step (hs.drop (j := j) (by omega))
      have hsp := hs.span (j := j) (by omega)
      refine ⟨_, rfl, hsp.keep (fun k hk => setCell_other w _ _ k fun e => hg (by rw [← show k = g from e]; exact hk)), hst.1, hst.2, fun _ ⟨a1, n1, c1, hnn⟩ => ?_⟩
      have : a = some a1 := by
        rw [hb.cell 0] at hnn
        cases hnn
        rfl
      rw [this]
      rw [span_some]
      intro hh
      cases hh

theorem call66 : Callable Tryz.prog 66 := ⟨Tryz.f66, Tryz.func66, by kernel_rfl, by kernel_rfl⟩
set_option maxHeartbeats 4000000 in
theorem ok66 (gE : Nat) (eV : Value) : RfOk Tryz.prog gE eV 66 (.val false .str) := by
  intro w S g t s hS h
  refine (Calls.of_CW (R := fun v w' => ∃ u cs s', v = ldv (Wt.ty .str) cs ∧ RdIs w' S g t s' ∧ Ch (fun k => k = g) w w' ∧ Rep w' (NewB S w w') (Wt.ty .str) u cs ∧ Got s.o (decW false .str) u s') Tryz.func66 rfl (by decide +kernel) (Nat.le_of_ble_eq_true (by kernel_rfl)) (CW.of_flat ?_)).mono fun en w' ⟨v, he, u, cs, s', hv, hR⟩ => ⟨u, cs, s', by rw [he, hv], hR⟩
  simp only [flat, List.cons_append, List.nil_append, List.append_nil]
  refine CWL.reg (ops := [(.assign (.const (Go.Value.string {data := #[]})), 9)]) (b := [(2, 1)]) (by kernel_rfl) ?_
  refine OpK.assign ?_
  refine CWL.reg (ops := [(.call ⟨.value (.func 57), #[.tmp 0], #[112]⟩, 40)]) (b := [(3, 1), (5, 1), (4, 0)]) (by kernel_rfl) ?_
  refine OpK.asCall rfl call57 rfl ((r57 w S hS g t s h).mono ?_)
  rintro en w1 ⟨v1, he1, hv1, h1, hch, hnn⟩
  subst hv1
  refine ⟨_, he1, ?_⟩
  have hlen : Got s.o (decStrLen false) (rdInt .i16 2 s).1 (rdInt .i16 2 s).2 := got_int .i16 2 s
  have hconv := i64_of_i16 _ (rdInt_in .i16 2 s)
  generalize rdInt .i16 2 s = q at h1 hlen hconv hnn ⊢
  obtain ⟨n, s1⟩ := q
  simp only at h1 hlen hconv hnn ⊢
  refine CWL.reg (ops := [(.convert 40 3 (.tmp 6), 3), (.call ⟨.value (.func 80), #[.tmp 0, .tmp 1], #[112, 3]⟩, 22), (.convert 22 9 (.tmp 3), 9)]) (b := [(2, 5), (10, 5), (9, 3), (8, 1), (7, 6), (6, 0)]) (by kernel_rfl) ?_
  refine OpK.convInt (k' := .i64) (by kernel_rfl) (by kernel_rfl) rfl ?_
  rw [hconv]
  refine OpK.asCall rfl call80 rfl ((sp80 w1 S (fun k hk => Nat.lt_of_lt_of_le (hS k hk) hch.size) g t s1 h1 n).mono ?_)
  rintro en w2 ⟨v2, he2, hv2, h2, hch2, _⟩
  refine ⟨_, he2, ?_⟩
  refine OpK.bytesStr (e := 5) (by kernel_rfl) (by kernel_rfl) (by kernel_rfl) rfl hv2 ?_
  refine CWL.ret ?_
  have hgs := got_span n s1
  exact ⟨_, rfl, .s ((rdSpan n s1).1.getD []), [strV ((rdSpan n s1).1.getD [])], (rdSpan n s1).2, rfl, h2, hch.trans' hch2, rfl, got_str hlen (gs_str s1 _)⟩

theorem call65 : Callable Tryz.prog 65 := ⟨Tryz.f65, Tryz.func65, by kernel_rfl, by kernel_rfl⟩
set_option maxHeartbeats 4000000 in
theorem ok65 (gE : Nat) (eV : Value) : RfOk Tryz.prog gE eV 65 (.val true .str) := by
  intro w S g t s hS h
  refine (Calls.of_CW (R := fun v w' => ∃ u cs s', v = ldv (Wt.ty .str) cs ∧ RdIs w' S g t s' ∧ Ch (fun k => k = g) w w' ∧ Rep w' (NewB S w w') (Wt.ty .str) u cs ∧ Got s.o (decW true .str) u s') Tryz.func65 rfl (by decide +kernel) (Nat.le_of_ble_eq_true (by kernel_rfl)) (CW.of_flat ?_)).mono fun en w' ⟨v, he, u, cs, s', hv, hR⟩ => ⟨u, cs, s', by rw [he, hv], hR⟩
  simp only [flat, List.cons_append, List.nil_append, List.append_nil]
  refine CWL.reg (ops := [(.assign (.const (Go.Value.string {data := #[]})), 9)]) (b := [(2, 1)]) (by kernel_rfl) ?_
  refine OpK.assign ?_
  refine CWL.reg (ops := [(.call ⟨.value (.func 77), #[.tmp 0], #[112]⟩, 53), (.convert 53 3 (.tmp 1), 3), (.binOp .sub 3 (.tmp 3) (.const (Go.Value.int Go.IntKind.i64 1)) 3, 3)]) (b := [(3, 5), (7, 5), (6, 3), (5, 1), (4, 0)]) (by kernel_rfl) ?_
  refine OpK.asCall rfl call77 rfl ((r77 w S hS g t s h).mono ?_)
  rintro en w1 ⟨x, s1, he1, hx, h1, hch, hgot, hnn⟩
  refine ⟨_, he1, ?_⟩
  refine OpK.convInt (k' := .i64) (by kernel_rfl) (by kernel_rfl) rfl ?_
  refine OpK.arith rfl rfl rfl ?_
  rw [(i64_of_u32 x hx).1, (i64_of_u32 x hx).2]
  have hlen : Got s.o (decStrLen true) ((x : Int) - 1) s1 := hgot.map fun x => (x : Int) - 1
  refine CWL.reg (ops := [(.call ⟨.value (.func 80), #[.tmp 0, .tmp 6], #[112, 3]⟩, 22), (.convert 22 9 (.tmp 1), 9)]) (b := [(2, 3), (11, 3), (10, 1), (9, 6), (8, 0)]) (by kernel_rfl) ?_
  refine OpK.asCall rfl call80 rfl ((sp80 w1 S (fun k hk => Nat.lt_of_lt_of_le (hS k hk) hch.size) g t s1 h1 ((x : Int) - 1)).mono ?_)
  rintro en w2 ⟨v2, he2, hv2, h2, hch2, _⟩
  refine ⟨_, he2, ?_⟩
  refine OpK.bytesStr (e := 5) (by kernel_rfl) (by kernel_rfl) (by kernel_rfl) rfl hv2 ?_
  refine CWL.ret ?_
  have hgs := got_span ((x : Int) - 1) s1
  exact ⟨_, rfl, .s ((rdSpan ((x : Int) - 1) s1).1.getD []), [strV ((rdSpan ((x : Int) - 1) s1).1.getD [])], (rdSpan ((x : Int) - 1) s1).2, rfl, h2, hch.trans' hch2, rfl, got_str hlen (gs_str s1 _)⟩

theorem call61 : Callable Tryz.prog 61 := ⟨Tryz.f61, Tryz.func61, by kernel_rfl, by kernel_rfl⟩
set_option maxHeartbeats 4000000 in
theorem ok61 (gE : Nat) (eV : Value) : RfOk Tryz.prog gE eV 61 (.val false .nstr) := by
  intro w S g t s hS h
  refine (Calls.of_CW (R := fun v w' => ∃ u cs s', v = ldv (Wt.ty .nstr) cs ∧ RdIs w' S g t s' ∧ Ch (fun k => k = g) w w' ∧ Rep w' (NewB S w w') (Wt.ty .nstr) u cs ∧ Got s.o (decW false .nstr) u s') Tryz.func61 rfl (by decide +kernel) (Nat.le_of_ble_eq_true (by kernel_rfl)) (CW.of_flat ?_)).mono fun en w' ⟨v, he, u, cs, s', hv, hR⟩ => ⟨u, cs, s', by rw [he, hv], hR⟩
  simp only [flat, List.cons_append, List.nil_append, List.append_nil]
  refine CWL.reg (ops := [(.assign (.const (Go.Value.pointer none)), 75)]) (b := [(2, 1)]) (by kernel_rfl) ?_
  refine OpK.assign ?_
  refine CWL.reg (ops := [(.call ⟨.value (.func 57), #[.tmp 0], #[112]⟩, 40)]) (b := [(3, 1), (6, 1), (5, 0)]) (by kernel_rfl) ?_
  refine OpK.asCall rfl call57 rfl ((r57 w S hS g t s h).mono ?_)
  rintro en w1 ⟨v1, he1, hv1, h1, hch, hnn⟩
  subst hv1
  refine ⟨_, he1, ?_⟩
  have hlen : Got s.o (decStrLen false) (rdInt .i16 2 s).1 (rdInt .i16 2 s).2 := got_int .i16 2 s
  have hconv := i64_of_i16 _ (rdInt_in .i16 2 s)
  generalize rdInt .i16 2 s = q at h1 hlen hconv hnn ⊢
  obtain ⟨n, s1⟩ := q
  simp only at h1 hlen hconv hnn ⊢
  refine CWL.reg (ops := [(.binOp .lss 40 (.tmp 6) (.const (Go.Value.int Go.IntKind.i16 0)) 40, 4)]) (b := [(8, 1), (7, 6)]) (by kernel_rfl) ?_
  refine OpK.cmp rfl rfl rfl ?_
  by_cases hneg : n < 0
  · refine CWL.condT (congrArg Value.bool (decide_eq_true hneg)) ?_
    simp only [flat, List.cons_append, List.nil_append, List.append_nil]
    refine CWL.reg (ops := [(.assign (.const (Go.Value.pointer none)), 75)]) (b := [(2, 1)]) (by kernel_rfl) ?_
    refine OpK.assign ?_
    refine CWL.ret ?_
    exact ⟨_, rfl, .nsN, [.pointer none], s1, rfl, h1, hch, rfl, got_nstr hlen (gs_nstr0 s1 hneg)⟩
  refine CWL.condF (congrArg Value.bool (decide_eq_false hneg)) ?_
  simp only [flat, List.cons_append, List.nil_append, List.append_nil]
  refine CWL.reg (ops := [(.convert 40 3 (.tmp 6), 3), (.call ⟨.value (.func 80), #[.tmp 0, .tmp 1], #[112, 3]⟩, 22), (.convert 22 9 (.tmp 3), 9), (.alloc 9, 0), (.store 9 (.tmp 7) (.tmp 5), 0)]) (b := [(4, 7), (13, 5), (12, 3), (11, 1), (10, 6), (9, 0)]) (by kernel_rfl) ?_
  refine OpK.convInt (k' := .i64) (by kernel_rfl) (by kernel_rfl) rfl ?_
  rw [hconv]
  refine OpK.asCall rfl call80 rfl ((sp80 w1 S (fun k hk => Nat.lt_of_lt_of_le (hS k hk) hch.size) g t s1 h1 n).mono ?_)
  rintro en w2 ⟨v2, he2, hv2, h2, hch2, _⟩
  refine ⟨_, he2, ?_⟩
  refine OpK.bytesStr (e := 5) (by kernel_rfl) (by kernel_rfl) (by kernel_rfl) rfl hv2 ?_
  refine OpK.allocArr (i := _) (z := .string ⟨#[]⟩) rfl rfl ?_
  refine OpK.store (by kernel_rfl) rfl rfl rfl (by rw [cell_newA]; rfl) (free_new _ _ _) ?_
  refine CWL.reg (ops := []) (b := [(2, 8)]) (by kernel_rfl) ?_
  refine CWL.ret ?_
  have hgs := got_span n s1
  refine ⟨_, rfl, .ns ((rdSpan n s1).1.getD []), [.pointer (some ⟨w2.heap.size, 0, none⟩)], (rdSpan n s1).2, rfl, ?_, ?_, ?_, got_nstr hlen (gs_nstr s1 hneg)⟩
  · exact h2.newStr (fun k hk => Nat.lt_of_lt_of_le (hS k hk) (hch.trans' hch2).size) _ _
  · exact (hch.trans' hch2).trans ((Ch.alloc (fun k => k = w2.heap.size) w2 _).trans' (Ch.set (S := fun k => k = w2.heap.size) _ rfl _)) fun i hi e => by have := (hch.trans' hch2).size; omega
  · refine ⟨w2.heap.size, rfl, .inr ⟨(hch.trans' hch2).size, ?_⟩, ?_⟩
    · simp [World.setCell]
    · exact ((Blk.new w2 _ [_]).set 0 _).cell 0

theorem call59 : Callable Tryz.prog 59 := ⟨Tryz.f59, Tryz.func59, by kernel_rfl, by kernel_rfl⟩
set_option maxHeartbeats 4000000 in
theorem ok59 (gE : Nat) (eV : Value) : RfOk Tryz.prog gE eV 59 (.val true .nstr) := by
  intro w S g t s hS h
  refine (Calls.of_CW (R := fun v w' => ∃ u cs s', v = ldv (Wt.ty .nstr) cs ∧ RdIs w' S g t s' ∧ Ch (fun k => k = g) w w' ∧ Rep w' (NewB S w w') (Wt.ty .nstr) u cs ∧ Got s.o (decW true .nstr) u s') Tryz.func59 rfl (by decide +kernel) (Nat.le_of_ble_eq_true (by kernel_rfl)) (CW.of_flat ?_)).mono fun en w' ⟨v, he, u, cs, s', hv, hR⟩ => ⟨u, cs, s', by rw [he, hv], hR⟩
  simp only [flat, List.cons_append, List.nil_append, List.append_nil]
  refine CWL.reg (ops := [(.assign (.const (Go.Value.pointer none)), 75)]) (b := [(2, 1)]) (by kernel_rfl) ?_
  refine OpK.assign ?_
  refine CWL.reg (ops := [(.call ⟨.value (.func 77), #[.tmp 0], #[112]⟩, 53), (.convert 53 3 (.tmp 1), 3), (.binOp .sub 3 (.tmp 3) (.const (Go.Value.int Go.IntKind.i64 1)) 3, 3)]) (b := [(3, 5), (8, 5), (7, 3), (6, 1), (5, 0)]) (by kernel_rfl) ?_
  refine OpK.asCall rfl call77 rfl ((r77 w S hS g t s h).mono ?_)
  rintro en w1 ⟨x, s1, he1, hx, h1, hch, hgot, hnn⟩
  refine ⟨_, he1, ?_⟩
  refine OpK.convInt (k' := .i64) (by kernel_rfl) (by kernel_rfl) rfl ?_
  refine OpK.arith rfl rfl rfl ?_
  rw [(i64_of_u32 x hx).1, (i64_of_u32 x hx).2]
  have hlen : Got s.o (decStrLen true) ((x : Int) - 1) s1 := hgot.map fun x => (x : Int) - 1
  refine CWL.reg (ops := [(.binOp .lss 3 (.tmp 6) (.const (Go.Value.int Go.IntKind.i64 0)) 3, 4)]) (b := [(10, 1), (9, 6)]) (by kernel_rfl) ?_
  refine OpK.cmp rfl rfl rfl ?_
  by_cases hneg : ((x : Int) - 1) < 0
  · refine CWL.condT (congrArg Value.bool (decide_eq_true hneg)) ?_
    simp only [flat, List.cons_append, List.nil_append, List.append_nil]
    refine CWL.reg (ops := [(.assign (.const (Go.Value.pointer none)), 75)]) (b := [(2, 1)]) (by kernel_rfl) ?_
    refine OpK.assign ?_
    refine CWL.ret ?_
    exact ⟨_, rfl, .nsN, [.pointer none], s1, rfl, h1, hch, rfl, got_nstr hlen (gs_nstr0 s1 hneg)⟩
  refine CWL.condF (congrArg Value.bool (decide_eq_false hneg)) ?_
  simp only [flat, List.cons_append, List.nil_append, List.append_nil]
  refine CWL.reg (ops := [(.call ⟨.value (.func 80), #[.tmp 0, .tmp 6], #[112, 3]⟩, 22), (.convert 22 9 (.tmp 1), 9), (.alloc 9, 0), (.store 9 (.tmp 5) (.tmp 3), 0)]) (b := [(4, 5), (14, 3), (13, 1), (12, 6), (11, 0)]) (by kernel_rfl) ?_
  refine OpK.asCall rfl call80 rfl ((sp80 w1 S (fun k hk => Nat.lt_of_lt_of_le (hS k hk) hch.size) g t s1 h1 ((x : Int) - 1)).mono ?_)
  rintro en w2 ⟨v2, he2, hv2, h2, hch2, _⟩
  refine ⟨_, he2, ?_⟩
  refine OpK.bytesStr (e := 5) (by kernel_rfl) (by kernel_rfl) (by kernel_rfl) rfl hv2 ?_
  refine OpK.allocArr (i := _) (z := .string ⟨#[]⟩) rfl rfl ?_
  refine OpK.store (by kernel_rfl) rfl rfl rfl (by rw [cell_newA]; rfl) (free_new _ _ _) ?_
  refine CWL.reg (ops := []) (b := [(2, 8)]) (by kernel_rfl) ?_
  refine CWL.ret ?_
  have hgs := got_span ((x : Int) - 1) s1
  refine ⟨_, rfl, .ns ((rdSpan ((x : Int) - 1) s1).1.getD []), [.pointer (some ⟨w2.heap.size, 0, none⟩)], (rdSpan ((x : Int) - 1) s1).2, rfl, ?_, ?_, ?_, got_nstr hlen (gs_nstr s1 hneg)⟩
  · exact h2.newStr (fun k hk => Nat.lt_of_lt_of_le (hS k hk) (hch.trans' hch2).size) _ _
  · exact (hch.trans' hch2).trans ((Ch.alloc (fun k => k = w2.heap.size) w2 _).trans' (Ch.set (S := fun k => k = w2.heap.size) _ rfl _)) fun i hi e => by have := (hch.trans' hch2).size; omega
  · refine ⟨w2.heap.size, rfl, .inr ⟨(hch.trans' hch2).size, ?_⟩, ?_⟩
    · simp [World.setCell]
    · exact ((Blk.new w2 _ [_]).set 0 _).cell 0

theorem ok57 (gE : Nat) (eV : Value) : RfOk Tryz.prog gE eV 57 (.val false .i16) := by
  intro w S g t s hS h
  exact (r57 w S hS g t s h).mono fun en w' ⟨v, he, hv, h1, hc, _⟩ => ⟨.i (rdInt .i16 2 s).1, [v], (rdInt .i16 2 s).2, he, h1, hc, ⟨by rw [hv], rdInt_in _ _ _⟩, (got_int .i16 2 s).map V.i⟩

theorem ok51 (gE : Nat) (eV : Value) : RfOk Tryz.prog gE eV 51 (.val false .i32) := by
  intro w S g t s hS h
  exact (r51 w S hS g t s h).mono fun en w' ⟨v, he, hv, h1, hc, _⟩ => ⟨.i (rdInt .i32 4 s).1, [v], (rdInt .i32 4 s).2, he, h1, hc, ⟨by rw [hv], rdInt_in _ _ _⟩, (got_int .i32 4 s).map V.i⟩

theorem ok62 (gE : Nat) (eV : Value) : RfOk Tryz.prog gE eV 62 (.val false .i8) := by
  intro w S g t s hS h
  exact (r62 w S hS g t s h).mono fun en w' ⟨v, he, hv, h1, hc⟩ => ⟨.i (rdInt .i8 1 s).1, [v], (rdInt .i8 1 s).2, he, h1, hc, ⟨by rw [hv], rdInt_in _ _ _⟩, (got_int .i8 1 s).map V.i⟩

theorem ok68 (gE : Nat) (eV : Value) : RfOk Tryz.prog gE eV 68 (.val false .bool) := by
  intro w S g t s hS h
  exact (r68 w S hS g t s h).mono fun en w' ⟨v, he, hv, h1, hc⟩ => ⟨.b (rdBool s).1, [v], (rdBool s).2, he, h1, hc, by rw [hv]; rfl, got_bool s⟩

theorem call81 : Callable Tryz.prog 81 := ⟨Tryz.f81, Tryz.func81, by kernel_rfl, by kernel_rfl⟩
set_option maxHeartbeats 4000000 in
theorem set81 (w : World) (S N : Nat → Prop) (g o : Nat) (t : TypeId) (cells : List Value) (c : Value) (l : List (Nat × List UInt8)) (key : Nat) (xs : List UInt8) (v : Value) (hb : Blk w g t cells) (hc : cells[o]? = some c) (hm : TM w S N c l)
    (hS : ∀ k, S k → k < w.heap.size) (hg : ¬ S g) (hN : ∀ r, N r → ¬ S r ∧ r < w.heap.size ∧ r ≠ g) (hkey : key < 4294967296) (hv : OctIs w S xs v) :
    Calls Tryz.prog 81 #[.pointer (some ⟨g, o, none⟩), .int .u32 (key : Int), v] w fun en w' => en = .returned (.tuple #[]) ∧ ∃ c', Blk w' g t (cells.set o c') ∧ TM w' S (fun r => N r ∨ (w.heap.size ≤ r ∧ r < w'.heap.size)) c' (setTag l key xs) ∧ Ch (fun k => k = g ∨ N k) w w' := by
  refine (Calls.of_CW (R := fun x w' => x = .tuple #[] ∧ ∃ c', Blk w' g t (cells.set o c') ∧ TM w' S (fun r => N r ∨ (w.heap.size ≤ r ∧ r < w'.heap.size)) c' (setTag l key xs) ∧ Ch (fun k => k = g ∨ N k) w w') Tryz.func81 rfl (by decide +kernel) (Nat.le_of_ble_eq_true (by kernel_rfl)) (CW.of_flat ?_)).mono fun en w' ⟨x, he, hx, hR⟩ => ⟨by rw [he, hx], hR⟩
  simp only [flat, List.cons_append, List.nil_append, List.append_nil]
  have hc0 : w.cell? ((⟨g, o, none⟩ : Addr).add 0) = some c := by rw [addr_add_zero, hb.cell]; exact hc
  have hgl := hb.lt
  have hol : o < cells.length := (List.getElem?_eq_some_iff.1 hc).1
  rcases hm with ⟨rfl, rfl⟩ | ⟨r, es, clk, rfl, hNr, hh, hst, hA⟩
  · -- a new map
    refine CWL.reg (ops := [(.nilCheck (.tmp 0), 0), (.fieldAddr 60 (.tmp 1) 0, 0), (.load 58 (.tmp 3), 58), (.binOp .eql 58 (.tmp 5) (.const (Go.Value.map none)) 58, 4)]) (b := [(10, 7), (9, 5), (8, 3), (7, 1), (6, 0)]) (by kernel_rfl) ?_
    refine OpK.nilCheck rfl ?_
    refine OpK.fieldAddr (off := 0) (by kernel_rfl) rfl ?_
    refine OpK.load (by kernel_rfl) rfl hc0 ?_
    refine OpK.eqNilMap (k := _) (e := _) rfl rfl rfl ?_
    refine CWL.condT rfl ?_
    simp only [flat, List.cons_append, List.nil_append, List.append_nil]
    refine CWL.reg (ops := [(.makeMap 58 none, 58), (.nilCheck (.tmp 0), 0), (.fieldAddr 60 (.tmp 3) 0, 0), (.store 58 (.tmp 5) (.tmp 1), 0)]) (b := [(14, 5), (13, 3), (12, 1), (11, 0)]) (by kernel_rfl) ?_
    refine OpK.makeMap ?_
    refine OpK.nilCheck rfl ?_
    refine OpK.fieldAddr (off := 0) (by kernel_rfl) rfl ?_
    refine OpK.store (v := .map (some w.heap.size)) (by kernel_rfl) rfl rfl rfl (show ((w.alloc (.map #[] 0)).cell? ((⟨g, o, none⟩ : Addr).add 0)).isSome = true by rw [addr_add_zero, (hb.keep (alloc_old w _ g hgl)).cell, hc]; rfl) (by rw [addr_add_zero]; exact (hb.keep (alloc_old w _ g hgl)).free o) ?_
    simp only [addr_add_zero]
    have hb1 := (hb.keep (alloc_old w (.map #[] 0) g hgl)).set o (.map (some w.heap.size))
    have hh : ((w.alloc (.map #[] 0)).setCell ⟨g, o, none⟩ (.map (some w.heap.size))).heap[w.heap.size]? = some (.map #[] 0) := by rw [setCell_other _ _ _ _ (by simp only; omega)]; exact heap_alloc_new w _
    have hk1 : ∀ k, S k → ((w.alloc (.map #[] 0)).setCell ⟨g, o, none⟩ (.map (some w.heap.size))).heap[k]? = w.heap[k]? := fun k hk => (setCell_other _ _ _ _ (fun e => hg (by rw [← show k = g from e]; exact hk))).trans (alloc_old w _ k (hS k hk))
    have hs1 : ((w.alloc (.map #[] 0)).setCell ⟨g, o, none⟩ (.map (some w.heap.size))).heap.size = w.heap.size + 1 := by simp [World.setCell]
    have hch1 : Ch (fun k => k = g ∨ N k) w ((w.alloc (.map #[] 0)).setCell ⟨g, o, none⟩ (.map (some w.heap.size))) := (Ch.alloc _ w _).trans' (Ch.set (S := fun k => k = g ∨ N k) _ (.inl rfl) _)
    generalize (w.alloc (.map #[] 0)).setCell ⟨g, o, none⟩ (.map (some w.heap.size)) = w1 at hb1 hh hk1 hs1 hch1 ⊢
    have hc1 : w1.cell? ((⟨g, o, none⟩ : Addr).add 0) = some (.map (some w.heap.size)) := by rw [addr_add_zero, hb1.cell, List.getElem?_set, if_pos rfl, if_pos hol]
    refine CWL.reg (ops := [(.nilCheck (.tmp 0), 0), (.fieldAddr 60 (.tmp 1) 0, 0), (.load 58 (.tmp 3), 58), (.mapUpdate 58 (.tmp 5) (.tmp 2) (.tmp 4), 0)]) (b := [(20, 4), (19, 2), (18, 5), (17, 3), (16, 1), (15, 0)]) (by kernel_rfl) ?_
    refine OpK.nilCheck rfl ?_
    refine OpK.fieldAddr (off := 0) (by kernel_rfl) rfl ?_
    refine OpK.load (by kernel_rfl) rfl hc1 ?_
    refine OpK.mapTag (l := []) rfl rfl rfl rfl rfl hh ⟨by simp, MapKept.stamped_empty 0⟩ .nil (fun h => by have := hS _ h; omega) hkey (hv.keep hk1) fun w2 es2 clk2 hsz2 hh2 hch2 hst2 hA2 => ?_
    refine ⟨_, rfl, rfl, .map (some w.heap.size), hb1.keep (hch2.block g hb1.lt (by omega)), .inr ⟨w.heap.size, es2, clk2, rfl, .inr ⟨Nat.le_refl _, by omega⟩, hh2, hst2, hA2⟩, hch1.trans hch2 fun i hi e => by omega⟩
  · -- a map that is there
    obtain ⟨hSr, hrl, hrg⟩ := hN r hNr
    refine CWL.reg (ops := [(.nilCheck (.tmp 0), 0), (.fieldAddr 60 (.tmp 1) 0, 0), (.load 58 (.tmp 3), 58), (.binOp .eql 58 (.tmp 5) (.const (Go.Value.map none)) 58, 4)]) (b := [(10, 7), (9, 5), (8, 3), (7, 1), (6, 0)]) (by kernel_rfl) ?_
    refine OpK.nilCheck rfl ?_
    refine OpK.fieldAddr (off := 0) (by kernel_rfl) rfl ?_
    refine OpK.load (by kernel_rfl) rfl hc0 ?_
    refine OpK.eqNilMap (k := _) (e := _) rfl rfl rfl ?_
    refine CWL.condF rfl ?_
    simp only [flat, List.cons_append, List.nil_append, List.append_nil]
    refine CWL.reg (ops := [(.nilCheck (.tmp 0), 0), (.fieldAddr 60 (.tmp 1) 0, 0), (.load 58 (.tmp 3), 58), (.mapUpdate 58 (.tmp 5) (.tmp 2) (.tmp 4), 0)]) (b := [(20, 4), (19, 2), (18, 5), (17, 3), (16, 1), (15, 0)]) (by kernel_rfl) ?_
    refine OpK.nilCheck rfl ?_
    refine OpK.fieldAddr (off := 0) (by kernel_rfl) rfl ?_
    refine OpK.load (by kernel_rfl) rfl hc0 ?_
    refine OpK.mapTag (l := l) rfl rfl rfl rfl rfl hh hst hA hSr hkey hv fun w2 es2 clk2 hsz2 hh2 hch2 hst2 hA2 => ?_
    have hset : cells.set o (.map (some r)) = cells := by
      apply List.ext_getElem?
      intro i
      rw [List.getElem?_set]
      split
      · rename_i hi; subst hi; first | exact hc.symm | (rw [if_pos hol]; exact hc.symm)
      · rfl
    refine ⟨_, rfl, rfl, .map (some r), by rw [hset]; exact hb.keep (hch2.block g hgl fun e => hrg e.symm), .inr ⟨r, es2, clk2, rfl, .inl hNr, hh2, hst2, hA2⟩, hch2.mono fun i hi e => by subst e; exact .inr hNr⟩

theorem call70 : Callable Tryz.prog 70 := ⟨Tryz.f70, Tryz.func70, by kernel_rfl, by kernel_rfl⟩
set_option maxHeartbeats 8000000 in
theorem ok70 (gE : Nat) (eV : Value) : RfOk Tryz.prog gE eV 70 .tags := by
  intro w S g t s hS h
  refine (Calls.of_CW_cell (t := 2) (ty := 60) (R := fun v w' => ∃ u c s', v = .agg #[c] ∧ RdIs w' S g t s' ∧ Ch (fun k => k = g) w w' ∧ Rep w' (NewB S w w') .tags (.tags u) [c] ∧ Got s.o decTags u s') Tryz.func70 rfl (by decide +kernel) (Nat.le_of_ble_eq_true (by kernel_rfl)) rfl (CW.of_flat ?_)).mono fun en w' ⟨v, he, u, c, s', hv, hR⟩ => ⟨u, c, s', by rw [he, hv], hR⟩
  simp only [flat, List.cons_append, List.nil_append, List.append_nil]
  refine CWL.reg (ops := [(.alloc 60, 0)]) (b := [(2, 1)]) (by kernel_rfl) ?_
  refine OpK.allocArr (i := _) (z := .agg #[.map none]) rfl rfl ?_
  refine CWL.reg (ops := [(.alloc 60, 0)]) (b := [(3, 1)]) (by kernel_rfl) ?_
  refine OpK.allocArr (i := _) (z := .agg #[.map none]) rfl rfl ?_
  generalize hw2 : ((w.alloc (.cells (Value.agg #[.map none]).cells 60)).alloc (.cells (Value.agg #[.map none]).cells 60)) = w2
  have hs2 : w2.heap.size = w.heap.size + 2 := by rw [← hw2]; simp
  have hgl := h.lt
  have hB1 : Blk w2 w.heap.size 60 [.map none] := hw2 ▸ (Blk.new w 60 [.map none]).keep (alloc_old _ _ _ (by simp))
  have hB2 : Blk w2 (w.heap.size + 1) 60 [.map none] := by
    rw [← hw2, show w.heap.size + 1 = (w.alloc (.cells (Value.agg #[.map none]).cells 60)).heap.size by simp]
    exact Blk.new _ 60 [.map none]
  have hc2 : Ch (fun _ => False) w w2 := hw2 ▸ (Ch.alloc _ w _).trans' (Ch.alloc _ _ _)
  have h2 := h.keep hS hc2
  have e1 : (w.alloc (.cells (Value.agg #[.map none]).cells 60)).heap.size = w.heap.size + 1 := by simp
  rw [e1]
  refine CWL.reg (ops := [(.call ⟨.value (.func 77), #[.tmp 0], #[112]⟩, 53)]) (b := [(4, 1), (8, 1), (7, 0)]) (by kernel_rfl) ?_
  refine OpK.asCall rfl call77 rfl ((r77 w2 S (fun k hk => by have := hS k hk; omega) g t s h2).mono ?_)
  rintro en w3 ⟨n, s0, he3, hn, h3, hch3, hg0, _⟩
  refine ⟨_, he3, ?_⟩
  have hB1 := hB1.keep (hch3.block w.heap.size (by omega) (by omega))
  have hB2 := hB2.keep (hch3.block (w.heap.size + 1) (by omega) (by omega))
  have hch03 : Ch (fun k => k = g) w w3 := (hc2.mono fun _ _ h => h.elim).trans' hch3
  have hs3 : w.heap.size + 2 ≤ w3.heap.size := by have := hch3.size; omega
  refine CWL.cons (CW.block (CW.loop (fun m σ w1 => ∃ (k : Nat) (tl : List (Nat × List UInt8)) (s1 : Rs) (c : Value), m = k ∧ k < 4294967296 ∧ σ 4 = .int .u32 (k : Int) ∧ σ 0 = .pointer (some ⟨g, 0, none⟩) ∧ σ 2 = .pointer (some ⟨w.heap.size, 0, none⟩) ∧ σ 3 = .pointer (some ⟨w.heap.size + 1, 0, none⟩) ∧
      Blk w1 w.heap.size 60 [.map none] ∧ Blk w1 (w.heap.size + 1) 60 [c] ∧ RdIs w1 S g t s1 ∧ Ch (fun k => k = g) w w1 ∧ w.heap.size + 2 ≤ w1.heap.size ∧ TM w1 S (fun r => w.heap.size + 2 ≤ r ∧ r < w1.heap.size) c tl ∧ (∀ b s2, Got s1.o (decTagsN k tl) b s2 → Got s0.o (decTagsN n []) b s2)) n
    ⟨n, [], s0, .map none, rfl, hn, rfl, rfl, rfl, rfl, hB1, hB2, h3, hch03, hs3, .inl ⟨rfl, rfl⟩, fun _ _ h => h⟩ ?_))
  rintro m σ w1 ⟨k, tl, s1, c, rfl, hk, hσ4, hσ0, hσ2, hσ3, hB1, hB2, h1, hch, hsz, hTM, hgot⟩
  refine CW.of_flat ?_
  simp only [flat, List.cons_append, List.nil_append, List.append_nil]
  refine CWL.regG (ops := [(.binOp .gtr 53 (.tmp 8) (.const (Go.Value.int Go.IntKind.u32 0)) 53, 4)]) (b := [(10, 1), (9, 8)]) (by kernel_rfl) ?_
  refine OpK.cmp (op := .gtr) (k := .u32) (a := (m : Int)) (b := 0) rfl (by show enF σ (2 * 4) = _; rw [enF_two, hσ4]) rfl ?_
  intro σ5 hσ5
  have htc : σ5 10 = .bool (decide ((m : Int) > 0)) := by rw [hσ5]; rfl
  cases m with
  | zero =>
    refine CWL.condF htc ?_
    simp only [flat, List.cons_append, List.nil_append, List.append_nil]
    refine CWL.cons (CW.exit ?_)
    simp only [Then, InBlock, if_true]
    have k2 : σ5 2 = .pointer (some ⟨w.heap.size, 0, none⟩) := by rw [hσ5]; exact (enF_two σ 2).trans hσ2
    have k3 : σ5 3 = .pointer (some ⟨w.heap.size + 1, 0, none⟩) := by rw [hσ5]; exact (enF_two σ 3).trans hσ3
    refine CWL.reg (ops := [(.load 60 (.tmp 6), 60), (.store 60 (.tmp 4) (.tmp 1), 0)]) (b := [(23, 1)]) (by kernel_rfl) ?_
    refine OpK.loadRow (ds := _) (c := c) rfl rfl (by kernel_rfl) (by show enF σ5 (2 * 3) = _; rw [enF_two, k3]) hB2 ?_
    refine OpK.storeV (c := [c]) (v := .agg #[c]) (g := w.heap.size) (o := 0) (tG := 60) (by kernel_rfl) (by show enF σ5 (2 * 2) = _; rw [enF_two, k2]) rfl (.inl rfl) (fun u hu => rep_one (hTM.rep (S' := fun _ => True) (fun _ _ => trivial) (fun _ _ => trivial)) u hu) hB1 (by simp) ?_
    have hB5 := hB1.setCells [c] 0 (by simp)
    rw [splice_all (by simp)] at hB5
    have hk5 : ∀ k, k ≠ w.heap.size → (w1.setCells w.heap.size 0 [c]).heap[k]? = w1.heap[k]? := fun k hk => setCells_heap _ _ _ _ _ hk
    have hs5 := (setCells_ch w.heap.size [c] 0 w1).size
    refine CWL.ret ?_
    refine ⟨⟨w.heap.size, 0, none⟩, .agg #[c], by show enF σ5 (2 * 2) = _; rw [enF_two, k2], run_loadTags (d := _) rfl rfl (by kernel_rfl) hB5, tl, c, s1, rfl, h1.keepG (hk5 g (by omega)) (fun k hk => hk5 k (by have := hS k hk; omega)), hch.trans (setCells_ch _ _ _ _) (fun i hi e => by omega), ?_, hg0.bind (d2 := fun n l => decTagsN n [] l) (hgot tl s1 (Got.pure tl))⟩
    exact ((hTM.keep (N' := fun r => w.heap.size + 2 ≤ r ∧ r < w1.heap.size) (fun k hk => hk5 k (by have := hS k hk; omega)) (fun k hk => ⟨hk5 k (by omega), hk⟩)).rep (fun k hk => .inl hk) (fun k hk => .inr ⟨by omega, by omega⟩))
  | succ k =>
    refine CWL.condT (htc.trans (congrArg Value.bool (decide_eq_true (by omega)))) ?_
    simp only [flat, List.cons_append, List.nil_append, List.append_nil]
    refine CWL.block ?_
    simp only [flat, List.cons_append, List.nil_append, List.append_nil]
    have e0 : enF σ 0 = .pointer (some ⟨g, 0, none⟩) := (enF_two σ 0).trans hσ0
    have q0 : σ5 0 = .pointer (some ⟨g, 0, none⟩) := by rw [hσ5]; exact (enF_two σ 0).trans hσ0
    have q2 : σ5 2 = .pointer (some ⟨w.heap.size, 0, none⟩) := by rw [hσ5]; exact (enF_two σ 2).trans hσ2
    have q3 : σ5 3 = .pointer (some ⟨w.heap.size + 1, 0, none⟩) := by rw [hσ5]; exact (enF_two σ 3).trans hσ3
    have q4 : σ5 4 = .int .u32 ((k + 1 : Nat) : Int) := by rw [hσ5]; exact (enF_two σ 4).trans hσ4
    have q0e : enF σ5 0 = .pointer (some ⟨g, 0, none⟩) := (enF_two σ5 0).trans q0
    refine CWL.regG (ops := [(.call ⟨.value (.func 77), #[.tmp 0], #[112]⟩, 53), (.call ⟨.value (.func 77), #[.tmp 0], #[112]⟩, 53)]) (b := [(6, 3), (5, 1), (16, 3), (15, 0), (14, 1), (13, 0)]) (by kernel_rfl) ?_
    refine OpK.asCall rfl call77 rfl ?_
    simp only [List.map_cons, List.map_nil, ev_tmp, q0e]
    refine (r77 w1 S (fun k hk => by have := hS k hk; omega) g t s1 h1).mono ?_
    rintro en w4 ⟨x1, sa, he4, hx1, h4, hch4, hga, _⟩
    refine ⟨_, he4, ?_⟩
    have hs4 := hch4.size
    refine OpK.asCall rfl call77 rfl ?_
    rw [show (List.map (ev (upd (enF σ5) (some (2 * 0 + 1)) (Value.int .u32 (x1 : Int)))) [.tmp 0]).toArray = #[Value.pointer (some ⟨g, 0, none⟩)] from by simp [upd, q0e]]
    refine (r77 w4 S (fun k hk => by have := hS k hk; omega) g t sa h4).mono ?_
    rintro en w5 ⟨x2, sb, he5, hx2, h5, hch5, hgb, _⟩
    refine ⟨_, he5, ?_⟩
    have hs5 := hch5.size
    intro σ6 hσ6
    have k5 : σ6 5 = .int .u32 (x1 : Int) := by rw [hσ6]; rfl
    have k6 : σ6 6 = .int .u32 (x2 : Int) := by rw [hσ6]; rfl
    have k0 : σ6 0 = .pointer (some ⟨g, 0, none⟩) := by rw [hσ6]; exact (enF_two σ5 0).trans q0
    have k2 : σ6 2 = .pointer (some ⟨w.heap.size, 0, none⟩) := by rw [hσ6]; exact (enF_two σ5 2).trans q2
    have k3 : σ6 3 = .pointer (some ⟨w.heap.size + 1, 0, none⟩) := by rw [hσ6]; exact (enF_two σ5 3).trans q3
    have k4 : σ6 4 = .int .u32 ((k + 1 : Nat) : Int) := by rw [hσ6]; exact (enF_two σ5 4).trans q4
    refine CWL.regG (ops := [(.convert 53 3 (.tmp 12), 3), (.call ⟨.value (.func 80), #[.tmp 0, .tmp 1], #[112, 3]⟩, 22), (.call ⟨.value (.func 81), #[.tmp 6, .tmp 10, .tmp 3], #[60, 53, 22]⟩, 0)]) (b := [(22, 5), (21, 3), (20, 1), (19, 12), (18, 0), (17, 10)]) (by kernel_rfl) ?_
    refine OpK.convInt (k := .u32) (k' := .i64) (n := (x2 : Int)) (by kernel_rfl) (by kernel_rfl) ((enF_two σ6 6).trans k6) ?_
    rw [(i64_of_u32 x2 hx2).1]
    refine OpK.asCall rfl call80 rfl ?_
    rw [show (List.map (ev (upd (enF σ6) (some (2 * 0 + 1)) (Value.int .i64 (x2 : Int)))) [.tmp 0, .tmp 1]).toArray = #[Value.pointer (some ⟨g, 0, none⟩), .int .i64 (x2 : Int)] from by simp [upd, show enF σ6 0 = _ from (enF_two σ6 0).trans k0]]
    refine (sp80 w5 S (fun k hk => by have := hS k hk; omega) g t sb h5 (x2 : Int)).mono ?_
    rintro en w6 ⟨v6, he6, hv6, h6, hch6, _⟩
    refine ⟨_, he6, ?_⟩
    have hs6 := hch6.size
    have hch16 : Ch (fun k => k = g) w1 w6 := (hch4.trans' hch5).trans' hch6
    have hB1 := hB1.keep (hch16.block w.heap.size (by omega) (by omega))
    have hB2 := hB2.keep (hch16.block (w.heap.size + 1) (by omega) (by omega))
    have hTM6 : TM w6 S (fun r => w.heap.size + 2 ≤ r ∧ r < w6.heap.size) c tl := hTM.keep (fun k hk => hch16.block k (by have := hS k hk; omega) fun e => by obtain ⟨_, _, _, hng⟩ := h1; exact hng (e ▸ hk)) fun k hk => ⟨hch16.block k hk.2 (by omega), hk.1, by omega⟩
    refine OpK.asCall rfl call81 rfl ?_
    rw [show (List.map (ev (upd (upd (enF σ6) (some (2 * 0 + 1)) (Value.int .i64 (x2 : Int))) (some (2 * (0 + 1) + 1)) v6)) [.tmp 6, .tmp 10, .tmp 3]).toArray = #[Value.pointer (some ⟨w.heap.size + 1, 0, none⟩), .int .u32 (x1 : Int), v6] from by simp [upd, show enF σ6 6 = _ from (enF_two σ6 3).trans k3, show enF σ6 10 = _ from (enF_two σ6 5).trans k5]]
    refine (set81 w6 S (fun r => w.heap.size + 2 ≤ r ∧ r < w6.heap.size) (w.heap.size + 1) 0 60 [c] c tl x1 ((rdSpan (x2 : Int) sb).1.getD []) v6 hB2 rfl hTM6 (fun k hk => by have := hS k hk; omega) (fun h => by have := hS _ h; omega) (fun r hr => ⟨fun h => by have := hS r h; omega, hr.2, by omega⟩) hx1 (hv6.oct fun k hk => hk)).mono ?_
    rintro en w7 ⟨he7, c7, hB7, hTM7, hch7⟩
    refine ⟨_, he7, ?_⟩
    have hs7 := hch7.size
    have hB1 := hB1.keep (hch7.block w.heap.size (by omega) (by omega))
    have h7 := h6.keepG (hch7.block g (by omega) (by omega)) (fun k hk => hch7.block k (by have := hS k hk; omega) (by have := hS k hk; omega))
    intro σ7 hσ7
    refine CWL.nil_ ?_
    simp only [Then, InBlock]
    have j0 : σ7 0 = .pointer (some ⟨g, 0, none⟩) := by rw [hσ7]; exact (enF_two σ6 0).trans k0
    have j2 : σ7 2 = .pointer (some ⟨w.heap.size, 0, none⟩) := by rw [hσ7]; exact (enF_two σ6 2).trans k2
    have j3 : σ7 3 = .pointer (some ⟨w.heap.size + 1, 0, none⟩) := by rw [hσ7]; exact (enF_two σ6 3).trans k3
    have j4 : σ7 4 = .int .u32 ((k + 1 : Nat) : Int) := by rw [hσ7]; exact (enF_two σ6 4).trans k4
    refine CWL.reg (ops := [(.binOp .sub 53 (.tmp 8) (.const (Go.Value.int Go.IntKind.u32 1)) 53, 53)]) (b := [(4, 1), (12, 1), (11, 8)]) (by kernel_rfl) ?_
    refine OpK.arith (op := .sub) (k := .u32) (a := ((k + 1 : Nat) : Int)) (b := 1) rfl ((enF_two σ7 4).trans j4) rfl ?_
    simp only [RC]
    refine ⟨k, by omega, k, setTag tl x1 ((rdSpan (x2 : Int) sb).1.getD []), (rdSpan (x2 : Int) sb).2, c7, rfl, by omega, ?_, (enF_two σ7 0).trans j0, (enF_two σ7 2).trans j2, (enF_two σ7 3).trans j3, hB1, hB7, h7, ?_, by omega, hTM7.keep (fun k hk => rfl) (fun k hk => ⟨rfl, ?_, ?_⟩), fun b s2 hb => hgot b s2 (got_tag hga hgb (got_span (x2 : Int) sb) hb)⟩
    · show Value.int .u32 (IntKind.u32.wrap (((k + 1 : Nat) : Int) - 1)) = _
      congr 1
      rw [IntKind.wrap_u32]
      omega
    · exact (hch.trans' hch16).trans hch7 fun i hi e => by omega
    · rcases hk with hk | hk <;> omega
    · rcases hk with hk | hk <;> omega

end Go.Proofs.YthcpchmmpnakaaaGreatDoor.Rd
