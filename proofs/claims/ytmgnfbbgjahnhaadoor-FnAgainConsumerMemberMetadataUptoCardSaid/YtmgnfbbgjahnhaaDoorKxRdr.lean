/- What the reading functions of the package read. -/
import Derived.Test.YtmgnfbbgjahnhaaDoorKxTg
import Derived.Test.YtmgnfbbgjahnhaaDoorProg
namespace Go.Proofs.YtmgnfbbgjahnhaaDoor.Rd
open Go.Kx Go.RowKit Go.Proofs
set_option maxRecDepth 100000
set_option linter.unusedSimpArgs false
set_option linter.unusedVariables false

theorem mixed : Tryd.prog.follows .mixedOrders = true := by kernel_rfl

theorem call87 : Callable Tryd.prog 87 := ⟨Tryd.f87, Tryd.func87, by kernel_rfl, by kernel_rfl⟩
set_option maxHeartbeats 4000000 in
theorem be87 (w : World) (x : Value) (a : Addr) (n c : Nat) (b0 b1 : UInt8) (l : List UInt8) (hO : Oct w a (b0 :: b1 :: l)) (hn : n = (b0 :: b1 :: l).length) (hlt : a.block < w.heap.size) :
    Calls Tryd.prog 87 #[x, .slice (some a) n c] w fun en w' => ∃ v, en = .returned v ∧ v = .int .u16 ((unbe [b0, b1] : Nat) : Int) ∧ Ch (fun _ => False) w w' := by
  refine Calls.of_CW Tryd.func87 rfl (by decide +kernel) (Nat.le_of_ble_eq_true (by kernel_rfl)) (CW.of_flat ?_)
  simp only [flat, List.cons_append, List.nil_append, List.append_nil]
  have hc := Ch.alloc (fun _ => False) w (.cells x.cells 124)
  have hO0 : ∀ w', Ch (fun _ => False) (w.alloc (.cells x.cells 124)) w' → w'.cell? (a.add 0) = some (bv b0) := fun w' h => hO.mono hlt (hc.trans' h) 0 b0 rfl
  have hO1 : ∀ w', Ch (fun _ => False) (w.alloc (.cells x.cells 124)) w' → w'.cell? (a.add 1) = some (bv b1) := fun w' h => hO.mono hlt (hc.trans' h) 1 b1 rfl
  refine CWL.reg (ops := [(.box 124 (.tmp 0), 0), (.assign (.const (Go.Value.int Go.IntKind.u16 0)), 27)]) (b := [(4, 3), (2, 1)]) (by kernel_rfl) ?_
  refine OpK.box ?_
  refine OpK.assign ?_
  refine CWL.reg (ops := [(.indexAddr 22 (.tmp 2) (.const (Go.Value.int Go.IntKind.i64 1)), 0), (.load 5 (.tmp 1), 5)]) (b := [(7, 3), (6, 1), (5, 2)]) (by kernel_rfl) ?_
  refine OpK.indexAddr (s := 1) (j := 1) (by kernel_rfl) rfl rfl (by rw [hn]; simp; try omega) ?_
  refine OpK.load (by kernel_rfl) rfl (hO1 _ (Ch.refl _ _)) ?_
  refine CWL.regD0 mixed [(0, true), (1, true), (2, true), (3, true), (4, true), (5, true), (6, true), (7, true), (8, true), (9, true), (10, true)] (by decide +kernel) ?_
  refine HW.early rfl rfl Yi.move ?_
  refine HW.early rfl rfl (Yi.indexAddr (s := 1) (j := 1) (by kernel_rfl) rfl rfl (by rw [hn]; simp; try omega)) ?_
  refine HW.early rfl rfl (Yi.load (by kernel_rfl) rfl hO1) ?_
  refine HW.early rfl rfl (Yi.convInt (k' := .u16) (by kernel_rfl) (by kernel_rfl) rfl) ?_
  refine HW.early rfl rfl Yi.move ?_
  refine HW.early rfl rfl (Yi.indexAddr (s := 1) (j := 0) (by kernel_rfl) rfl rfl (by rw [hn]; simp; try omega)) ?_
  refine HW.early rfl rfl (Yi.load (by kernel_rfl) rfl hO0) ?_
  refine HW.early rfl rfl (Yi.convInt (k' := .u16) (by kernel_rfl) (by kernel_rfl) rfl) ?_
  refine HW.early rfl rfl (Yi.shl rfl rfl (by decide)) ?_
  refine HW.early rfl rfl (Yi.or rfl rfl) ?_
  refine HW.early rfl rfl Yi.assign ?_
  refine HW.done ?_
  refine CWL.ret ?_
  refine ⟨_, rfl, ?_, hc.trans' (Ch.drew _ _)⟩
  have e0 := oct_conv .u16 rfl (by decide) b1
  have e1 := oct_or .u16 rfl (by decide) (b1.toNat) b0 8 b1.toNat_lt (by decide)
  refine congrArg (Value.int .u16) (Eq.trans (Eq.trans (congrArg (fun z => bits .or .u16 z _) e0) e1.1) ?_)
  refine congrArg (fun n : Nat => (n : Int)) ?_
  simp only [unbe, List.foldl_cons, List.foldl_nil]
  omega

theorem call90 : Callable Tryd.prog 90 := ⟨Tryd.f90, Tryd.func90, by kernel_rfl, by kernel_rfl⟩
set_option maxHeartbeats 4000000 in
theorem be90 (w : World) (x : Value) (a : Addr) (n c : Nat) (b0 b1 b2 b3 : UInt8) (l : List UInt8) (hO : Oct w a (b0 :: b1 :: b2 :: b3 :: l)) (hn : n = (b0 :: b1 :: b2 :: b3 :: l).length) (hlt : a.block < w.heap.size) :
    Calls Tryd.prog 90 #[x, .slice (some a) n c] w fun en w' => ∃ v, en = .returned v ∧ v = .int .u32 ((unbe [b0, b1, b2, b3] : Nat) : Int) ∧ Ch (fun _ => False) w w' := by
  refine Calls.of_CW Tryd.func90 rfl (by decide +kernel) (Nat.le_of_ble_eq_true (by kernel_rfl)) (CW.of_flat ?_)
  simp only [flat, List.cons_append, List.nil_append, List.append_nil]
  have hc := Ch.alloc (fun _ => False) w (.cells x.cells 124)
  have hO0 : ∀ w', Ch (fun _ => False) (w.alloc (.cells x.cells 124)) w' → w'.cell? (a.add 0) = some (bv b0) := fun w' h => hO.mono hlt (hc.trans' h) 0 b0 rfl
  have hO1 : ∀ w', Ch (fun _ => False) (w.alloc (.cells x.cells 124)) w' → w'.cell? (a.add 1) = some (bv b1) := fun w' h => hO.mono hlt (hc.trans' h) 1 b1 rfl
  have hO2 : ∀ w', Ch (fun _ => False) (w.alloc (.cells x.cells 124)) w' → w'.cell? (a.add 2) = some (bv b2) := fun w' h => hO.mono hlt (hc.trans' h) 2 b2 rfl
  have hO3 : ∀ w', Ch (fun _ => False) (w.alloc (.cells x.cells 124)) w' → w'.cell? (a.add 3) = some (bv b3) := fun w' h => hO.mono hlt (hc.trans' h) 3 b3 rfl
  refine CWL.reg (ops := [(.box 124 (.tmp 0), 0), (.assign (.const (Go.Value.int Go.IntKind.u32 0)), 69)]) (b := [(4, 3), (2, 1)]) (by kernel_rfl) ?_
  refine OpK.box ?_
  refine OpK.assign ?_
  refine CWL.reg (ops := [(.indexAddr 22 (.tmp 2) (.const (Go.Value.int Go.IntKind.i64 3)), 0), (.load 5 (.tmp 1), 5)]) (b := [(7, 3), (6, 1), (5, 2)]) (by kernel_rfl) ?_
  refine OpK.indexAddr (s := 1) (j := 3) (by kernel_rfl) rfl rfl (by rw [hn]; simp; try omega) ?_
  refine OpK.load (by kernel_rfl) rfl (hO3 _ (Ch.refl _ _)) ?_
  refine CWL.regD0 mixed [(0, true), (1, true), (2, true), (3, true), (4, true), (5, true), (6, true), (7, true), (8, true), (9, true), (10, true), (11, true), (12, true), (13, true), (14, true), (15, true), (16, true), (17, true), (18, true), (19, true), (20, true), (21, true), (22, true)] (by decide +kernel) ?_
  refine HW.early rfl rfl Yi.move ?_
  refine HW.early rfl rfl (Yi.indexAddr (s := 1) (j := 3) (by kernel_rfl) rfl rfl (by rw [hn]; simp; try omega)) ?_
  refine HW.early rfl rfl (Yi.load (by kernel_rfl) rfl hO3) ?_
  refine HW.early rfl rfl (Yi.convInt (k' := .u32) (by kernel_rfl) (by kernel_rfl) rfl) ?_
  refine HW.early rfl rfl Yi.move ?_
  refine HW.early rfl rfl (Yi.indexAddr (s := 1) (j := 2) (by kernel_rfl) rfl rfl (by rw [hn]; simp; try omega)) ?_
  refine HW.early rfl rfl (Yi.load (by kernel_rfl) rfl hO2) ?_
  refine HW.early rfl rfl (Yi.convInt (k' := .u32) (by kernel_rfl) (by kernel_rfl) rfl) ?_
  refine HW.early rfl rfl (Yi.shl rfl rfl (by decide)) ?_
  refine HW.early rfl rfl (Yi.or rfl rfl) ?_
  refine HW.early rfl rfl Yi.move ?_
  refine HW.early rfl rfl (Yi.indexAddr (s := 1) (j := 1) (by kernel_rfl) rfl rfl (by rw [hn]; simp; try omega)) ?_
  refine HW.early rfl rfl (Yi.load (by kernel_rfl) rfl hO1) ?_
  refine HW.early rfl rfl (Yi.convInt (k' := .u32) (by kernel_rfl) (by kernel_rfl) rfl) ?_
  refine HW.early rfl rfl (Yi.shl rfl rfl (by decide)) ?_
  refine HW.early rfl rfl (Yi.or rfl rfl) ?_
  refine HW.early rfl rfl Yi.move ?_
  refine HW.early rfl rfl (Yi.indexAddr (s := 1) (j := 0) (by kernel_rfl) rfl rfl (by rw [hn]; simp; try omega)) ?_
  refine HW.early rfl rfl (Yi.load (by kernel_rfl) rfl hO0) ?_
  refine HW.early rfl rfl (Yi.convInt (k' := .u32) (by kernel_rfl) (by kernel_rfl) rfl) ?_
  refine HW.early rfl rfl (Yi.shl rfl rfl (by decide)) ?_
  refine HW.early rfl rfl (Yi.or rfl rfl) ?_
  refine HW.early rfl rfl Yi.assign ?_
  refine HW.done ?_
  refine CWL.ret ?_
  refine ⟨_, rfl, ?_, hc.trans' (Ch.drew _ _)⟩
  have e0 := oct_conv .u32 rfl (by decide) b3
  have e1 := oct_or .u32 rfl (by decide) (b3.toNat) b2 8 b3.toNat_lt (by decide)
  have e2 := oct_or .u32 rfl (by decide) (b3.toNat + b2.toNat * 2 ^ 8) b1 16 e1.2 (by decide)
  have e3 := oct_or .u32 rfl (by decide) (b3.toNat + b2.toNat * 2 ^ 8 + b1.toNat * 2 ^ 16) b0 24 e2.2 (by decide)
  refine congrArg (Value.int .u32) (Eq.trans (Eq.trans (congrArg (fun z => bits .or .u32 z _) (Eq.trans (congrArg (fun z => bits .or .u32 z _) (Eq.trans (congrArg (fun z => bits .or .u32 z _) e0) e1.1)) e2.1)) e3.1) ?_)
  refine congrArg (fun n : Nat => (n : Int)) ?_
  simp only [unbe, List.foldl_cons, List.foldl_nil]
  omega

theorem call66 : Callable Tryd.prog 66 := ⟨Tryd.f66, Tryd.func66, by kernel_rfl, by kernel_rfl⟩
set_option maxHeartbeats 4000000 in
theorem r66 (w : World) (S : Nat → Prop) (hS : ∀ k, S k → k < w.heap.size) (g : Nat) (t : TypeId) (s : Rs) (h : RdIs w S g t s) :
    Calls Tryd.prog 66 #[.pointer (some ⟨g, 0, none⟩)] w fun en w' => ∃ v, en = .returned v ∧ v = .int .i16 (rdInt .i16 2 s).1 ∧ RdIs w' S g t (rdInt .i16 2 s).2 ∧ Ch (fun k => k = g) w w' ∧ ((rdInt .i16 2 s).2.bad = false → NN w' g) := by
  obtain ⟨v, hb, hs, hg⟩ := id h
  obtain ⟨a, c, rfl, hlc⟩ := hs.form
  have hc0 : w.cell? ((⟨g, 0, none⟩ : Addr).add 0) = some (.slice a s.rest.length c) := hb.cell 0
  have hgl := hb.lt
  by_cases hlen : s.rest.length < 2
  · have hr : rdInt .i16 2 s = (0, Rs.fail) := by unfold rdInt rdN; rw [if_pos hlen]
    refine Calls.of_CW Tryd.func66 rfl (by decide +kernel) (Nat.le_of_ble_eq_true (by kernel_rfl)) (CW.of_flat ?_)
    simp only [flat, List.cons_append, List.nil_append, List.append_nil]
    refine CWL.reg (ops := [(.assign (.const (Go.Value.int Go.IntKind.i16 0)), 47)]) (b := [(2, 1)]) (by kernel_rfl) ?_
    refine OpK.assign ?_
    refine CWL.reg (ops := [(.nilCheck (.tmp 0), 0), (.fieldAddr 107 (.tmp 1) 0, 0), (.load 22 (.tmp 3), 22), (.call ⟨.builtin .len, #[.tmp 5], #[22]⟩, 3), (.binOp .lss 3 (.tmp 7) (.const (Go.Value.int Go.IntKind.i64 2)) 3, 4)]) (b := [(9, 9), (8, 7), (7, 5), (6, 3), (5, 1), (4, 0)]) (by kernel_rfl) ?_
    refine OpK.nilCheck rfl ?_
    refine OpK.fieldAddr (off := 0) (by kernel_rfl) rfl ?_
    refine OpK.load (by kernel_rfl) rfl hc0 ?_
    refine OpK.len (e := 5) (by kernel_rfl) rfl ?_
    refine OpK.cmp rfl rfl rfl ?_
    refine CWL.condT (congrArg Value.bool (decide_eq_true (by omega))) ?_
    simp only [flat, List.cons_append, List.nil_append, List.append_nil]
    refine CWL.reg (ops := [(.nilCheck (.tmp 0), 0), (.fieldAddr 107 (.tmp 1) 1, 0), (.store 4 (.tmp 3) (.const (Go.Value.bool true)), 0)]) (b := [(12, 3), (11, 1), (10, 0)]) (by kernel_rfl) ?_
    refine OpK.nilCheck rfl ?_
    refine OpK.fieldAddr (off := 1) (by kernel_rfl) rfl ?_
    refine OpK.store (by kernel_rfl) rfl rfl rfl (show (w.cell? ⟨g, 1, none⟩).isSome = true by rw [hb.cell 1]; rfl) (hb.free 1) ?_
    have hb1 := hb.set 1 (.bool true)
    refine CWL.reg (ops := [(.nilCheck (.tmp 0), 0), (.fieldAddr 107 (.tmp 1) 0, 0), (.store 22 (.tmp 3) (.const (Go.Value.slice none 0 0)), 0)]) (b := [(15, 3), (14, 1), (13, 0)]) (by kernel_rfl) ?_
    refine OpK.nilCheck rfl ?_
    refine OpK.fieldAddr (off := 0) (by kernel_rfl) rfl ?_
    refine OpK.store (by kernel_rfl) rfl rfl rfl (show ((w.setCell ⟨g, 1, none⟩ (.bool true)).cell? ⟨g, 0, none⟩).isSome = true by rw [hb1.cell 0]; rfl) (hb1.free 0) ?_
    refine CWL.reg (ops := [(.assign (.const (Go.Value.int Go.IntKind.i16 0)), 47)]) (b := [(2, 1)]) (by kernel_rfl) ?_
    refine OpK.assign ?_
    refine CWL.ret ?_
    rw [hr]
    exact ⟨_, rfl, rfl, h.fail.1, h.fail.2, fun h => by cases h⟩
  · obtain ⟨b0, b1, r, hrest⟩ := octets2 hlen
    obtain ⟨a', rfl, _, hSa, hO⟩ := hs.some_ (by rw [hrest]; simp)
    have hr : rdInt .i16 2 s = (IntKind.i16.wrap ((unbe [b0, b1] : Nat) : Int), ⟨s.rest.drop 2, s.bad⟩) := by
      unfold rdInt rdN
      rw [if_neg hlen, hrest]
      simp
    have hld : ∀ w', Ch (fun _ => False) w w' → w'.cell? ((⟨g, 0, none⟩ : Addr).add 0) = some (.slice (some a') s.rest.length c) := fun w' h' => (ch_cell h' hgl (fun h => h) rfl).trans hc0
    refine Calls.of_CW Tryd.func66 rfl (by decide +kernel) (Nat.le_of_ble_eq_true (by kernel_rfl)) (CW.of_flat ?_)
    simp only [flat, List.cons_append, List.nil_append, List.append_nil]
    refine CWL.reg (ops := [(.assign (.const (Go.Value.int Go.IntKind.i16 0)), 47)]) (b := [(2, 1)]) (by kernel_rfl) ?_
    refine OpK.assign ?_
    refine CWL.reg (ops := [(.nilCheck (.tmp 0), 0), (.fieldAddr 107 (.tmp 1) 0, 0), (.load 22 (.tmp 3), 22), (.call ⟨.builtin .len, #[.tmp 5], #[22]⟩, 3), (.binOp .lss 3 (.tmp 7) (.const (Go.Value.int Go.IntKind.i64 2)) 3, 4)]) (b := [(9, 9), (8, 7), (7, 5), (6, 3), (5, 1), (4, 0)]) (by kernel_rfl) ?_
    refine OpK.nilCheck rfl ?_
    refine OpK.fieldAddr (off := 0) (by kernel_rfl) rfl ?_
    refine OpK.load (by kernel_rfl) rfl hc0 ?_
    refine OpK.len (e := 5) (by kernel_rfl) rfl ?_
    refine OpK.cmp rfl rfl rfl ?_
    refine CWL.condF (congrArg Value.bool (decide_eq_false (by omega))) ?_
    simp only [flat, List.cons_append, List.nil_append, List.append_nil]
    refine CWL.regD0 mixed [(0, true), (1, true), (2, true), (3, true), (4, true), (5, false), (6, true), (7, true)] (by decide +kernel) ?_
    refine HW.early rfl rfl (Yi.empty (by kernel_rfl) rfl) ?_
    refine HW.early rfl rfl Yi.move ?_
    refine HW.early rfl rfl (Yi.nilCheck rfl) ?_
    refine HW.early rfl rfl (Yi.fieldAddr (off := 0) (by kernel_rfl) rfl) ?_
    refine HW.early rfl rfl (Yi.load (by kernel_rfl) rfl hld) ?_
    refine HW.next rfl rfl ?_
    refine OpK.asCall rfl call87 rfl ((be87 w.drew (.agg #[]) a' s.rest.length c b0 b1 r (hrest ▸ hO) (by rw [hrest]) (hS _ hSa)).mono ?_)
    rintro en w1 ⟨v1, he1, hv1, hch⟩
    subst hv1
    have hch : Ch (fun _ => False) w w1 := (Ch.drew _ w).trans' hch
    refine ⟨_, he1, hch, ?_⟩
    refine HW.early rfl rfl (Yi.convInt (k' := .i16) (by kernel_rfl) (by kernel_rfl) rfl) ?_
    refine HW.early rfl rfl Yi.assign ?_
    refine HW.done ?_
    have h1 := h.keep hS hch
    have hb1 := hb.keep (hch.block g hgl fun h => h)
    refine CWL.reg (ops := [(.nilCheck (.tmp 0), 0), (.fieldAddr 107 (.tmp 1) 0, 0), (.load 22 (.tmp 3), 22), (.slice 22 (.tmp 5) (some (.const (Go.Value.int Go.IntKind.i64 2))) none none, 22), (.nilCheck (.tmp 0), 0), (.fieldAddr 107 (.tmp 9) 0, 0), (.store 22 (.tmp 11) (.tmp 7), 0)]) (b := [(30, 11), (29, 9), (28, 7), (27, 5), (26, 3), (25, 1), (24, 0), (23, 0)]) (by kernel_rfl) ?_
    refine OpK.nilCheck rfl ?_
    refine OpK.fieldAddr (off := 0) (by kernel_rfl) rfl ?_
    refine OpK.load (by kernel_rfl) rfl (hld _ hch) ?_
    refine OpK.sliceFrom (e := 5) (j := 2) (by kernel_rfl) (by kernel_rfl) rfl rfl (by omega) hlc ?_
    refine OpK.nilCheck rfl ?_
    refine OpK.fieldAddr (off := 0) (by kernel_rfl) rfl ?_
    refine OpK.store (by kernel_rfl) rfl rfl rfl (show (w1.cell? ⟨g, 0, none⟩).isSome = true by rw [hb1.cell 0]; rfl) (hb1.free 0) ?_
    refine CWL.reg (ops := []) (b := [(2, 6), (31, 6)]) (by kernel_rfl) ?_
    refine CWL.ret ?_
    rw [hr]
    have hs1 : SrcIs w1 S s.rest (.slice (some a') s.rest.length c) := hs.keep fun k hk => hch.block k (hS k hk) fun h => h
    have hst := h1.step (hs1.drop (j := 2) (by omega))
    exact ⟨_, rfl, rfl, hst.1, (hch.mono fun _ _ h => h.elim).trans' hst.2, fun _ => NN.of_step hb1 a' c 2 _ _⟩

theorem call80 : Callable Tryd.prog 80 := ⟨Tryd.f80, Tryd.func80, by kernel_rfl, by kernel_rfl⟩
set_option maxHeartbeats 4000000 in
theorem r80 (w : World) (S : Nat → Prop) (hS : ∀ k, S k → k < w.heap.size) (g : Nat) (t : TypeId) (s : Rs) (h : RdIs w S g t s) :
    Calls Tryd.prog 80 #[.pointer (some ⟨g, 0, none⟩)] w fun en w' => ∃ v, en = .returned v ∧ v = .int .i32 (rdInt .i32 4 s).1 ∧ RdIs w' S g t (rdInt .i32 4 s).2 ∧ Ch (fun k => k = g) w w' ∧ ((rdInt .i32 4 s).2.bad = false → NN w' g) := by
  obtain ⟨v, hb, hs, hg⟩ := id h
  obtain ⟨a, c, rfl, hlc⟩ := hs.form
  have hc0 : w.cell? ((⟨g, 0, none⟩ : Addr).add 0) = some (.slice a s.rest.length c) := hb.cell 0
  have hgl := hb.lt
  by_cases hlen : s.rest.length < 4
  · have hr : rdInt .i32 4 s = (0, Rs.fail) := by unfold rdInt rdN; rw [if_pos hlen]
    refine Calls.of_CW Tryd.func80 rfl (by decide +kernel) (Nat.le_of_ble_eq_true (by kernel_rfl)) (CW.of_flat ?_)
    simp only [flat, List.cons_append, List.nil_append, List.append_nil]
    refine CWL.reg (ops := [(.assign (.const (Go.Value.int Go.IntKind.i32 0)), 21)]) (b := [(2, 1)]) (by kernel_rfl) ?_
    refine OpK.assign ?_
    refine CWL.reg (ops := [(.nilCheck (.tmp 0), 0), (.fieldAddr 107 (.tmp 1) 0, 0), (.load 22 (.tmp 3), 22), (.call ⟨.builtin .len, #[.tmp 5], #[22]⟩, 3), (.binOp .lss 3 (.tmp 7) (.const (Go.Value.int Go.IntKind.i64 4)) 3, 4)]) (b := [(9, 9), (8, 7), (7, 5), (6, 3), (5, 1), (4, 0)]) (by kernel_rfl) ?_
    refine OpK.nilCheck rfl ?_
    refine OpK.fieldAddr (off := 0) (by kernel_rfl) rfl ?_
    refine OpK.load (by kernel_rfl) rfl hc0 ?_
    refine OpK.len (e := 5) (by kernel_rfl) rfl ?_
    refine OpK.cmp rfl rfl rfl ?_
    refine CWL.condT (congrArg Value.bool (decide_eq_true (by omega))) ?_
    simp only [flat, List.cons_append, List.nil_append, List.append_nil]
    refine CWL.reg (ops := [(.nilCheck (.tmp 0), 0), (.fieldAddr 107 (.tmp 1) 1, 0), (.store 4 (.tmp 3) (.const (Go.Value.bool true)), 0)]) (b := [(12, 3), (11, 1), (10, 0)]) (by kernel_rfl) ?_
    refine OpK.nilCheck rfl ?_
    refine OpK.fieldAddr (off := 1) (by kernel_rfl) rfl ?_
    refine OpK.store (by kernel_rfl) rfl rfl rfl (show (w.cell? ⟨g, 1, none⟩).isSome = true by rw [hb.cell 1]; rfl) (hb.free 1) ?_
    have hb1 := hb.set 1 (.bool true)
    refine CWL.reg (ops := [(.nilCheck (.tmp 0), 0), (.fieldAddr 107 (.tmp 1) 0, 0), (.store 22 (.tmp 3) (.const (Go.Value.slice none 0 0)), 0)]) (b := [(15, 3), (14, 1), (13, 0)]) (by kernel_rfl) ?_
    refine OpK.nilCheck rfl ?_
    refine OpK.fieldAddr (off := 0) (by kernel_rfl) rfl ?_
    refine OpK.store (by kernel_rfl) rfl rfl rfl (show ((w.setCell ⟨g, 1, none⟩ (.bool true)).cell? ⟨g, 0, none⟩).isSome = true by rw [hb1.cell 0]; rfl) (hb1.free 0) ?_
    refine CWL.reg (ops := [(.assign (.const (Go.Value.int Go.IntKind.i32 0)), 21)]) (b := [(2, 1)]) (by kernel_rfl) ?_
    refine OpK.assign ?_
    refine CWL.ret ?_
    rw [hr]
    exact ⟨_, rfl, rfl, h.fail.1, h.fail.2, fun h => by cases h⟩
  · obtain ⟨b0, b1, b2, b3, r, hrest⟩ := octets4 hlen
    obtain ⟨a', rfl, _, hSa, hO⟩ := hs.some_ (by rw [hrest]; simp)
    have hr : rdInt .i32 4 s = (IntKind.i32.wrap ((unbe [b0, b1, b2, b3] : Nat) : Int), ⟨s.rest.drop 4, s.bad⟩) := by
      unfold rdInt rdN
      rw [if_neg hlen, hrest]
      simp
    have hld : ∀ w', Ch (fun _ => False) w w' → w'.cell? ((⟨g, 0, none⟩ : Addr).add 0) = some (.slice (some a') s.rest.length c) := fun w' h' => (ch_cell h' hgl (fun h => h) rfl).trans hc0
    refine Calls.of_CW Tryd.func80 rfl (by decide +kernel) (Nat.le_of_ble_eq_true (by kernel_rfl)) (CW.of_flat ?_)
    simp only [flat, List.cons_append, List.nil_append, List.append_nil]
    refine CWL.reg (ops := [(.assign (.const (Go.Value.int Go.IntKind.i32 0)), 21)]) (b := [(2, 1)]) (by kernel_rfl) ?_
    refine OpK.assign ?_
    refine CWL.reg (ops := [(.nilCheck (.tmp 0), 0), (.fieldAddr 107 (.tmp 1) 0, 0), (.load 22 (.tmp 3), 22), (.call ⟨.builtin .len, #[.tmp 5], #[22]⟩, 3), (.binOp .lss 3 (.tmp 7) (.const (Go.Value.int Go.IntKind.i64 4)) 3, 4)]) (b := [(9, 9), (8, 7), (7, 5), (6, 3), (5, 1), (4, 0)]) (by kernel_rfl) ?_
    refine OpK.nilCheck rfl ?_
    refine OpK.fieldAddr (off := 0) (by kernel_rfl) rfl ?_
    refine OpK.load (by kernel_rfl) rfl hc0 ?_
    refine OpK.len (e := 5) (by kernel_rfl) rfl ?_
    refine OpK.cmp rfl rfl rfl ?_
    refine CWL.condF (congrArg Value.bool (decide_eq_false (by omega))) ?_
    simp only [flat, List.cons_append, List.nil_append, List.append_nil]
    refine CWL.regD0 mixed [(0, true), (1, true), (2, true), (3, true), (4, true), (5, false), (6, true), (7, true)] (by decide +kernel) ?_
    refine HW.early rfl rfl (Yi.empty (by kernel_rfl) rfl) ?_
    refine HW.early rfl rfl Yi.move ?_
    refine HW.early rfl rfl (Yi.nilCheck rfl) ?_
    refine HW.early rfl rfl (Yi.fieldAddr (off := 0) (by kernel_rfl) rfl) ?_
    refine HW.early rfl rfl (Yi.load (by kernel_rfl) rfl hld) ?_
    refine HW.next rfl rfl ?_
    refine OpK.asCall rfl call90 rfl ((be90 w.drew (.agg #[]) a' s.rest.length c b0 b1 b2 b3 r (hrest ▸ hO) (by rw [hrest]) (hS _ hSa)).mono ?_)
    rintro en w1 ⟨v1, he1, hv1, hch⟩
    subst hv1
    have hch : Ch (fun _ => False) w w1 := (Ch.drew _ w).trans' hch
    refine ⟨_, he1, hch, ?_⟩
    refine HW.early rfl rfl (Yi.convInt (k' := .i32) (by kernel_rfl) (by kernel_rfl) rfl) ?_
    refine HW.early rfl rfl Yi.assign ?_
    refine HW.done ?_
    have h1 := h.keep hS hch
    have hb1 := hb.keep (hch.block g hgl fun h => h)
    refine CWL.reg (ops := [(.nilCheck (.tmp 0), 0), (.fieldAddr 107 (.tmp 1) 0, 0), (.load 22 (.tmp 3), 22), (.slice 22 (.tmp 5) (some (.const (Go.Value.int Go.IntKind.i64 4))) none none, 22), (.nilCheck (.tmp 0), 0), (.fieldAddr 107 (.tmp 9) 0, 0), (.store 22 (.tmp 11) (.tmp 7), 0)]) (b := [(30, 11), (29, 9), (28, 7), (27, 5), (26, 3), (25, 1), (24, 0), (23, 0)]) (by kernel_rfl) ?_
    refine OpK.nilCheck rfl ?_
    refine OpK.fieldAddr (off := 0) (by kernel_rfl) rfl ?_
    refine OpK.load (by kernel_rfl) rfl (hld _ hch) ?_
    refine OpK.sliceFrom (e := 5) (j := 4) (by kernel_rfl) (by kernel_rfl) rfl rfl (by omega) hlc ?_
    refine OpK.nilCheck rfl ?_
    refine OpK.fieldAddr (off := 0) (by kernel_rfl) rfl ?_
    refine OpK.store (by kernel_rfl) rfl rfl rfl (show (w1.cell? ⟨g, 0, none⟩).isSome = true by rw [hb1.cell 0]; rfl) (hb1.free 0) ?_
    refine CWL.reg (ops := []) (b := [(2, 6), (31, 6)]) (by kernel_rfl) ?_
    refine CWL.ret ?_
    rw [hr]
    have hs1 : SrcIs w1 S s.rest (.slice (some a') s.rest.length c) := hs.keep fun k hk => hch.block k (hS k hk) fun h => h
    have hst := h1.step (hs1.drop (j := 4) (by omega))
    exact ⟨_, rfl, rfl, hst.1, (hch.mono fun _ _ h => h.elim).trans' hst.2, fun _ => NN.of_step hb1 a' c 4 _ _⟩

theorem call72 : Callable Tryd.prog 72 := ⟨Tryd.f72, Tryd.func72, by kernel_rfl, by kernel_rfl⟩
theorem ok72 (gE : Nat) (eV : Value) : RfOk Tryd.prog gE eV 72 .ok := by
  intro w S g t s h
  obtain ⟨v, hb, hs, hg⟩ := h
  have hc1 : w.cell? ((⟨g, 0, none⟩ : Addr).add 1) = some (.bool s.bad) := hb.cell 1
  refine (Calls.of_CW (R := fun v w' => v = .bool (!s.bad) ∧ w' = w) Tryd.func72 rfl (by decide +kernel) (Nat.le_of_ble_eq_true (by kernel_rfl)) (CW.of_flat ?_)).mono fun en w' ⟨v, he, hv, hw⟩ => ⟨by rw [he, hv], hw⟩
  simp only [flat, List.cons_append, List.nil_append, List.append_nil]
  refine CWL.reg (ops := [(.assign (.const (Go.Value.bool false)), 4)]) (b := [(2, 1)]) (by kernel_rfl) ?_
  refine OpK.assign ?_
  refine CWL.reg (ops := [(.nilCheck (.tmp 0), 0), (.fieldAddr 107 (.tmp 1) 1, 0), (.load 4 (.tmp 3), 4), (.unOp .not 4 (.tmp 5), 4)]) (b := [(2, 7), (7, 7), (6, 5), (5, 3), (4, 1), (3, 0)]) (by kernel_rfl) ?_
  refine OpK.nilCheck rfl ?_
  refine OpK.fieldAddr (off := 1) (by kernel_rfl) rfl ?_
  refine OpK.load (by kernel_rfl) rfl hc1 ?_
  refine OpK.not rfl ?_
  refine CWL.ret ?_
  exact ⟨_, rfl, rfl, rfl⟩

theorem call69 : Callable Tryd.prog 69 := ⟨Tryd.f69, Tryd.func69, by kernel_rfl, by kernel_rfl⟩
theorem ok69 (eV : Value) : RfOk Tryd.prog 1 eV 69 .comp := by
  intro w S g t s h he
  obtain ⟨v, hb, hs, hg⟩ := h
  have hc1 : w.cell? ((⟨g, 0, none⟩ : Addr).add 1) = some (.bool s.bad) := hb.cell 1
  refine (Calls.of_CW (R := fun v w' => v = (if s.bad then eV else .nilIface) ∧ w' = w) Tryd.func69 rfl (by decide +kernel) (Nat.le_of_ble_eq_true (by kernel_rfl)) (CW.of_flat ?_)).mono fun en w' ⟨v, he, hv, hw⟩ => ⟨by rw [he, hv], hw⟩
  simp only [flat, List.cons_append, List.nil_append, List.append_nil]
  refine CWL.reg (ops := [(.assign (.const (Go.Value.nilIface)), 52)]) (b := [(2, 1)]) (by kernel_rfl) ?_
  refine OpK.assign ?_
  refine CWL.reg (ops := [(.nilCheck (.tmp 0), 0), (.fieldAddr 107 (.tmp 1) 1, 0), (.load 4 (.tmp 3), 4)]) (b := [(6, 5), (5, 3), (4, 1), (3, 0)]) (by kernel_rfl) ?_
  refine OpK.nilCheck rfl ?_
  refine OpK.fieldAddr (off := 1) (by kernel_rfl) rfl ?_
  refine OpK.load (by kernel_rfl) rfl hc1 ?_
  cases hbad : s.bad with
  | true =>
    refine CWL.condT rfl ?_
    simp only [flat, List.cons_append, List.nil_append, List.append_nil]
    refine CWL.reg (ops := [(.load 52 (.global 1), 52)]) (b := [(2, 1), (7, 1)]) (by kernel_rfl) ?_
    refine OpK.load (by kernel_rfl) rfl he ?_
    refine CWL.ret ?_
    exact ⟨_, rfl, rfl, rfl⟩
  | false =>
    refine CWL.condF rfl ?_
    simp only [flat, List.cons_append, List.nil_append, List.append_nil]
    refine CWL.reg (ops := [(.assign (.const (Go.Value.nilIface)), 52)]) (b := [(2, 1)]) (by kernel_rfl) ?_
    refine OpK.assign ?_
    refine CWL.ret ?_
    exact ⟨_, rfl, rfl, rfl⟩

theorem call71 : Callable Tryd.prog 71 := ⟨Tryd.f71, Tryd.func71, by kernel_rfl, by kernel_rfl⟩
set_option maxHeartbeats 4000000 in
theorem ok71 (gE : Nat) (eV : Value) : RfOk Tryd.prog gE eV 71 (.len false) := by
  intro w S g t s hS h
  refine (Calls.of_CW (R := fun v w' => ∃ (m : Int) (s' : Rs), v = .int .i32 m ∧ RdIs w' S g t s' ∧ Ch (fun k => k = g) w w' ∧ (-2147483648 ≤ m ∧ m < 2147483648) ∧ Got s.o (decLen false) m s') Tryd.func71 rfl (by decide +kernel) (Nat.le_of_ble_eq_true (by kernel_rfl)) (CW.of_flat ?_)).mono fun en w' ⟨v, he, m, s', hv, hR⟩ => ⟨m, s', by rw [he, hv], hR⟩
  simp only [flat, List.cons_append, List.nil_append, List.append_nil]
  refine CWL.reg (ops := [(.assign (.const (Go.Value.int Go.IntKind.i32 0)), 21)]) (b := [(2, 1)]) (by kernel_rfl) ?_
  refine OpK.assign ?_
  refine CWL.reg (ops := [(.call ⟨.value (.func 80), #[.tmp 0], #[122]⟩, 21)]) (b := [(3, 1), (5, 1), (4, 0)]) (by kernel_rfl) ?_
  refine OpK.asCall rfl call80 rfl ((r80 w S hS g t s h).mono ?_)
  rintro en w1 ⟨v1, he1, hv1, h1, hch, _⟩
  subst hv1
  refine ⟨_, he1, ?_⟩
  have hcnt : Got s.o (decCnt false) (rdInt .i32 4 s).1 (rdInt .i32 4 s).2 := got_int .i32 4 s
  have hin := rdInt_i32 s
  generalize rdInt .i32 4 s = q at h1 hin hcnt ⊢
  obtain ⟨n, s1⟩ := q
  simp only at h1 hin hcnt ⊢
  have hlen := got_check hcnt
  obtain ⟨v, hb, hs, hg⟩ := id h1
  obtain ⟨a, c, rfl, hlc⟩ := hs.form
  have hc0 : w1.cell? ((⟨g, 0, none⟩ : Addr).add 0) = some (.slice a s1.rest.length c) := hb.cell 0
  refine CWL.reg (ops := [(.nilCheck (.tmp 0), 0), (.fieldAddr 107 (.tmp 1) 0, 0), (.load 22 (.tmp 3), 22), (.call ⟨.builtin .len, #[.tmp 5], #[22]⟩, 3), (.convert 21 3 (.tmp 6), 3), (.binOp .lss 3 (.tmp 7) (.tmp 9) 3, 4)]) (b := [(13, 11), (12, 9), (11, 6), (10, 7), (9, 5), (8, 3), (7, 1), (6, 0)]) (by kernel_rfl) ?_
  refine OpK.nilCheck rfl ?_
  refine OpK.fieldAddr (off := 0) (by kernel_rfl) rfl ?_
  refine OpK.load (by kernel_rfl) rfl hc0 ?_
  refine OpK.len (e := 5) (by kernel_rfl) rfl ?_
  refine OpK.convInt (k' := .i64) (by kernel_rfl) (by kernel_rfl) rfl ?_
  refine OpK.cmp rfl rfl rfl ?_
  by_cases hlt : (s1.rest.length : Int) < n
  · rw [if_pos hlt] at hlen
    refine CWL.condT (congrArg Value.bool (decide_eq_true (by rw [i64_in n hin.1 hin.2]; exact hlt))) ?_
    simp only [flat, List.cons_append, List.nil_append, List.append_nil]
    refine CWL.reg (ops := [(.nilCheck (.tmp 0), 0), (.fieldAddr 107 (.tmp 1) 1, 0), (.store 4 (.tmp 3) (.const (Go.Value.bool true)), 0)]) (b := [(16, 3), (15, 1), (14, 0)]) (by kernel_rfl) ?_
    refine OpK.nilCheck rfl ?_
    refine OpK.fieldAddr (off := 1) (by kernel_rfl) rfl ?_
    refine OpK.store (by kernel_rfl) rfl rfl rfl (show (w1.cell? ⟨g, 1, none⟩).isSome = true by rw [hb.cell 1]; rfl) (hb.free 1) ?_
    have hb1 := hb.set 1 (.bool true)
    refine CWL.reg (ops := [(.nilCheck (.tmp 0), 0), (.fieldAddr 107 (.tmp 1) 0, 0), (.store 22 (.tmp 3) (.const (Go.Value.slice none 0 0)), 0)]) (b := [(19, 3), (18, 1), (17, 0)]) (by kernel_rfl) ?_
    refine OpK.nilCheck rfl ?_
    refine OpK.fieldAddr (off := 0) (by kernel_rfl) rfl ?_
    refine OpK.store (by kernel_rfl) rfl rfl rfl (show ((w1.setCell ⟨g, 1, none⟩ (.bool true)).cell? ⟨g, 0, none⟩).isSome = true by rw [hb1.cell 0]; rfl) (hb1.free 0) ?_
    refine CWL.reg (ops := [(.assign (.const (Go.Value.int Go.IntKind.i32 0)), 21)]) (b := [(2, 1)]) (by kernel_rfl) ?_
    refine OpK.assign ?_
    refine CWL.ret ?_
    exact ⟨_, rfl, 0, Rs.fail, rfl, h1.fail.1, hch.trans' h1.fail.2, by decide, hlen⟩
  · rw [if_neg hlt] at hlen
    refine CWL.condF (congrArg Value.bool (decide_eq_false (by rw [i64_in n hin.1 hin.2]; exact hlt))) ?_
    simp only [flat, List.cons_append, List.nil_append, List.append_nil]
    refine CWL.reg (ops := []) (b := [(2, 6), (20, 6)]) (by kernel_rfl) ?_
    refine CWL.ret ?_
    exact ⟨_, rfl, n, s1, rfl, h1, hch, hin, hlen⟩

theorem call89 : Callable Tryd.prog 89 := ⟨Tryd.f89, Tryd.func89, by kernel_rfl, by kernel_rfl⟩
set_option maxHeartbeats 4000000 in
theorem sp89 (w : World) (S : Nat → Prop) (hS : ∀ k, S k → k < w.heap.size) (g : Nat) (t : TypeId) (s : Rs) (h : RdIs w S g t s) (n : Int) :
    Calls Tryd.prog 89 #[.pointer (some ⟨g, 0, none⟩), .int .i64 n] w fun en w' => ∃ v, en = .returned v ∧ SrcIs w' S ((rdSpan n s).1.getD []) v ∧ RdIs w' S g t (rdSpan n s).2 ∧ Ch (fun k => k = g) w w' ∧ ((rdSpan n s).2.bad = false → NN w g → v ≠ .slice none 0 0) := by
  obtain ⟨v, hb, hs, hg⟩ := id h
  obtain ⟨a, c, rfl, hlc⟩ := hs.form
  have hc0 : w.cell? ((⟨g, 0, none⟩ : Addr).add 0) = some (.slice a s.rest.length c) := hb.cell 0
  have hgl := hb.lt
  by_cases hlt : (s.rest.length : Int) < n
  · have hr : rdSpan n s = (none, Rs.fail) := by unfold rdSpan rdN; rw [if_neg (by omega), if_pos (by omega)]
    refine Calls.of_CW Tryd.func89 rfl (by decide +kernel) (Nat.le_of_ble_eq_true (by kernel_rfl)) (CW.of_flat ?_)
    simp only [flat, List.cons_append, List.nil_append, List.append_nil]
    refine CWL.reg (ops := [(.assign (.const (Go.Value.slice none 0 0)), 22)]) (b := [(4, 1)]) (by kernel_rfl) ?_
    refine OpK.assign ?_
    refine CWL.cons (CW.region ?_)
    refine RW.want rfl (OpK.move ?_)
    refine RW.want rfl (OpK.nilCheck rfl ?_)
    refine RW.want rfl (OpK.fieldAddr (off := 0) (by kernel_rfl) rfl ?_)
    refine RW.want rfl (OpK.load (by kernel_rfl) rfl hc0 ?_)
    refine RW.want rfl (OpK.len (e := 5) (by kernel_rfl) rfl ?_)
    refine RW.want rfl (OpK.move ?_)
    refine RW.want rfl (OpK.cmp rfl rfl rfl ?_)
    refine RW.want rfl (OpK.move ?_)
    refine RW.skip (guard_not false (decide_eq_true hlt)) ?_
    refine RW.skip (guard_not false (decide_eq_true hlt)) ?_
    refine RW.want rfl (OpK.pick rfl ?_)
    refine RW.z ?_
    refine CWL.condT (by simp only [Then, ev_tmp]; simp [upd, hlt]) ?_
    simp only [flat, List.cons_append, List.nil_append, List.append_nil]
    refine CWL.reg (ops := [(.nilCheck (.tmp 0), 0), (.fieldAddr 107 (.tmp 1) 1, 0), (.store 4 (.tmp 3) (.const (Go.Value.bool true)), 0)]) (b := [(19, 3), (18, 1), (17, 0)]) (by kernel_rfl) ?_
    refine OpK.nilCheck rfl ?_
    refine OpK.fieldAddr (off := 1) (by kernel_rfl) rfl ?_
    refine OpK.store (by kernel_rfl) rfl rfl rfl (show (w.cell? ⟨g, 1, none⟩).isSome = true by rw [hb.cell 1]; rfl) (hb.free 1) ?_
    have hb1 := hb.set 1 (.bool true)
    refine CWL.reg (ops := [(.nilCheck (.tmp 0), 0), (.fieldAddr 107 (.tmp 1) 0, 0), (.store 22 (.tmp 3) (.const (Go.Value.slice none 0 0)), 0)]) (b := [(22, 3), (21, 1), (20, 0)]) (by kernel_rfl) ?_
    refine OpK.nilCheck rfl ?_
    refine OpK.fieldAddr (off := 0) (by kernel_rfl) rfl ?_
    refine OpK.store (by kernel_rfl) rfl rfl rfl (show ((w.setCell ⟨g, 1, none⟩ (.bool true)).cell? ⟨g, 0, none⟩).isSome = true by rw [hb1.cell 0]; rfl) (hb1.free 0) ?_
    refine CWL.reg (ops := [(.assign (.const (Go.Value.slice none 0 0)), 22)]) (b := [(4, 1)]) (by kernel_rfl) ?_
    refine OpK.assign ?_
    refine CWL.ret ?_
    rw [hr]
    exact ⟨_, rfl, .inl ⟨rfl, rfl⟩, h.fail.1, h.fail.2, fun h => by cases h⟩
  · by_cases hn : n < 0
    · have hr : rdSpan n s = (none, Rs.fail) := by unfold rdSpan; rw [if_pos hn]
      refine Calls.of_CW Tryd.func89 rfl (by decide +kernel) (Nat.le_of_ble_eq_true (by kernel_rfl)) (CW.of_flat ?_)
      simp only [flat, List.cons_append, List.nil_append, List.append_nil]
      refine CWL.reg (ops := [(.assign (.const (Go.Value.slice none 0 0)), 22)]) (b := [(4, 1)]) (by kernel_rfl) ?_
      refine OpK.assign ?_
      refine CWL.cons (CW.region ?_)
      refine RW.want rfl (OpK.move ?_)
      refine RW.want rfl (OpK.nilCheck rfl ?_)
      refine RW.want rfl (OpK.fieldAddr (off := 0) (by kernel_rfl) rfl ?_)
      refine RW.want rfl (OpK.load (by kernel_rfl) rfl hc0 ?_)
      refine RW.want rfl (OpK.len (e := 5) (by kernel_rfl) rfl ?_)
      refine RW.want rfl (OpK.move ?_)
      refine RW.want rfl (OpK.cmp rfl rfl rfl ?_)
      refine RW.want rfl (OpK.move ?_)
      refine RW.want (guard_is false (decide_eq_false hlt)) (OpK.move ?_)
      refine RW.want (guard_is false (decide_eq_false hlt)) (OpK.cmp rfl rfl rfl ?_)
      refine RW.want rfl (OpK.pick rfl ?_)
      refine RW.z ?_
      refine CWL.condT (by simp only [Then, ev_tmp]; simp [upd, hlt, hn]) ?_
      simp only [flat, List.cons_append, List.nil_append, List.append_nil]
      refine CWL.reg (ops := [(.nilCheck (.tmp 0), 0), (.fieldAddr 107 (.tmp 1) 1, 0), (.store 4 (.tmp 3) (.const (Go.Value.bool true)), 0)]) (b := [(19, 3), (18, 1), (17, 0)]) (by kernel_rfl) ?_
      refine OpK.nilCheck rfl ?_
      refine OpK.fieldAddr (off := 1) (by kernel_rfl) rfl ?_
      refine OpK.store (by kernel_rfl) rfl rfl rfl (show (w.cell? ⟨g, 1, none⟩).isSome = true by rw [hb.cell 1]; rfl) (hb.free 1) ?_
      have hb1 := hb.set 1 (.bool true)
      refine CWL.reg (ops := [(.nilCheck (.tmp 0), 0), (.fieldAddr 107 (.tmp 1) 0, 0), (.store 22 (.tmp 3) (.const (Go.Value.slice none 0 0)), 0)]) (b := [(22, 3), (21, 1), (20, 0)]) (by kernel_rfl) ?_
      refine OpK.nilCheck rfl ?_
      refine OpK.fieldAddr (off := 0) (by kernel_rfl) rfl ?_
      refine OpK.store (by kernel_rfl) rfl rfl rfl (show ((w.setCell ⟨g, 1, none⟩ (.bool true)).cell? ⟨g, 0, none⟩).isSome = true by rw [hb1.cell 0]; rfl) (hb1.free 0) ?_
      refine CWL.reg (ops := [(.assign (.const (Go.Value.slice none 0 0)), 22)]) (b := [(4, 1)]) (by kernel_rfl) ?_
      refine OpK.assign ?_
      refine CWL.ret ?_
      rw [hr]
      exact ⟨_, rfl, .inl ⟨rfl, rfl⟩, h.fail.1, h.fail.2, fun h => by cases h⟩
    · obtain ⟨j, rfl⟩ : ∃ j : Nat, n = (j : Int) := ⟨n.toNat, by omega⟩
      have hr : rdSpan (j : Int) s = (some (s.rest.take j), ⟨s.rest.drop j, s.bad⟩) := by unfold rdSpan rdN; rw [if_neg hn, Int.toNat_natCast, if_neg (by omega)]
      refine Calls.of_CW Tryd.func89 rfl (by decide +kernel) (Nat.le_of_ble_eq_true (by kernel_rfl)) (CW.of_flat ?_)
      simp only [flat, List.cons_append, List.nil_append, List.append_nil]
      refine CWL.reg (ops := [(.assign (.const (Go.Value.slice none 0 0)), 22)]) (b := [(4, 1)]) (by kernel_rfl) ?_
      refine OpK.assign ?_
      refine CWL.cons (CW.region ?_)
      refine RW.want rfl (OpK.move ?_)
      refine RW.want rfl (OpK.nilCheck rfl ?_)
      refine RW.want rfl (OpK.fieldAddr (off := 0) (by kernel_rfl) rfl ?_)
      refine RW.want rfl (OpK.load (by kernel_rfl) rfl hc0 ?_)
      refine RW.want rfl (OpK.len (e := 5) (by kernel_rfl) rfl ?_)
      refine RW.want rfl (OpK.move ?_)
      refine RW.want rfl (OpK.cmp rfl rfl rfl ?_)
      refine RW.want rfl (OpK.move ?_)
      refine RW.want (guard_is false (decide_eq_false hlt)) (OpK.move ?_)
      refine RW.want (guard_is false (decide_eq_false hlt)) (OpK.cmp rfl rfl rfl ?_)
      refine RW.want rfl (OpK.pick rfl ?_)
      refine RW.z ?_
      refine CWL.condF (by simp only [Then, ev_tmp]; simp [upd, hlt]; try omega) ?_
      simp only [flat, List.cons_append, List.nil_append, List.append_nil]
      refine CWL.reg (ops := [(.nilCheck (.tmp 0), 0), (.fieldAddr 107 (.tmp 1) 0, 0), (.load 22 (.tmp 3), 22), (.slice 22 (.tmp 5) none (some (.tmp 2)) (some (.tmp 2)), 22)]) (b := [(5, 7), (29, 7), (28, 2), (27, 2), (26, 5), (25, 3), (24, 1), (23, 0)]) (by kernel_rfl) ?_
      refine OpK.nilCheck rfl ?_
      refine OpK.fieldAddr (off := 0) (by kernel_rfl) rfl ?_
      refine OpK.load (by kernel_rfl) rfl hc0 ?_
      refine OpK.sliceTo3 (e := 5) (j := j) (by kernel_rfl) (by kernel_rfl) rfl rfl rfl (by omega) ?_
      refine CWL.reg (ops := [(.nilCheck (.tmp 0), 0), (.fieldAddr 107 (.tmp 1) 0, 0), (.load 22 (.tmp 3), 22), (.slice 22 (.tmp 5) (some (.tmp 2)) none none, 22), (.nilCheck (.tmp 0), 0), (.fieldAddr 107 (.tmp 9) 0, 0), (.store 22 (.tmp 11) (.tmp 7), 0)]) (b := [(38, 11), (37, 9), (36, 7), (35, 2), (34, 5), (33, 3), (32, 1), (31, 0), (30, 0)]) (by kernel_rfl) ?_
      refine OpK.nilCheck rfl ?_
      refine OpK.fieldAddr (off := 0) (by kernel_rfl) rfl ?_
      refine OpK.load (by kernel_rfl) rfl hc0 ?_
      refine OpK.sliceFrom (e := 5) (j := j) (by kernel_rfl) (by kernel_rfl) rfl rfl (by omega) hlc ?_
      refine OpK.nilCheck rfl ?_
      refine OpK.fieldAddr (off := 0) (by kernel_rfl) rfl ?_
      refine OpK.store (by kernel_rfl) rfl rfl rfl (show (w.cell? ⟨g, 0, none⟩).isSome = true by rw [hb.cell 0]; rfl) (hb.free 0) ?_
      refine CWL.reg (ops := []) (b := [(4, 10), (39, 10)]) (by kernel_rfl) ?_
      refine CWL.ret ?_
      rw [hr]
      have hst := h.step (hs.drop (j := j) (by omega))
      have hsp := hs.span (j := j) (by omega)
      refine ⟨_, rfl, hsp.keep (fun k hk => setCell_other w _ _ k fun e => hg (by rw [← show k = g from e]; exact hk)), hst.1, hst.2, fun _ ⟨a1, n1, c1, hnn⟩ => ?_⟩
      have : a = some a1 := by
        rw [hb.cell 0] at hnn
        cases hnn
        rfl
      rw [this]
      rw [span_some]
      intro hh
      cases hh

theorem call68 : Callable Tryd.prog 68 := ⟨Tryd.f68, Tryd.func68, by kernel_rfl, by kernel_rfl⟩
set_option maxHeartbeats 4000000 in
theorem ok68 (gE : Nat) (eV : Value) : RfOk Tryd.prog gE eV 68 (.val false .str) := by
  intro w S g t s hS h
  refine (Calls.of_CW (R := fun v w' => ∃ u cs s', v = ldv (Wt.ty .str) cs ∧ RdIs w' S g t s' ∧ Ch (fun k => k = g) w w' ∧ Rep w' (NewB S w w') (Wt.ty .str) u cs ∧ Got s.o (decW false .str) u s') Tryd.func68 rfl (by decide +kernel) (Nat.le_of_ble_eq_true (by kernel_rfl)) (CW.of_flat ?_)).mono fun en w' ⟨v, he, u, cs, s', hv, hR⟩ => ⟨u, cs, s', by rw [he, hv], hR⟩
  simp only [flat, List.cons_append, List.nil_append, List.append_nil]
  refine CWL.reg (ops := [(.assign (.const (Go.Value.string {data := #[]})), 9)]) (b := [(2, 1)]) (by kernel_rfl) ?_
  refine OpK.assign ?_
  refine CWL.reg (ops := [(.call ⟨.value (.func 66), #[.tmp 0], #[122]⟩, 47)]) (b := [(3, 1), (5, 1), (4, 0)]) (by kernel_rfl) ?_
  refine OpK.asCall rfl call66 rfl ((r66 w S hS g t s h).mono ?_)
  rintro en w1 ⟨v1, he1, hv1, h1, hch, hnn⟩
  subst hv1
  refine ⟨_, he1, ?_⟩
  have hlen : Got s.o (decStrLen false) (rdInt .i16 2 s).1 (rdInt .i16 2 s).2 := got_int .i16 2 s
  have hconv := i64_of_i16 _ (rdInt_in .i16 2 s)
  generalize rdInt .i16 2 s = q at h1 hlen hconv hnn ⊢
  obtain ⟨n, s1⟩ := q
  simp only at h1 hlen hconv hnn ⊢
  refine CWL.reg (ops := [(.convert 47 3 (.tmp 6), 3), (.call ⟨.value (.func 89), #[.tmp 0, .tmp 1], #[122, 3]⟩, 22), (.convert 22 9 (.tmp 3), 9)]) (b := [(2, 5), (10, 5), (9, 3), (8, 1), (7, 6), (6, 0)]) (by kernel_rfl) ?_
  refine OpK.convInt (k' := .i64) (by kernel_rfl) (by kernel_rfl) rfl ?_
  rw [hconv]
  refine OpK.asCall rfl call89 rfl ((sp89 w1 S (fun k hk => Nat.lt_of_lt_of_le (hS k hk) hch.size) g t s1 h1 n).mono ?_)
  rintro en w2 ⟨v2, he2, hv2, h2, hch2, _⟩
  refine ⟨_, he2, ?_⟩
  refine OpK.bytesStr (e := 5) (by kernel_rfl) (by kernel_rfl) (by kernel_rfl) rfl hv2 ?_
  refine CWL.ret ?_
  have hgs := got_span n s1
  exact ⟨_, rfl, .s ((rdSpan n s1).1.getD []), [strV ((rdSpan n s1).1.getD [])], (rdSpan n s1).2, rfl, h2, hch.trans' hch2, rfl, got_str hlen (gs_str s1 _)⟩

theorem call85 : Callable Tryd.prog 85 := ⟨Tryd.f85, Tryd.func85, by kernel_rfl, by kernel_rfl⟩
set_option maxHeartbeats 4000000 in
theorem ok85 (gE : Nat) (eV : Value) : RfOk Tryd.prog gE eV 85 (.val false .nstr) := by
  intro w S g t s hS h
  refine (Calls.of_CW (R := fun v w' => ∃ u cs s', v = ldv (Wt.ty .nstr) cs ∧ RdIs w' S g t s' ∧ Ch (fun k => k = g) w w' ∧ Rep w' (NewB S w w') (Wt.ty .nstr) u cs ∧ Got s.o (decW false .nstr) u s') Tryd.func85 rfl (by decide +kernel) (Nat.le_of_ble_eq_true (by kernel_rfl)) (CW.of_flat ?_)).mono fun en w' ⟨v, he, u, cs, s', hv, hR⟩ => ⟨u, cs, s', by rw [he, hv], hR⟩
  simp only [flat, List.cons_append, List.nil_append, List.append_nil]
  refine CWL.reg (ops := [(.assign (.const (Go.Value.pointer none)), 65)]) (b := [(2, 1)]) (by kernel_rfl) ?_
  refine OpK.assign ?_
  refine CWL.reg (ops := [(.call ⟨.value (.func 66), #[.tmp 0], #[122]⟩, 47)]) (b := [(3, 1), (6, 1), (5, 0)]) (by kernel_rfl) ?_
  refine OpK.asCall rfl call66 rfl ((r66 w S hS g t s h).mono ?_)
  rintro en w1 ⟨v1, he1, hv1, h1, hch, hnn⟩
  subst hv1
  refine ⟨_, he1, ?_⟩
  have hlen : Got s.o (decStrLen false) (rdInt .i16 2 s).1 (rdInt .i16 2 s).2 := got_int .i16 2 s
  have hconv := i64_of_i16 _ (rdInt_in .i16 2 s)
  generalize rdInt .i16 2 s = q at h1 hlen hconv hnn ⊢
  obtain ⟨n, s1⟩ := q
  simp only at h1 hlen hconv hnn ⊢
  refine CWL.reg (ops := [(.binOp .lss 47 (.tmp 6) (.const (Go.Value.int Go.IntKind.i16 0)) 47, 4)]) (b := [(8, 1), (7, 6)]) (by kernel_rfl) ?_
  refine OpK.cmp rfl rfl rfl ?_
  by_cases hneg : n < 0
  · refine CWL.condT (congrArg Value.bool (decide_eq_true hneg)) ?_
    simp only [flat, List.cons_append, List.nil_append, List.append_nil]
    refine CWL.reg (ops := [(.assign (.const (Go.Value.pointer none)), 65)]) (b := [(2, 1)]) (by kernel_rfl) ?_
    refine OpK.assign ?_
    refine CWL.ret ?_
    exact ⟨_, rfl, .nsN, [.pointer none], s1, rfl, h1, hch, rfl, got_nstr hlen (gs_nstr0 s1 hneg)⟩
  refine CWL.condF (congrArg Value.bool (decide_eq_false hneg)) ?_
  simp only [flat, List.cons_append, List.nil_append, List.append_nil]
  refine CWL.reg (ops := [(.convert 47 3 (.tmp 6), 3), (.call ⟨.value (.func 89), #[.tmp 0, .tmp 1], #[122, 3]⟩, 22), (.convert 22 9 (.tmp 3), 9), (.alloc 9, 0), (.store 9 (.tmp 7) (.tmp 5), 0)]) (b := [(4, 7), (13, 5), (12, 3), (11, 1), (10, 6), (9, 0)]) (by kernel_rfl) ?_
  refine OpK.convInt (k' := .i64) (by kernel_rfl) (by kernel_rfl) rfl ?_
  rw [hconv]
  refine OpK.asCall rfl call89 rfl ((sp89 w1 S (fun k hk => Nat.lt_of_lt_of_le (hS k hk) hch.size) g t s1 h1 n).mono ?_)
  rintro en w2 ⟨v2, he2, hv2, h2, hch2, _⟩
  refine ⟨_, he2, ?_⟩
  refine OpK.bytesStr (e := 5) (by kernel_rfl) (by kernel_rfl) (by kernel_rfl) rfl hv2 ?_
  refine OpK.allocArr (i := _) (z := .string ⟨#[]⟩) rfl rfl ?_
  refine OpK.store (by kernel_rfl) rfl rfl rfl (by rw [cell_newA]; rfl) (free_new _ _ _) ?_
  refine CWL.reg (ops := []) (b := [(2, 8)]) (by kernel_rfl) ?_
  refine CWL.ret ?_
  have hgs := got_span n s1
  refine ⟨_, rfl, .ns ((rdSpan n s1).1.getD []), [.pointer (some ⟨w2.heap.size, 0, none⟩)], (rdSpan n s1).2, rfl, ?_, ?_, ?_, got_nstr hlen (gs_nstr s1 hneg)⟩
  · exact h2.newStr (fun k hk => Nat.lt_of_lt_of_le (hS k hk) (hch.trans' hch2).size) _ _
  · exact (hch.trans' hch2).trans ((Ch.alloc (fun k => k = w2.heap.size) w2 _).trans' (Ch.set (S := fun k => k = w2.heap.size) _ rfl _)) fun i hi e => by have := (hch.trans' hch2).size; omega
  · refine ⟨w2.heap.size, rfl, .inr ⟨(hch.trans' hch2).size, ?_⟩, ?_⟩
    · simp [World.setCell]
    · exact ((Blk.new w2 _ [_]).set 0 _).cell 0

theorem call82 : Callable Tryd.prog 82 := ⟨Tryd.f82, Tryd.func82, by kernel_rfl, by kernel_rfl⟩
set_option maxHeartbeats 4000000 in
theorem ok82 (gE : Nat) (eV : Value) : RfOk Tryd.prog gE eV 82 (.val false .nbyt) := by
  intro w S g t s hS h
  refine (Calls.of_CW (R := fun v w' => ∃ u cs s', v = ldv (Wt.ty .nbyt) cs ∧ RdIs w' S g t s' ∧ Ch (fun k => k = g) w w' ∧ Rep w' (NewB S w w') (Wt.ty .nbyt) u cs ∧ Got s.o (decW false .nbyt) u s') Tryd.func82 rfl (by decide +kernel) (Nat.le_of_ble_eq_true (by kernel_rfl)) (CW.of_flat ?_)).mono fun en w' ⟨v, he, u, cs, s', hv, hR⟩ => ⟨u, cs, s', by rw [he, hv], hR⟩
  simp only [flat, List.cons_append, List.nil_append, List.append_nil]
  refine CWL.reg (ops := [(.assign (.const (Go.Value.slice none 0 0)), 22)]) (b := [(2, 1)]) (by kernel_rfl) ?_
  refine OpK.assign ?_
  refine CWL.reg (ops := [(.call ⟨.value (.func 80), #[.tmp 0], #[122]⟩, 21)]) (b := [(3, 1), (6, 1), (5, 0)]) (by kernel_rfl) ?_
  refine OpK.asCall rfl call80 rfl ((r80 w S hS g t s h).mono ?_)
  rintro en w1 ⟨v1, he1, hv1, h1, hch, hnn⟩
  subst hv1
  refine ⟨_, he1, ?_⟩
  have hlen : Got s.o (decBytLen false) (rdInt .i32 4 s).1 (rdInt .i32 4 s).2 := got_int .i32 4 s
  have hconv := i64_in _ (rdInt_i32 s).1 (rdInt_i32 s).2
  generalize rdInt .i32 4 s = q at h1 hlen hconv hnn ⊢
  obtain ⟨n, s1⟩ := q
  simp only at h1 hlen hconv hnn ⊢
  refine CWL.reg (ops := [(.binOp .lss 21 (.tmp 6) (.const (Go.Value.int Go.IntKind.i32 0)) 21, 4)]) (b := [(8, 1), (7, 6)]) (by kernel_rfl) ?_
  refine OpK.cmp rfl rfl rfl ?_
  by_cases hneg : n < 0
  · refine CWL.condT (congrArg Value.bool (decide_eq_true hneg)) ?_
    simp only [flat, List.cons_append, List.nil_append, List.append_nil]
    refine CWL.reg (ops := [(.assign (.const (Go.Value.slice none 0 0)), 22)]) (b := [(2, 1)]) (by kernel_rfl) ?_
    refine OpK.assign ?_
    refine CWL.ret ?_
    exact ⟨_, rfl, .byN, [.slice none 0 0], s1, rfl, h1, hch, rfl, got_nbyt hlen (gs_nbyt0 s1 hneg)⟩
  refine CWL.condF (congrArg Value.bool (decide_eq_false hneg)) ?_
  simp only [flat, List.cons_append, List.nil_append, List.append_nil]
  refine CWL.reg (ops := [(.convert 21 3 (.tmp 6), 3), (.call ⟨.value (.func 89), #[.tmp 0, .tmp 1], #[122, 3]⟩, 22)]) (b := [(4, 3), (12, 3), (11, 1), (10, 6), (9, 0)]) (by kernel_rfl) ?_
  refine OpK.convInt (k' := .i64) (by kernel_rfl) (by kernel_rfl) rfl ?_
  rw [hconv]
  refine OpK.asCall rfl call89 rfl ((sp89 w1 S (fun k hk => Nat.lt_of_lt_of_le (hS k hk) hch.size) g t s1 h1 n).mono ?_)
  rintro en w2 ⟨v2, he2, hv2, h2, hch2, hnn2⟩
  refine ⟨_, he2, ?_⟩
  refine CWL.reg (ops := []) (b := [(2, 8), (13, 8)]) (by kernel_rfl) ?_
  refine CWL.ret ?_
  have hgs := got_span n s1
  have hfin : Got s.o (decW false .nbyt) (.by_ ((rdSpan n s1).1.getD [])) (rdSpan n s1).2 := got_nbyt hlen (gs_nbyt s1 hneg)
  rcases bytes_rep (NewB S w w2) (fun k hk => .inl hk) hv2 with ⟨rfl, hnil⟩ | hrep
  · by_cases hbad : (rdSpan n s1).2.bad = true
    · exact ⟨_, rfl, .byN, [.slice none 0 0], (rdSpan n s1).2, rfl, h2, hch.trans' hch2, rfl, hfin.any hbad⟩
    · simp only [Bool.not_eq_true] at hbad
      exact absurd rfl (hnn2 hbad (hnn (hgs.well hbad)))
  · exact ⟨_, rfl, .by_ ((rdSpan n s1).1.getD []), [v2], (rdSpan n s1).2, rfl, h2, hch.trans' hch2, hrep, hfin⟩

theorem ok66 (gE : Nat) (eV : Value) : RfOk Tryd.prog gE eV 66 (.val false .i16) := by
  intro w S g t s hS h
  exact (r66 w S hS g t s h).mono fun en w' ⟨v, he, hv, h1, hc, _⟩ => ⟨.i (rdInt .i16 2 s).1, [v], (rdInt .i16 2 s).2, he, h1, hc, ⟨by rw [hv], rdInt_in _ _ _⟩, (got_int .i16 2 s).map V.i⟩

theorem ok80 (gE : Nat) (eV : Value) : RfOk Tryd.prog gE eV 80 (.val false .i32) := by
  intro w S g t s hS h
  exact (r80 w S hS g t s h).mono fun en w' ⟨v, he, hv, h1, hc, _⟩ => ⟨.i (rdInt .i32 4 s).1, [v], (rdInt .i32 4 s).2, he, h1, hc, ⟨by rw [hv], rdInt_in _ _ _⟩, (got_int .i32 4 s).map V.i⟩

end Go.Proofs.YtmgnfbbgjahnhaaDoor.Rd
