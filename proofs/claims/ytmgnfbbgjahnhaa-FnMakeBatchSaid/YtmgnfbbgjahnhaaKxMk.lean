/- The law FnMakeBatch: a batch as it is written. -/
import Derived.Test.YtmgnfbbgjahnhaaKxSame
import Derived.Test.YtmgnfbbgjahnhaaKxSnd
import Derived.Test.YtmgnfbbgjahnhaaKxAgn
import Derived.Test.YtmgnfbbgjahnhaaProg
namespace Go.Proofs.Ytmgnfbbgjahnhaa.Mk
open Go.Kx Go.RowKit Go.Proofs
set_option maxRecDepth 100000
set_option linter.unusedSimpArgs false
set_option linter.unusedVariables false

theorem mixed : Try.prog.follows .mixedOrders = true := by kernel_rfl
theorem u8 : U8 Try.prog 5 := Snd.u8
theorem und : Try.prog.underlying 29 = some (.slice 5) := Snd.und
abbrev New (w w' : World) (d : Value) (bs : List UInt8) : Prop := Grew 5 w (.slice none 0 0) w' d bs
theorem be_w64 (k : Nat) (hk : k ≤ 8) (n : Int) : be k (IntKind.i64.wrap n) = be k n := by
  rw [← be_emod (IntKind.i64.wrap n) 8 k hk, ← be_emod n 8 k hk, show ((256 ^ 8 : Nat) : Int) = 2 ^ IntKind.i64.bits by rfl, wrap_emod]

theorem call17 : Callable Try.prog 17 := ⟨Try.f17, Try.func17, by kernel_rfl, by kernel_rfl⟩
set_option maxHeartbeats 4000000 in
theorem fixed (w : World) (n : Int) (size : Nat) (h8 : size ≤ 8) : Calls Try.prog 17 #[.int .i64 n, .int .i64 (size : Int)] w fun en w' => ∃ d, en = .returned d ∧ New w w' d (be size n) := by
  refine Calls.of_CW Try.func17 rfl (by decide +kernel) (Nat.le_of_ble_eq_true (by kernel_rfl)) (CW.of_flat ?_)
  simp only [flat, List.cons_append, List.nil_append, List.append_nil]
  refine CWL.reg (ops := [(.assign (.const (Go.Value.slice none 0 0)), 29)]) (b := [(4, 1)]) (by kernel_rfl) ?_
  refine OpK.assign ?_
  show CWL _ _ _ _ _ _
  refine CWL.reg (ops := [(.assign (.const (Go.Value.slice none 0 0)), 29)]) (b := [(5, 1)]) (by kernel_rfl) ?_
  refine OpK.assign ?_
  show CWL _ _ _ _ _ _
  refine CWL.reg (ops := [(.binOp .sub 3 (.tmp 2) (.const (Go.Value.int Go.IntKind.i64 1)) 3, 3)]) (b := [(6, 1), (8, 1), (7, 2)]) (by kernel_rfl) ?_
  refine OpK.arith rfl rfl rfl ?_
  show CWL _ _ _ _ _ _
  refine CWL.cons (CW.block (CW.loop (fun m σ wl => ∃ d pre, σ 0 = .int .i64 n ∧ σ 6 = .int .i64 ((m : Int) - 1) ∧ σ 5 = d ∧ New w wl d pre ∧ pre ++ be m n = be size n) size
    ⟨.slice none 0 0, [], rfl, ?_, rfl, Grew.refl (Own.nil _ _), rfl⟩ ?_))
  · refine congrArg (Value.int .i64) ?_
    rw [IntKind.wrap_i64]; omega
  rintro m σ wl ⟨d, pre, e0, e6, e5, hg, hpre⟩
  refine CW.pin [(0, .int .i64 n), (6, .int .i64 ((m : Int) - 1)), (5, d)] (all_pin e0 (all_pin e6 (all_pin e5 (fun _ h => by cases h)))) fun σ => ?_
  simp only [flat, List.cons_append, List.nil_append, List.append_nil]
  refine CWL.reg (ops := [(.binOp .geq 3 (.tmp 12) (.const (Go.Value.int Go.IntKind.i64 0)) 3, 4)]) (b := [(10, 1), (9, 12)]) (by kernel_rfl) ?_
  refine OpK.cmp rfl rfl rfl ?_
  show CWL _ _ _ _ _ _
  have hml : pre.length + m = size := by have := congrArg List.length hpre; simpa [be_length] using this
  cases m with
  | zero =>
    refine CWL.condF (congrArg Value.bool (decide_eq_false (by omega))) ?_
    simp only [flat, List.cons_append, List.nil_append, List.append_nil]
    refine CWL.cons (CW.exit ?_)
    show CWL _ _ _ _ _ _
    refine CWL.reg (ops := []) (b := [(4, 10), (21, 10)]) (by kernel_rfl) ?_
    show CWL _ _ _ _ _ _
    refine CWL.ret ?_
    refine ⟨_, rfl, ?_⟩
    simp only [be, List.append_nil] at hpre
    rw [← hpre]
    exact hg
  | succ m =>
    refine CWL.condT (congrArg Value.bool (decide_eq_true (by omega))) ?_
    simp only [flat, List.cons_append, List.nil_append, List.append_nil]
    refine CWL.block ?_
    simp only [flat, List.cons_append, List.nil_append, List.append_nil]
    obtain ⟨v', w', hr, hg1⟩ := append_lit (ty := 29) und u8 hg.own [byteAt n m] (by simp only [List.length_cons, List.length_nil, Lim]; omega)
    have hi : IntKind.i64.wrap (8 * (((m + 1 : Nat) : Int) - 1)) = ((8 * m : Nat) : Int) := by rw [IntKind.wrap_i64]; omega
    have hbv : (Value.int .u8 (IntKind.u8.wrap (n / 2 ^ min (((8 * m : Nat) : Int).toNat) IntKind.i64.bits)) : Value) = bv (byteAt n m) := by
      rw [show min (((8 * m : Nat) : Int).toNat) IntKind.i64.bits = 8 * m by show min _ 64 = _; omega]
      exact oct_shr n m (8 * m) rfl
    simp only [List.map_cons, List.map_nil, List.length_cons, List.length_nil, ← hbv] at hr
    refine CWL.reg (ops := [(.binOp .mul 3 (.const (Go.Value.int Go.IntKind.i64 8)) (.tmp 12) 3, 3), (.binOp .shr 2 (.tmp 0) (.tmp 1) 3, 2), (.convert 2 5 (.tmp 3), 5), (.buildSlice 29 1 #[(0, .tmp 5)], 29), (.call ⟨.builtin .append, #[.tmp 10, .tmp 7], #[29, 29]⟩, 29)]) (b := [(5, 9), (20, 9), (19, 7), (18, 5), (17, 3), (16, 1), (15, 12), (14, 0), (13, 10)]) (by kernel_rfl) ?_
    refine OpK.arith (r := ((8 * m : Nat) : Int)) (by rw [← hi]; rfl) rfl rfl ?_
    refine OpK.shr rfl rfl (by omega) ?_
    refine OpK.convInt (k' := .u8) (by kernel_rfl) (by kernel_rfl) rfl ?_
    refine OpK.buildS (by simp only [List.map_toArray, List.map_cons, List.map_nil]; exact run_bs1 und u8 _) ?_
    refine OpK.run rfl hr ?_
    show CWL _ _ _ _ _ _
    try refine CWL.nil_ (P := Try.prog) (n := 0) ?_
    show CWL _ _ _ _ _ _
    refine CWL.reg (ops := [(.binOp .sub 3 (.tmp 12) (.const (Go.Value.int Go.IntKind.i64 1)) 3, 3)]) (b := [(6, 1), (12, 1), (11, 12)]) (by kernel_rfl) ?_
    refine OpK.arith rfl rfl rfl ?_
    show CWL _ _ _ _ _ _
    try refine CWL.nil_ (P := Try.prog) (n := 0) ?_
    refine ⟨m, Nat.lt_succ_self m, v', pre ++ [byteAt n m], rfl, ?_, rfl, hg.trans hg1, ?_⟩
    · refine congrArg (Value.int .i64) ?_
      rw [IntKind.wrap_i64]; omega
    · rw [List.append_assoc]; exact hpre


theorem call16 : Callable Try.prog 16 := ⟨Try.f16, Try.func16, by kernel_rfl, by kernel_rfl⟩
set_option maxHeartbeats 8000000 in
theorem appendTo (w : World) (g : Nat) (f0 f1 f2 f3 f4 f5 f6 f7 f8 f9 f10 f11 f12 : Int) (vr : Value) (rec : List UInt8) (hb : Blk w g 45 [.int .i64 f0, .int .i32 f1, .int .i32 f2, .int .i8 f3, .int .i32 f4, .int .i16 f5, .int .i32 f6, .int .i64 f7, .int .i64 f8, .int .i64 f9, .int .i16 f10, .int .i32 f11, .int .i32 f12, vr]) (d : Value) (bs : List UInt8) (hd : Own 5 w d bs) (hne : ¬ d.ownBlock = some g) (hr : Own 5 w vr rec) (hrd : ∀ k, vr.ownBlock = some k → ¬ d.ownBlock = some k) (hl : bs.length + 61 + rec.length ≤ Lim) :
    Calls Try.prog 16 #[.pointer (some ⟨g, 0, none⟩), d] w fun en w' => ∃ d', en = .returned d' ∧ Grew 5 w d w' d' (bs ++ be 8 f0 ++ be 4 f1 ++ be 4 f2 ++ be 1 f3 ++ be 4 f4 ++ be 2 f5 ++ be 4 f6 ++ be 8 f7 ++ be 8 f8 ++ be 8 f9 ++ be 2 f10 ++ be 4 f11 ++ be 4 f12 ++ rec) := by
  refine Calls.of_CW Try.func16 rfl (by decide +kernel) (Nat.le_of_ble_eq_true (by kernel_rfl)) (CW.of_flat ?_)
  simp only [flat, List.cons_append, List.nil_append, List.append_nil]
  have hg0 := Grew.refl hd
  refine CWL.reg (ops := [(.assign (.const (Go.Value.slice none 0 0)), 29)]) (b := [(4, 1)]) (by kernel_rfl) ?_
  refine OpK.assign ?_
  show CWL _ _ _ _ _ _
  have hb0 := hb.chS hg0.ch hne
  refine CWL.reg (ops := [(.nilCheck (.tmp 0), 0), (.fieldAddr 45 (.tmp 1) 0, 0), (.load 2 (.tmp 3), 2)]) (b := [(5, 5), (22, 5), (21, 3), (20, 1), (19, 0)]) (by kernel_rfl) ?_
  refine OpK.nilCheck rfl ?_
  refine OpK.fieldAddr (off := 0) (by kernel_rfl) rfl ?_
  refine OpK.load (by kernel_rfl) rfl (hb0.cell 0) ?_
  show CWL _ _ _ _ _ _
  refine CWL.reg (ops := [(.call ⟨.value (.func 18), #[.tmp 2, .tmp 10], #[29, 2]⟩, 29)]) (b := [(1, 1), (25, 1), (24, 10), (23, 2)]) (by kernel_rfl) ?_
  refine OpK.asCall rfl Snd.call18 rfl ((Snd.c18 w f0 d _ hg0.own (by first | omega | (simp only [List.length_append, be_length]; omega))).mono ?_)
  rintro en w1 ⟨d1, he1, hn1⟩
  refine ⟨_, he1, ?_⟩
  have hg1 := hg0.trans hn1
  show CWL _ _ _ _ _ _
  have hb1 := hb.chS hg1.ch hne
  refine CWL.reg (ops := [(.nilCheck (.tmp 0), 0), (.fieldAddr 45 (.tmp 1) 1, 0), (.load 21 (.tmp 3), 21)]) (b := [(6, 5), (29, 5), (28, 3), (27, 1), (26, 0)]) (by kernel_rfl) ?_
  refine OpK.nilCheck rfl ?_
  refine OpK.fieldAddr (off := 1) (by kernel_rfl) rfl ?_
  refine OpK.load (by kernel_rfl) rfl (hb1.cell 1) ?_
  show CWL _ _ _ _ _ _
  refine CWL.reg (ops := [(.call ⟨.value (.func 19), #[.tmp 2, .tmp 12], #[29, 21]⟩, 29)]) (b := [(1, 1), (32, 1), (31, 12), (30, 2)]) (by kernel_rfl) ?_
  refine OpK.asCall rfl Snd.call19 rfl ((Snd.c19 w1 f1 d1 _ hg1.own (by first | omega | (simp only [List.length_append, be_length]; omega))).mono ?_)
  rintro en w2 ⟨d2, he2, hn2⟩
  refine ⟨_, he2, ?_⟩
  have hg2 := hg1.trans hn2
  show CWL _ _ _ _ _ _
  have hb2 := hb.chS hg2.ch hne
  refine CWL.reg (ops := [(.nilCheck (.tmp 0), 0), (.fieldAddr 45 (.tmp 1) 2, 0), (.load 21 (.tmp 3), 21)]) (b := [(7, 5), (36, 5), (35, 3), (34, 1), (33, 0)]) (by kernel_rfl) ?_
  refine OpK.nilCheck rfl ?_
  refine OpK.fieldAddr (off := 2) (by kernel_rfl) rfl ?_
  refine OpK.load (by kernel_rfl) rfl (hb2.cell 2) ?_
  show CWL _ _ _ _ _ _
  refine CWL.reg (ops := [(.call ⟨.value (.func 19), #[.tmp 2, .tmp 14], #[29, 21]⟩, 29)]) (b := [(1, 1), (39, 1), (38, 14), (37, 2)]) (by kernel_rfl) ?_
  refine OpK.asCall rfl Snd.call19 rfl ((Snd.c19 w2 f2 d2 _ hg2.own (by first | omega | (simp only [List.length_append, be_length]; omega))).mono ?_)
  rintro en w3 ⟨d3, he3, hn3⟩
  refine ⟨_, he3, ?_⟩
  have hg3 := hg2.trans hn3
  show CWL _ _ _ _ _ _
  have hb3 := hb.chS hg3.ch hne
  refine CWL.reg (ops := [(.nilCheck (.tmp 0), 0), (.fieldAddr 45 (.tmp 1) 3, 0), (.load 30 (.tmp 3), 30)]) (b := [(8, 5), (43, 5), (42, 3), (41, 1), (40, 0)]) (by kernel_rfl) ?_
  refine OpK.nilCheck rfl ?_
  refine OpK.fieldAddr (off := 3) (by kernel_rfl) rfl ?_
  refine OpK.load (by kernel_rfl) rfl (hb3.cell 3) ?_
  show CWL _ _ _ _ _ _
  refine CWL.reg (ops := [(.call ⟨.value (.func 20), #[.tmp 2, .tmp 16], #[29, 30]⟩, 29)]) (b := [(1, 1), (46, 1), (45, 16), (44, 2)]) (by kernel_rfl) ?_
  refine OpK.asCall rfl Snd.call20 rfl ((Snd.c20 w3 f3 d3 _ hg3.own (by first | omega | (simp only [List.length_append, be_length]; omega))).mono ?_)
  rintro en w4 ⟨d4, he4, hn4⟩
  refine ⟨_, he4, ?_⟩
  have hg4 := hg3.trans hn4
  show CWL _ _ _ _ _ _
  have hb4 := hb.chS hg4.ch hne
  refine CWL.reg (ops := [(.nilCheck (.tmp 0), 0), (.fieldAddr 45 (.tmp 1) 4, 0), (.load 21 (.tmp 3), 21)]) (b := [(9, 5), (50, 5), (49, 3), (48, 1), (47, 0)]) (by kernel_rfl) ?_
  refine OpK.nilCheck rfl ?_
  refine OpK.fieldAddr (off := 4) (by kernel_rfl) rfl ?_
  refine OpK.load (by kernel_rfl) rfl (hb4.cell 4) ?_
  show CWL _ _ _ _ _ _
  refine CWL.reg (ops := [(.call ⟨.value (.func 19), #[.tmp 2, .tmp 18], #[29, 21]⟩, 29)]) (b := [(1, 1), (53, 1), (52, 18), (51, 2)]) (by kernel_rfl) ?_
  refine OpK.asCall rfl Snd.call19 rfl ((Snd.c19 w4 f4 d4 _ hg4.own (by first | omega | (simp only [List.length_append, be_length]; omega))).mono ?_)
  rintro en w5 ⟨d5, he5, hn5⟩
  refine ⟨_, he5, ?_⟩
  have hg5 := hg4.trans hn5
  show CWL _ _ _ _ _ _
  have hb5 := hb.chS hg5.ch hne
  refine CWL.reg (ops := [(.nilCheck (.tmp 0), 0), (.fieldAddr 45 (.tmp 1) 5, 0), (.load 31 (.tmp 3), 31)]) (b := [(10, 5), (57, 5), (56, 3), (55, 1), (54, 0)]) (by kernel_rfl) ?_
  refine OpK.nilCheck rfl ?_
  refine OpK.fieldAddr (off := 5) (by kernel_rfl) rfl ?_
  refine OpK.load (by kernel_rfl) rfl (hb5.cell 5) ?_
  show CWL _ _ _ _ _ _
  refine CWL.reg (ops := [(.call ⟨.value (.func 21), #[.tmp 2, .tmp 20], #[29, 31]⟩, 29)]) (b := [(1, 1), (60, 1), (59, 20), (58, 2)]) (by kernel_rfl) ?_
  refine OpK.asCall rfl Snd.call21 rfl ((Snd.c21 w5 f5 d5 _ hg5.own (by first | omega | (simp only [List.length_append, be_length]; omega))).mono ?_)
  rintro en w6 ⟨d6, he6, hn6⟩
  refine ⟨_, he6, ?_⟩
  have hg6 := hg5.trans hn6
  show CWL _ _ _ _ _ _
  have hb6 := hb.chS hg6.ch hne
  refine CWL.reg (ops := [(.nilCheck (.tmp 0), 0), (.fieldAddr 45 (.tmp 1) 6, 0), (.load 21 (.tmp 3), 21)]) (b := [(11, 5), (64, 5), (63, 3), (62, 1), (61, 0)]) (by kernel_rfl) ?_
  refine OpK.nilCheck rfl ?_
  refine OpK.fieldAddr (off := 6) (by kernel_rfl) rfl ?_
  refine OpK.load (by kernel_rfl) rfl (hb6.cell 6) ?_
  show CWL _ _ _ _ _ _
  refine CWL.reg (ops := [(.call ⟨.value (.func 19), #[.tmp 2, .tmp 22], #[29, 21]⟩, 29)]) (b := [(1, 1), (67, 1), (66, 22), (65, 2)]) (by kernel_rfl) ?_
  refine OpK.asCall rfl Snd.call19 rfl ((Snd.c19 w6 f6 d6 _ hg6.own (by first | omega | (simp only [List.length_append, be_length]; omega))).mono ?_)
  rintro en w7 ⟨d7, he7, hn7⟩
  refine ⟨_, he7, ?_⟩
  have hg7 := hg6.trans hn7
  show CWL _ _ _ _ _ _
  have hb7 := hb.chS hg7.ch hne
  refine CWL.reg (ops := [(.nilCheck (.tmp 0), 0), (.fieldAddr 45 (.tmp 1) 7, 0), (.load 2 (.tmp 3), 2)]) (b := [(12, 5), (71, 5), (70, 3), (69, 1), (68, 0)]) (by kernel_rfl) ?_
  refine OpK.nilCheck rfl ?_
  refine OpK.fieldAddr (off := 7) (by kernel_rfl) rfl ?_
  refine OpK.load (by kernel_rfl) rfl (hb7.cell 7) ?_
  show CWL _ _ _ _ _ _
  refine CWL.reg (ops := [(.call ⟨.value (.func 18), #[.tmp 2, .tmp 24], #[29, 2]⟩, 29)]) (b := [(1, 1), (74, 1), (73, 24), (72, 2)]) (by kernel_rfl) ?_
  refine OpK.asCall rfl Snd.call18 rfl ((Snd.c18 w7 f7 d7 _ hg7.own (by first | omega | (simp only [List.length_append, be_length]; omega))).mono ?_)
  rintro en w8 ⟨d8, he8, hn8⟩
  refine ⟨_, he8, ?_⟩
  have hg8 := hg7.trans hn8
  show CWL _ _ _ _ _ _
  have hb8 := hb.chS hg8.ch hne
  refine CWL.reg (ops := [(.nilCheck (.tmp 0), 0), (.fieldAddr 45 (.tmp 1) 8, 0), (.load 2 (.tmp 3), 2)]) (b := [(13, 5), (78, 5), (77, 3), (76, 1), (75, 0)]) (by kernel_rfl) ?_
  refine OpK.nilCheck rfl ?_
  refine OpK.fieldAddr (off := 8) (by kernel_rfl) rfl ?_
  refine OpK.load (by kernel_rfl) rfl (hb8.cell 8) ?_
  show CWL _ _ _ _ _ _
  refine CWL.reg (ops := [(.call ⟨.value (.func 18), #[.tmp 2, .tmp 26], #[29, 2]⟩, 29)]) (b := [(1, 1), (81, 1), (80, 26), (79, 2)]) (by kernel_rfl) ?_
  refine OpK.asCall rfl Snd.call18 rfl ((Snd.c18 w8 f8 d8 _ hg8.own (by first | omega | (simp only [List.length_append, be_length]; omega))).mono ?_)
  rintro en w9 ⟨d9, he9, hn9⟩
  refine ⟨_, he9, ?_⟩
  have hg9 := hg8.trans hn9
  show CWL _ _ _ _ _ _
  have hb9 := hb.chS hg9.ch hne
  refine CWL.reg (ops := [(.nilCheck (.tmp 0), 0), (.fieldAddr 45 (.tmp 1) 9, 0), (.load 2 (.tmp 3), 2)]) (b := [(14, 5), (85, 5), (84, 3), (83, 1), (82, 0)]) (by kernel_rfl) ?_
  refine OpK.nilCheck rfl ?_
  refine OpK.fieldAddr (off := 9) (by kernel_rfl) rfl ?_
  refine OpK.load (by kernel_rfl) rfl (hb9.cell 9) ?_
  show CWL _ _ _ _ _ _
  refine CWL.reg (ops := [(.call ⟨.value (.func 18), #[.tmp 2, .tmp 28], #[29, 2]⟩, 29)]) (b := [(1, 1), (88, 1), (87, 28), (86, 2)]) (by kernel_rfl) ?_
  refine OpK.asCall rfl Snd.call18 rfl ((Snd.c18 w9 f9 d9 _ hg9.own (by first | omega | (simp only [List.length_append, be_length]; omega))).mono ?_)
  rintro en w10 ⟨d10, he10, hn10⟩
  refine ⟨_, he10, ?_⟩
  have hg10 := hg9.trans hn10
  show CWL _ _ _ _ _ _
  have hb10 := hb.chS hg10.ch hne
  refine CWL.reg (ops := [(.nilCheck (.tmp 0), 0), (.fieldAddr 45 (.tmp 1) 10, 0), (.load 31 (.tmp 3), 31)]) (b := [(15, 5), (92, 5), (91, 3), (90, 1), (89, 0)]) (by kernel_rfl) ?_
  refine OpK.nilCheck rfl ?_
  refine OpK.fieldAddr (off := 10) (by kernel_rfl) rfl ?_
  refine OpK.load (by kernel_rfl) rfl (hb10.cell 10) ?_
  show CWL _ _ _ _ _ _
  refine CWL.reg (ops := [(.call ⟨.value (.func 21), #[.tmp 2, .tmp 30], #[29, 31]⟩, 29)]) (b := [(1, 1), (95, 1), (94, 30), (93, 2)]) (by kernel_rfl) ?_
  refine OpK.asCall rfl Snd.call21 rfl ((Snd.c21 w10 f10 d10 _ hg10.own (by first | omega | (simp only [List.length_append, be_length]; omega))).mono ?_)
  rintro en w11 ⟨d11, he11, hn11⟩
  refine ⟨_, he11, ?_⟩
  have hg11 := hg10.trans hn11
  show CWL _ _ _ _ _ _
  have hb11 := hb.chS hg11.ch hne
  refine CWL.reg (ops := [(.nilCheck (.tmp 0), 0), (.fieldAddr 45 (.tmp 1) 11, 0), (.load 21 (.tmp 3), 21)]) (b := [(16, 5), (99, 5), (98, 3), (97, 1), (96, 0)]) (by kernel_rfl) ?_
  refine OpK.nilCheck rfl ?_
  refine OpK.fieldAddr (off := 11) (by kernel_rfl) rfl ?_
  refine OpK.load (by kernel_rfl) rfl (hb11.cell 11) ?_
  show CWL _ _ _ _ _ _
  refine CWL.reg (ops := [(.call ⟨.value (.func 19), #[.tmp 2, .tmp 32], #[29, 21]⟩, 29)]) (b := [(1, 1), (102, 1), (101, 32), (100, 2)]) (by kernel_rfl) ?_
  refine OpK.asCall rfl Snd.call19 rfl ((Snd.c19 w11 f11 d11 _ hg11.own (by first | omega | (simp only [List.length_append, be_length]; omega))).mono ?_)
  rintro en w12 ⟨d12, he12, hn12⟩
  refine ⟨_, he12, ?_⟩
  have hg12 := hg11.trans hn12
  show CWL _ _ _ _ _ _
  have hb12 := hb.chS hg12.ch hne
  refine CWL.reg (ops := [(.nilCheck (.tmp 0), 0), (.fieldAddr 45 (.tmp 1) 12, 0), (.load 21 (.tmp 3), 21)]) (b := [(17, 5), (106, 5), (105, 3), (104, 1), (103, 0)]) (by kernel_rfl) ?_
  refine OpK.nilCheck rfl ?_
  refine OpK.fieldAddr (off := 12) (by kernel_rfl) rfl ?_
  refine OpK.load (by kernel_rfl) rfl (hb12.cell 12) ?_
  show CWL _ _ _ _ _ _
  refine CWL.reg (ops := [(.call ⟨.value (.func 19), #[.tmp 2, .tmp 34], #[29, 21]⟩, 29)]) (b := [(1, 1), (109, 1), (108, 34), (107, 2)]) (by kernel_rfl) ?_
  refine OpK.asCall rfl Snd.call19 rfl ((Snd.c19 w12 f12 d12 _ hg12.own (by first | omega | (simp only [List.length_append, be_length]; omega))).mono ?_)
  rintro en w13 ⟨d13, he13, hn13⟩
  refine ⟨_, he13, ?_⟩
  have hg13 := hg12.trans hn13
  show CWL _ _ _ _ _ _
  have hb13 := hb.chS hg13.ch hne
  have hr13 := hr.keep (w' := w13) fun k hk => hg13.ch.block k (hr.lt hk) (hrd k hk)
  obtain ⟨ra, rc, rfl, hrn, hro⟩ := hr13.slice
  obtain ⟨d14, w14, hra, hga⟩ := run_append_oct (P := Try.prog) (ty := 29) (t := 29) u8 und hg13.own (a := ra) (l := rec) (c := rc) hrn (fun a' e => (hro a' e).1) (by simp only [List.length_append, be_length]; omega)
  refine CWL.reg (ops := [(.nilCheck (.tmp 0), 0), (.fieldAddr 45 (.tmp 1) 13, 0), (.load 29 (.tmp 3), 29)]) (b := [(18, 5), (113, 5), (112, 3), (111, 1), (110, 0)]) (by kernel_rfl) ?_
  refine OpK.nilCheck rfl ?_
  refine OpK.fieldAddr (off := 13) (by kernel_rfl) rfl ?_
  refine OpK.load (by kernel_rfl) rfl (hb13.cell 13) ?_
  show CWL _ _ _ _ _ _
  refine CWL.reg (ops := [(.call ⟨.builtin .append, #[.tmp 2, .tmp 36], #[29, 29]⟩, 29)]) (b := [(1, 1), (116, 1), (115, 36), (114, 2)]) (by kernel_rfl) ?_
  refine OpK.run rfl hra ?_
  show CWL _ _ _ _ _ _
  refine CWL.reg (ops := []) (b := [(4, 2), (117, 2)]) (by kernel_rfl) ?_
  show CWL _ _ _ _ _ _
  refine CWL.ret ?_
  exact ⟨_, rfl, hg13.trans hga⟩

theorem call15 : Callable Try.prog 15 := ⟨Try.f15, Try.func15, by kernel_rfl, by kernel_rfl⟩
set_option maxHeartbeats 4000000 in
theorem owned (w : World) (B : Nat) (l : List UInt8) (v : Value) (h : SlIs w B l v) (hl : l.length ≤ Lim) : Calls Try.prog 15 #[v] w fun en w' => ∃ d, en = .returned d ∧ New w w' d l := by
  obtain ⟨a, c, rfl, h2, h3, h4, h5⟩ := h
  refine Calls.of_CW Try.func15 rfl (by decide +kernel) (Nat.le_of_ble_eq_true (by kernel_rfl)) (CW.of_flat ?_)
  simp only [flat, List.cons_append, List.nil_append, List.append_nil]
  obtain ⟨d1, w1, hr, hg⟩ := run_append_oct (P := Try.prog) (ty := 29) (t := 29) u8 und (Own.nil 5 w) (a := a) (l := l) (c := c) h4 (fun a' e => (h5 a' e).1) (by simpa using hl)
  refine CWL.reg (ops := [(.assign (.const (Go.Value.slice none 0 0)), 29)]) (b := [(2, 1)]) (by kernel_rfl) ?_
  refine OpK.assign ?_
  show CWL _ _ _ _ _ _
  refine CWL.reg (ops := [(.call ⟨.builtin .append, #[.const (Go.Value.slice none 0 0), .tmp 0], #[29, 29]⟩, 29)]) (b := [(2, 1), (4, 1), (3, 0)]) (by kernel_rfl) ?_
  refine OpK.run rfl hr ?_
  show CWL _ _ _ _ _ _
  refine CWL.ret ?_
  rw [List.nil_append] at hg
  exact ⟨_, rfl, hg⟩

theorem built45 (f0 f1 f2 f3 f4 f5 f6 f7 f8 f9 f10 f11 f12 : Int) (a : Option Addr) (n c : Nat) : Try.prog.built 45 [(0, .int .i64 f0), (1, .int .i32 f1), (2, .int .i32 f2), (3, .int .i8 f3), (4, .int .i32 f4), (5, .int .i16 f5), (6, .int .i32 f6), (7, .int .i64 f7), (8, .int .i64 f8), (9, .int .i64 f9), (10, .int .i16 f10), (11, .int .i32 f11), (12, .int .i32 f12), (13, .slice a n c)] = some #[.int .i64 f0, .int .i32 f1, .int .i32 f2, .int .i8 f3, .int .i32 f4, .int .i16 f5, .int .i32 f6, .int .i64 f7, .int .i64 f8, .int .i64 f9, .int .i16 f10, .int .i32 f11, .int .i32 f12, .slice a n c] := by kernel_rfl
theorem call11 : Callable Try.prog 11 := ⟨Try.f11, Try.func11, by kernel_rfl, by kernel_rfl⟩
set_option maxHeartbeats 8000000 in
theorem make (w : World) (B : Nat) (hB : B ≤ w.heap.size) (f0 f1 f2 f3 f4 f5 f6 f7 f8 f9 f10 f11 f12 : Int) (vr : Value) (rec : List UInt8) (hr : SlIs w B rec vr) (vd : Value) (bs : List UInt8) (hd : SlIs w B bs vd) (hl : bs.length + 61 + rec.length ≤ Lim) :
    Calls Try.prog 11 #[vd, .agg #[.int .i64 f0, .int .i32 f1, .int .i32 f2, .int .i8 f3, .int .i32 f4, .int .i16 f5, .int .i32 f6, .int .i64 f7, .int .i64 f8, .int .i64 f9, .int .i16 f10, .int .i32 f11, .int .i32 f12, vr]] w fun en w' => ∃ d, en = .returned d ∧ New w w' d (bs ++ be 8 f0 ++ be 4 f1 ++ be 4 f2 ++ be 1 f3 ++ be 4 f4 ++ be 2 f5 ++ be 4 f6 ++ be 8 f7 ++ be 8 f8 ++ be 8 f9 ++ be 2 f10 ++ be 4 f11 ++ be 4 f12 ++ rec) := by
  refine Calls.of_CW Try.func11 rfl (by decide +kernel) (Nat.le_of_ble_eq_true (by kernel_rfl)) (CW.of_flat ?_)
  simp only [flat, List.cons_append, List.nil_append, List.append_nil]
  refine CWL.reg (ops := [(.box 33 (.tmp 2), 0), (.assign (.const (Go.Value.slice none 0 0)), 29)]) (b := [(4, 3), (3, 1)]) (by kernel_rfl) ?_
  refine OpK.boxG (cs := [.int .i64 f0, .int .i32 f1, .int .i32 f2, .int .i8 f3, .int .i32 f4, .int .i16 f5, .int .i32 f6, .int .i64 f7, .int .i64 f8, .int .i64 f9, .int .i16 f10, .int .i32 f11, .int .i32 f12, vr]) rfl fun w1 g hb hc1 hg hs1 => ?_
  refine OpK.assign ?_
  show CWL _ _ _ _ _ _
  refine CWL.regT mixed (fun w' => Ch (fun _ => False) w1 w') (.early 0 (.early 1 (.early 2 (.early 3 (.early 4 (.early 5 (.early 6 (.early 7 (.early 8 (.early 9 (.early 10 (.early 11 (.early 12 (.early 13 (.early 14 (.early 15 (.early 16 (.early 17 (.early 18 (.early 19 (.early 20 (.early 21 (.early 22 (.early 23 (.early 24 (.early 25 (.early 26 (.early 27 (.early 31 (.one 28 (.early 29 (.two 30 32 (.one 32 (.one 33 (.early 34 .done))) (.one 30 (.one 33 (.early 34 .done))))))))))))))))))))))))))))))))))) (by decide +kernel) (Ch.drew _ _) ?_
  refine HT.early_ rfl rfl (Yi.fieldAddr (off := 0) (by kernel_rfl) rfl) ?_
  refine HT.early_ rfl rfl (Yi.load (by kernel_rfl) rfl (fun w' hw' => (hb.ch hw').cell 0)) ?_
  refine HT.early_ rfl rfl (Yi.fieldAddr (off := 1) (by kernel_rfl) rfl) ?_
  refine HT.early_ rfl rfl (Yi.load (by kernel_rfl) rfl (fun w' hw' => (hb.ch hw').cell 1)) ?_
  refine HT.early_ rfl rfl (Yi.fieldAddr (off := 2) (by kernel_rfl) rfl) ?_
  refine HT.early_ rfl rfl (Yi.load (by kernel_rfl) rfl (fun w' hw' => (hb.ch hw').cell 2)) ?_
  refine HT.early_ rfl rfl (Yi.fieldAddr (off := 3) (by kernel_rfl) rfl) ?_
  refine HT.early_ rfl rfl (Yi.load (by kernel_rfl) rfl (fun w' hw' => (hb.ch hw').cell 3)) ?_
  refine HT.early_ rfl rfl (Yi.fieldAddr (off := 4) (by kernel_rfl) rfl) ?_
  refine HT.early_ rfl rfl (Yi.load (by kernel_rfl) rfl (fun w' hw' => (hb.ch hw').cell 4)) ?_
  refine HT.early_ rfl rfl (Yi.fieldAddr (off := 5) (by kernel_rfl) rfl) ?_
  refine HT.early_ rfl rfl (Yi.load (by kernel_rfl) rfl (fun w' hw' => (hb.ch hw').cell 5)) ?_
  refine HT.early_ rfl rfl (Yi.fieldAddr (off := 6) (by kernel_rfl) rfl) ?_
  refine HT.early_ rfl rfl (Yi.load (by kernel_rfl) rfl (fun w' hw' => (hb.ch hw').cell 6)) ?_
  refine HT.early_ rfl rfl (Yi.fieldAddr (off := 7) (by kernel_rfl) rfl) ?_
  refine HT.early_ rfl rfl (Yi.load (by kernel_rfl) rfl (fun w' hw' => (hb.ch hw').cell 7)) ?_
  refine HT.early_ rfl rfl (Yi.fieldAddr (off := 8) (by kernel_rfl) rfl) ?_
  refine HT.early_ rfl rfl (Yi.load (by kernel_rfl) rfl (fun w' hw' => (hb.ch hw').cell 8)) ?_
  refine HT.early_ rfl rfl (Yi.fieldAddr (off := 9) (by kernel_rfl) rfl) ?_
  refine HT.early_ rfl rfl (Yi.load (by kernel_rfl) rfl (fun w' hw' => (hb.ch hw').cell 9)) ?_
  refine HT.early_ rfl rfl (Yi.fieldAddr (off := 10) (by kernel_rfl) rfl) ?_
  refine HT.early_ rfl rfl (Yi.load (by kernel_rfl) rfl (fun w' hw' => (hb.ch hw').cell 10)) ?_
  refine HT.early_ rfl rfl (Yi.fieldAddr (off := 11) (by kernel_rfl) rfl) ?_
  refine HT.early_ rfl rfl (Yi.load (by kernel_rfl) rfl (fun w' hw' => (hb.ch hw').cell 11)) ?_
  refine HT.early_ rfl rfl (Yi.fieldAddr (off := 12) (by kernel_rfl) rfl) ?_
  refine HT.early_ rfl rfl (Yi.load (by kernel_rfl) rfl (fun w' hw' => (hb.ch hw').cell 12)) ?_
  refine HT.early_ rfl rfl (Yi.fieldAddr (off := 13) (by kernel_rfl) rfl) ?_
  refine HT.early_ rfl rfl (Yi.load (by kernel_rfl) rfl (fun w' hw' => (hb.ch hw').cell 13)) ?_
  refine HT.early_ rfl rfl (Yi.move) ?_
  refine oneK.mk rfl rfl ?_
  refine OpK.asCall rfl call15 rfl ((owned w1.drew B rec vr (hr.keep (w' := w1.drew) fun k hk => hc1.block k (by omega) fun h => h) (by omega)).mono ?_)
  rintro en w2 ⟨d2, he2, hg2⟩
  have hc12 : Ch (fun _ => False) w1 w2 := (Ch.drew _ _).trans' hg2.new_ch
  refine ⟨_, he2, hc12, ?_⟩
  obtain ⟨r2a, r2c, rfl, _⟩ := hg2.own.slice
  refine HT.early_ rfl rfl (Yi.build (cells := #[.int .i64 f0, .int .i32 f1, .int .i32 f2, .int .i8 f3, .int .i32 f4, .int .i16 f5, .int .i32 f6, .int .i64 f7, .int .i64 f8, .int .i64 f9, .int .i16 f10, .int .i32 f11, .int .i32 f12, .slice r2a rec.length r2c]) (built45 f0 f1 f2 f3 f4 f5 f6 f7 f8 f9 f10 f11 f12 r2a rec.length r2c)) ?_
  refine ⟨oneK.mk rfl rfl ?_, oneK.mk rfl rfl ?_⟩
  · skip
    refine OpK.boxG (cs := [.int .i64 f0, .int .i32 f1, .int .i32 f2, .int .i8 f3, .int .i32 f4, .int .i16 f5, .int .i32 f6, .int .i64 f7, .int .i64 f8, .int .i64 f9, .int .i16 f10, .int .i32 f11, .int .i32 f12, .slice r2a rec.length r2c]) rfl fun w3 gB hbB hc3 hgB hs3 => ?_
    have hc13 : Ch (fun _ => False) w1 w3 := hc12.trans' hc3
    refine ⟨hc13, ?_⟩
    refine oneK.mk rfl rfl ?_
    refine OpK.asCall rfl call15 rfl ((owned w3 B bs vd (hd.keep fun k hk => (hc13.block k (by omega) fun h => h).trans (hc1.block k (by omega) fun h => h)) (by omega)).mono ?_)
    rintro en w4 ⟨d4, he4, hg4⟩
    have hc14 : Ch (fun _ => False) w1 w4 := hc13.trans' hg4.new_ch
    refine ⟨_, he4, hc14, ?_⟩
    have hbB4 := hbB.ch hg4.new_ch
    have hr4 : Own 5 w4 (.slice r2a rec.length r2c) rec := (hg2.own.keep fun k hk => hc3.block k (hg2.own.lt hk) fun h => h).keep fun k hk => hg4.new_ch.block k (Nat.lt_of_lt_of_le (hg2.own.lt hk) hc3.size) fun h => h
    refine oneK.mk rfl rfl ?_
    refine OpK.asCall rfl call16 rfl ((appendTo w4 gB f0 f1 f2 f3 f4 f5 f6 f7 f8 f9 f10 f11 f12 _ rec hbB4 d4 bs hg4.own (fun e => by have := hg4.new_lo e; have := hbB.lt; omega) hr4 (fun k h1 h2 => by have := hg4.new_lo h2; have := hg2.own.lt h1; have := hc3.size; omega) hl).mono ?_)
    rintro en w5 ⟨d5, he5, hg5⟩
    have hg35 := (hg4.more hg5).pre hc13
    refine ⟨_, he5, hg35.new_ch, ?_⟩
    refine HT.early_ rfl rfl (Yi.assign) ?_
    show CWL _ _ _ _ _ _
    refine CWL.ret ?_
    exact ⟨_, rfl, hg35.pre hc1⟩
  · skip
    refine OpK.asCall rfl call15 rfl ((owned w2 B bs vd (hd.keep fun k hk => (hc12.block k (by omega) fun h => h).trans (hc1.block k (by omega) fun h => h)) (by omega)).mono ?_)
    rintro en w3 ⟨d4, he3, hg3⟩
    have hc13 : Ch (fun _ => False) w1 w3 := hc12.trans' hg3.new_ch
    refine ⟨_, he3, hc13, ?_⟩
    refine oneK.mk rfl rfl ?_
    refine OpK.boxG (cs := [.int .i64 f0, .int .i32 f1, .int .i32 f2, .int .i8 f3, .int .i32 f4, .int .i16 f5, .int .i32 f6, .int .i64 f7, .int .i64 f8, .int .i64 f9, .int .i16 f10, .int .i32 f11, .int .i32 f12, .slice r2a rec.length r2c]) rfl fun w4 gB hbB hc3 hgB hs3 => ?_
    have hc14 : Ch (fun _ => False) w1 w4 := hc13.trans' hc3
    refine ⟨hc14, ?_⟩
    have hr4 : Own 5 w4 (.slice r2a rec.length r2c) rec := (hg2.own.keep fun k hk => hg3.new_ch.block k (hg2.own.lt hk) fun h => h).keep fun k hk => hc3.block k (Nat.lt_of_lt_of_le (hg2.own.lt hk) hg3.new_ch.size) fun h => h
    have hg4 := hg3.later hc3
    refine oneK.mk rfl rfl ?_
    refine OpK.asCall rfl call16 rfl ((appendTo w4 gB f0 f1 f2 f3 f4 f5 f6 f7 f8 f9 f10 f11 f12 _ rec hbB d4 bs hg4.own (fun e => by have := hg3.own.lt e; omega) hr4 (fun k h1 h2 => by have := hg3.new_lo h2; have := hg2.own.lt h1; omega) hl).mono ?_)
    rintro en w5 ⟨d5, he5, hg5⟩
    have hg35 := (hg4.more hg5).pre hc12
    refine ⟨_, he5, hg35.new_ch, ?_⟩
    refine HT.early_ rfl rfl (Yi.assign) ?_
    show CWL _ _ _ _ _ _
    refine CWL.ret ?_
    exact ⟨_, rfl, hg35.pre hc1⟩

theorem call12 : Callable Try.prog 12 := ⟨Try.f12, Try.func12, by kernel_rfl, by kernel_rfl⟩
set_option maxHeartbeats 8000000 in
theorem bytes (w : World) (B : Nat) (hB : B ≤ w.heap.size) (f0 f1 f2 f3 f4 f5 f6 f7 f8 f9 f10 f11 f12 : Int) (vr : Value) (rec : List UInt8) (hr : SlIs w B rec vr) (hl : 61 + rec.length ≤ Lim) :
    Calls Try.prog 12 #[.agg #[.int .i64 f0, .int .i32 f1, .int .i32 f2, .int .i8 f3, .int .i32 f4, .int .i16 f5, .int .i32 f6, .int .i64 f7, .int .i64 f8, .int .i64 f9, .int .i16 f10, .int .i32 f11, .int .i32 f12, vr]] w fun en w' => ∃ d, en = .returned d ∧ New w w' d (be 8 f0 ++ be 4 f1 ++ be 4 f2 ++ be 1 f3 ++ be 4 f4 ++ be 2 f5 ++ be 4 f6 ++ be 8 f7 ++ be 8 f8 ++ be 8 f9 ++ be 2 f10 ++ be 4 f11 ++ be 4 f12 ++ rec) := by
  refine Calls.of_CW Try.func12 rfl (by decide +kernel) (Nat.le_of_ble_eq_true (by kernel_rfl)) (CW.of_flat ?_)
  simp only [flat, List.cons_append, List.nil_append, List.append_nil]
  refine CWL.reg (ops := [(.box 33 (.tmp 0), 0), (.assign (.const (Go.Value.slice none 0 0)), 29)]) (b := [(2, 3), (1, 1)]) (by kernel_rfl) ?_
  refine OpK.boxG (cs := [.int .i64 f0, .int .i32 f1, .int .i32 f2, .int .i8 f3, .int .i32 f4, .int .i16 f5, .int .i32 f6, .int .i64 f7, .int .i64 f8, .int .i64 f9, .int .i16 f10, .int .i32 f11, .int .i32 f12, vr]) rfl fun w0 g hb hc0 hg hs0 => ?_
  refine OpK.assign ?_
  show CWL _ _ _ _ _ _
  refine CWL.regD0 mixed [(0, true), (1, true), (3, true), (4, true), (5, true), (2, false), (6, false), (7, false), (8, true)] (by decide +kernel) ?_
  refine HW.early rfl rfl (Yi.fieldAddr (off := 0) (by kernel_rfl) rfl) ?_
  refine HW.early rfl rfl (Yi.load (by kernel_rfl) rfl (fun w' hw' => (hb.ch hw').cell 0)) ?_
  refine HW.early rfl rfl (Yi.fieldAddr (off := 1) (by kernel_rfl) rfl) ?_
  refine HW.early rfl rfl (Yi.load (by kernel_rfl) rfl (fun w' hw' => (hb.ch hw').cell 1)) ?_
  refine HW.early rfl rfl (Yi.convInt (k' := .i64) (by kernel_rfl) (by kernel_rfl) rfl) ?_
  refine HW.next rfl rfl ?_
  refine OpK.asCall rfl call17 rfl ((fixed _ f0 8 (by omega)).mono ?_)
  rintro en w1 ⟨d1, he1, hg1⟩
  have hc1 : Ch (fun _ => False) w0 w1 := (Ch.drew _ _).trans' hg1.new_ch
  refine ⟨_, he1, hc1, ?_⟩
  refine HW.next rfl rfl ?_
  refine OpK.asCall rfl call17 rfl ((fixed w1 (IntKind.i64.wrap f1) 4 (by omega)).mono ?_)
  rintro en w2 ⟨d2, he2, hg2⟩
  rw [be_w64 4 (by omega)] at hg2
  have hc2 : Ch (fun _ => False) w0 w2 := hc1.trans' hg2.new_ch
  refine ⟨_, he2, hc2, ?_⟩
  obtain ⟨a2, c2, rfl, hn2, ho2⟩ := hg2.own.slice
  have hg12 := hg1.later hg2.new_ch
  obtain ⟨d3, w3, hr3, hg3⟩ := run_append_oct (P := Try.prog) (ty := 29) (t := 29) u8 und hg12.own (a := a2) (l := be 4 f1) (c := c2) hn2 (fun a' e => (ho2 a' e).1) (by simp only [be_length, Lim]; omega)
  have hk1 : New w0 w3 d3 (be 8 f0 ++ be 4 f1) := (hg12.more hg3).pre (Ch.drew _ _)
  refine HW.next rfl rfl ?_
  refine OpK.run rfl hr3 ?_
  refine ⟨hk1.new_ch, ?_⟩
  refine HW.early rfl rfl (Yi.assign) ?_
  refine HW.done ?_
  show CWL _ _ _ _ _ _
  have hb2 := hb.ch hk1.new_ch
  refine CWL.reg (ops := [(.fieldAddr 33 (.tmp 2) 2, 0), (.load 21 (.tmp 1), 21), (.convert 21 2 (.tmp 3), 2), (.call ⟨.value (.func 17), #[.tmp 5, .const (Go.Value.int Go.IntKind.i64 4)], #[2, 3]⟩, 29), (.call ⟨.builtin .append, #[.tmp 6, .tmp 7], #[29, 29]⟩, 29)]) (b := [(3, 9), (17, 9), (16, 7), (15, 5), (14, 3), (13, 1), (12, 6)]) (by kernel_rfl) ?_
  refine OpK.fieldAddr (off := 2) (by kernel_rfl) rfl ?_
  refine OpK.load (by kernel_rfl) rfl (hb2.cell 2) ?_
  refine OpK.convInt (k' := .i64) (by kernel_rfl) (by kernel_rfl) rfl ?_
  refine OpK.asCall rfl call17 rfl ((fixed w3 (IntKind.i64.wrap f2) 4 (by omega)).mono ?_)
  rintro en x2 ⟨q2, he2, hg2⟩
  rw [be_w64 4 (by omega)] at hg2
  refine ⟨_, he2, ?_⟩
  obtain ⟨a2, c2, rfl, hn2, ho2⟩ := hg2.own.slice
  have hl2 := hk1.later hg2.new_ch
  obtain ⟨e2, y2, hr2, hgr2⟩ := run_append_oct (P := Try.prog) (ty := 29) (t := 29) u8 und hl2.own (a := a2) (l := be 4 f2) (c := c2) hn2 (fun a' e => (ho2 a' e).1) (by simp only [List.length_append, be_length, Lim]; omega)
  have hk2 := hl2.more hgr2
  refine OpK.run rfl hr2 ?_
  show CWL _ _ _ _ _ _
  have hb3 := hb.ch hk2.new_ch
  obtain ⟨e3, y3, hra3, hga3⟩ := append_lit (ty := 29) und u8 hk2.own (be 1 f3) (by simp only [List.length_append, be_length, Lim]; omega)
  have hbv3 : (Value.int .u8 (IntKind.u8.wrap f3) : Value) = bv (byteAt f3 0) := oct_low f3
  have hk3 := hk2.more hga3
  simp only [be, List.map_cons, List.map_nil, List.length_cons, List.length_nil, ← hbv3] at hra3
  refine CWL.reg (ops := [(.fieldAddr 33 (.tmp 2) 3, 0), (.load 30 (.tmp 1), 30), (.convert 30 5 (.tmp 3), 5), (.buildSlice 29 1 #[(0, .tmp 5)], 29), (.call ⟨.builtin .append, #[.tmp 6, .tmp 7], #[29, 29]⟩, 29)]) (b := [(3, 9), (23, 9), (22, 7), (21, 5), (20, 3), (19, 1), (18, 6)]) (by kernel_rfl) ?_
  refine OpK.fieldAddr (off := 3) (by kernel_rfl) rfl ?_
  refine OpK.load (by kernel_rfl) rfl (hb3.cell 3) ?_
  refine OpK.convInt (k' := .u8) (by kernel_rfl) (by kernel_rfl) rfl ?_
  refine OpK.buildS (by simp only [List.map_toArray, List.map_cons, List.map_nil]; exact run_bs1 und u8 _) ?_
  refine OpK.run rfl hra3 ?_
  show CWL _ _ _ _ _ _
  have hb4 := hb.ch hk3.new_ch
  refine CWL.reg (ops := [(.fieldAddr 33 (.tmp 2) 4, 0), (.load 21 (.tmp 1), 21), (.convert 21 2 (.tmp 3), 2), (.call ⟨.value (.func 17), #[.tmp 5, .const (Go.Value.int Go.IntKind.i64 4)], #[2, 3]⟩, 29), (.call ⟨.builtin .append, #[.tmp 6, .tmp 7], #[29, 29]⟩, 29)]) (b := [(3, 9), (29, 9), (28, 7), (27, 5), (26, 3), (25, 1), (24, 6)]) (by kernel_rfl) ?_
  refine OpK.fieldAddr (off := 4) (by kernel_rfl) rfl ?_
  refine OpK.load (by kernel_rfl) rfl (hb4.cell 4) ?_
  refine OpK.convInt (k' := .i64) (by kernel_rfl) (by kernel_rfl) rfl ?_
  refine OpK.asCall rfl call17 rfl ((fixed y3 (IntKind.i64.wrap f4) 4 (by omega)).mono ?_)
  rintro en x4 ⟨q4, he4, hg4⟩
  rw [be_w64 4 (by omega)] at hg4
  refine ⟨_, he4, ?_⟩
  obtain ⟨a4, c4, rfl, hn4, ho4⟩ := hg4.own.slice
  have hl4 := hk3.later hg4.new_ch
  obtain ⟨e4, y4, hr4, hgr4⟩ := run_append_oct (P := Try.prog) (ty := 29) (t := 29) u8 und hl4.own (a := a4) (l := be 4 f4) (c := c4) hn4 (fun a' e => (ho4 a' e).1) (by simp only [List.length_append, be_length, Lim]; omega)
  have hk4 := hl4.more hgr4
  refine OpK.run rfl hr4 ?_
  show CWL _ _ _ _ _ _
  have hb5 := hb.ch hk4.new_ch
  refine CWL.reg (ops := [(.fieldAddr 33 (.tmp 2) 5, 0), (.load 31 (.tmp 1), 31), (.convert 31 2 (.tmp 3), 2), (.call ⟨.value (.func 17), #[.tmp 5, .const (Go.Value.int Go.IntKind.i64 2)], #[2, 3]⟩, 29), (.call ⟨.builtin .append, #[.tmp 6, .tmp 7], #[29, 29]⟩, 29)]) (b := [(3, 9), (35, 9), (34, 7), (33, 5), (32, 3), (31, 1), (30, 6)]) (by kernel_rfl) ?_
  refine OpK.fieldAddr (off := 5) (by kernel_rfl) rfl ?_
  refine OpK.load (by kernel_rfl) rfl (hb5.cell 5) ?_
  refine OpK.convInt (k' := .i64) (by kernel_rfl) (by kernel_rfl) rfl ?_
  refine OpK.asCall rfl call17 rfl ((fixed y4 (IntKind.i64.wrap f5) 2 (by omega)).mono ?_)
  rintro en x5 ⟨q5, he5, hg5⟩
  rw [be_w64 2 (by omega)] at hg5
  refine ⟨_, he5, ?_⟩
  obtain ⟨a5, c5, rfl, hn5, ho5⟩ := hg5.own.slice
  have hl5 := hk4.later hg5.new_ch
  obtain ⟨e5, y5, hr5, hgr5⟩ := run_append_oct (P := Try.prog) (ty := 29) (t := 29) u8 und hl5.own (a := a5) (l := be 2 f5) (c := c5) hn5 (fun a' e => (ho5 a' e).1) (by simp only [List.length_append, be_length, Lim]; omega)
  have hk5 := hl5.more hgr5
  refine OpK.run rfl hr5 ?_
  show CWL _ _ _ _ _ _
  have hb6 := hb.ch hk5.new_ch
  refine CWL.reg (ops := [(.fieldAddr 33 (.tmp 2) 6, 0), (.load 21 (.tmp 1), 21), (.convert 21 2 (.tmp 3), 2), (.call ⟨.value (.func 17), #[.tmp 5, .const (Go.Value.int Go.IntKind.i64 4)], #[2, 3]⟩, 29), (.call ⟨.builtin .append, #[.tmp 6, .tmp 7], #[29, 29]⟩, 29)]) (b := [(3, 9), (41, 9), (40, 7), (39, 5), (38, 3), (37, 1), (36, 6)]) (by kernel_rfl) ?_
  refine OpK.fieldAddr (off := 6) (by kernel_rfl) rfl ?_
  refine OpK.load (by kernel_rfl) rfl (hb6.cell 6) ?_
  refine OpK.convInt (k' := .i64) (by kernel_rfl) (by kernel_rfl) rfl ?_
  refine OpK.asCall rfl call17 rfl ((fixed y5 (IntKind.i64.wrap f6) 4 (by omega)).mono ?_)
  rintro en x6 ⟨q6, he6, hg6⟩
  rw [be_w64 4 (by omega)] at hg6
  refine ⟨_, he6, ?_⟩
  obtain ⟨a6, c6, rfl, hn6, ho6⟩ := hg6.own.slice
  have hl6 := hk5.later hg6.new_ch
  obtain ⟨e6, y6, hr6, hgr6⟩ := run_append_oct (P := Try.prog) (ty := 29) (t := 29) u8 und hl6.own (a := a6) (l := be 4 f6) (c := c6) hn6 (fun a' e => (ho6 a' e).1) (by simp only [List.length_append, be_length, Lim]; omega)
  have hk6 := hl6.more hgr6
  refine OpK.run rfl hr6 ?_
  show CWL _ _ _ _ _ _
  have hb7 := hb.ch hk6.new_ch
  refine CWL.reg (ops := [(.fieldAddr 33 (.tmp 2) 7, 0), (.load 2 (.tmp 1), 2), (.call ⟨.value (.func 17), #[.tmp 3, .const (Go.Value.int Go.IntKind.i64 8)], #[2, 3]⟩, 29), (.call ⟨.builtin .append, #[.tmp 6, .tmp 5], #[29, 29]⟩, 29)]) (b := [(3, 7), (46, 7), (45, 5), (44, 3), (43, 1), (42, 6)]) (by kernel_rfl) ?_
  refine OpK.fieldAddr (off := 7) (by kernel_rfl) rfl ?_
  refine OpK.load (by kernel_rfl) rfl (hb7.cell 7) ?_
  refine OpK.asCall rfl call17 rfl ((fixed y6 f7 8 (by omega)).mono ?_)
  rintro en x7 ⟨q7, he7, hg7⟩
  refine ⟨_, he7, ?_⟩
  obtain ⟨a7, c7, rfl, hn7, ho7⟩ := hg7.own.slice
  have hl7 := hk6.later hg7.new_ch
  obtain ⟨e7, y7, hr7, hgr7⟩ := run_append_oct (P := Try.prog) (ty := 29) (t := 29) u8 und hl7.own (a := a7) (l := be 8 f7) (c := c7) hn7 (fun a' e => (ho7 a' e).1) (by simp only [List.length_append, be_length, Lim]; omega)
  have hk7 := hl7.more hgr7
  refine OpK.run rfl hr7 ?_
  show CWL _ _ _ _ _ _
  have hb8 := hb.ch hk7.new_ch
  refine CWL.reg (ops := [(.fieldAddr 33 (.tmp 2) 8, 0), (.load 2 (.tmp 1), 2), (.call ⟨.value (.func 17), #[.tmp 3, .const (Go.Value.int Go.IntKind.i64 8)], #[2, 3]⟩, 29), (.call ⟨.builtin .append, #[.tmp 6, .tmp 5], #[29, 29]⟩, 29)]) (b := [(3, 7), (51, 7), (50, 5), (49, 3), (48, 1), (47, 6)]) (by kernel_rfl) ?_
  refine OpK.fieldAddr (off := 8) (by kernel_rfl) rfl ?_
  refine OpK.load (by kernel_rfl) rfl (hb8.cell 8) ?_
  refine OpK.asCall rfl call17 rfl ((fixed y7 f8 8 (by omega)).mono ?_)
  rintro en x8 ⟨q8, he8, hg8⟩
  refine ⟨_, he8, ?_⟩
  obtain ⟨a8, c8, rfl, hn8, ho8⟩ := hg8.own.slice
  have hl8 := hk7.later hg8.new_ch
  obtain ⟨e8, y8, hr8, hgr8⟩ := run_append_oct (P := Try.prog) (ty := 29) (t := 29) u8 und hl8.own (a := a8) (l := be 8 f8) (c := c8) hn8 (fun a' e => (ho8 a' e).1) (by simp only [List.length_append, be_length, Lim]; omega)
  have hk8 := hl8.more hgr8
  refine OpK.run rfl hr8 ?_
  show CWL _ _ _ _ _ _
  have hb9 := hb.ch hk8.new_ch
  refine CWL.reg (ops := [(.fieldAddr 33 (.tmp 2) 9, 0), (.load 2 (.tmp 1), 2), (.call ⟨.value (.func 17), #[.tmp 3, .const (Go.Value.int Go.IntKind.i64 8)], #[2, 3]⟩, 29), (.call ⟨.builtin .append, #[.tmp 6, .tmp 5], #[29, 29]⟩, 29)]) (b := [(3, 7), (56, 7), (55, 5), (54, 3), (53, 1), (52, 6)]) (by kernel_rfl) ?_
  refine OpK.fieldAddr (off := 9) (by kernel_rfl) rfl ?_
  refine OpK.load (by kernel_rfl) rfl (hb9.cell 9) ?_
  refine OpK.asCall rfl call17 rfl ((fixed y8 f9 8 (by omega)).mono ?_)
  rintro en x9 ⟨q9, he9, hg9⟩
  refine ⟨_, he9, ?_⟩
  obtain ⟨a9, c9, rfl, hn9, ho9⟩ := hg9.own.slice
  have hl9 := hk8.later hg9.new_ch
  obtain ⟨e9, y9, hr9, hgr9⟩ := run_append_oct (P := Try.prog) (ty := 29) (t := 29) u8 und hl9.own (a := a9) (l := be 8 f9) (c := c9) hn9 (fun a' e => (ho9 a' e).1) (by simp only [List.length_append, be_length, Lim]; omega)
  have hk9 := hl9.more hgr9
  refine OpK.run rfl hr9 ?_
  show CWL _ _ _ _ _ _
  have hb10 := hb.ch hk9.new_ch
  refine CWL.reg (ops := [(.fieldAddr 33 (.tmp 2) 10, 0), (.load 31 (.tmp 1), 31), (.convert 31 2 (.tmp 3), 2), (.call ⟨.value (.func 17), #[.tmp 5, .const (Go.Value.int Go.IntKind.i64 2)], #[2, 3]⟩, 29), (.call ⟨.builtin .append, #[.tmp 6, .tmp 7], #[29, 29]⟩, 29)]) (b := [(3, 9), (62, 9), (61, 7), (60, 5), (59, 3), (58, 1), (57, 6)]) (by kernel_rfl) ?_
  refine OpK.fieldAddr (off := 10) (by kernel_rfl) rfl ?_
  refine OpK.load (by kernel_rfl) rfl (hb10.cell 10) ?_
  refine OpK.convInt (k' := .i64) (by kernel_rfl) (by kernel_rfl) rfl ?_
  refine OpK.asCall rfl call17 rfl ((fixed y9 (IntKind.i64.wrap f10) 2 (by omega)).mono ?_)
  rintro en x10 ⟨q10, he10, hg10⟩
  rw [be_w64 2 (by omega)] at hg10
  refine ⟨_, he10, ?_⟩
  obtain ⟨a10, c10, rfl, hn10, ho10⟩ := hg10.own.slice
  have hl10 := hk9.later hg10.new_ch
  obtain ⟨e10, y10, hr10, hgr10⟩ := run_append_oct (P := Try.prog) (ty := 29) (t := 29) u8 und hl10.own (a := a10) (l := be 2 f10) (c := c10) hn10 (fun a' e => (ho10 a' e).1) (by simp only [List.length_append, be_length, Lim]; omega)
  have hk10 := hl10.more hgr10
  refine OpK.run rfl hr10 ?_
  show CWL _ _ _ _ _ _
  have hb11 := hb.ch hk10.new_ch
  refine CWL.reg (ops := [(.fieldAddr 33 (.tmp 2) 11, 0), (.load 21 (.tmp 1), 21), (.convert 21 2 (.tmp 3), 2), (.call ⟨.value (.func 17), #[.tmp 5, .const (Go.Value.int Go.IntKind.i64 4)], #[2, 3]⟩, 29), (.call ⟨.builtin .append, #[.tmp 6, .tmp 7], #[29, 29]⟩, 29)]) (b := [(3, 9), (68, 9), (67, 7), (66, 5), (65, 3), (64, 1), (63, 6)]) (by kernel_rfl) ?_
  refine OpK.fieldAddr (off := 11) (by kernel_rfl) rfl ?_
  refine OpK.load (by kernel_rfl) rfl (hb11.cell 11) ?_
  refine OpK.convInt (k' := .i64) (by kernel_rfl) (by kernel_rfl) rfl ?_
  refine OpK.asCall rfl call17 rfl ((fixed y10 (IntKind.i64.wrap f11) 4 (by omega)).mono ?_)
  rintro en x11 ⟨q11, he11, hg11⟩
  rw [be_w64 4 (by omega)] at hg11
  refine ⟨_, he11, ?_⟩
  obtain ⟨a11, c11, rfl, hn11, ho11⟩ := hg11.own.slice
  have hl11 := hk10.later hg11.new_ch
  obtain ⟨e11, y11, hr11, hgr11⟩ := run_append_oct (P := Try.prog) (ty := 29) (t := 29) u8 und hl11.own (a := a11) (l := be 4 f11) (c := c11) hn11 (fun a' e => (ho11 a' e).1) (by simp only [List.length_append, be_length, Lim]; omega)
  have hk11 := hl11.more hgr11
  refine OpK.run rfl hr11 ?_
  show CWL _ _ _ _ _ _
  have hb12 := hb.ch hk11.new_ch
  refine CWL.reg (ops := [(.fieldAddr 33 (.tmp 2) 12, 0), (.load 21 (.tmp 1), 21), (.convert 21 2 (.tmp 3), 2), (.call ⟨.value (.func 17), #[.tmp 5, .const (Go.Value.int Go.IntKind.i64 4)], #[2, 3]⟩, 29), (.call ⟨.builtin .append, #[.tmp 6, .tmp 7], #[29, 29]⟩, 29)]) (b := [(3, 9), (74, 9), (73, 7), (72, 5), (71, 3), (70, 1), (69, 6)]) (by kernel_rfl) ?_
  refine OpK.fieldAddr (off := 12) (by kernel_rfl) rfl ?_
  refine OpK.load (by kernel_rfl) rfl (hb12.cell 12) ?_
  refine OpK.convInt (k' := .i64) (by kernel_rfl) (by kernel_rfl) rfl ?_
  refine OpK.asCall rfl call17 rfl ((fixed y11 (IntKind.i64.wrap f12) 4 (by omega)).mono ?_)
  rintro en x12 ⟨q12, he12, hg12⟩
  rw [be_w64 4 (by omega)] at hg12
  refine ⟨_, he12, ?_⟩
  obtain ⟨a12, c12, rfl, hn12, ho12⟩ := hg12.own.slice
  have hl12 := hk11.later hg12.new_ch
  obtain ⟨e12, y12, hr12, hgr12⟩ := run_append_oct (P := Try.prog) (ty := 29) (t := 29) u8 und hl12.own (a := a12) (l := be 4 f12) (c := c12) hn12 (fun a' e => (ho12 a' e).1) (by simp only [List.length_append, be_length, Lim]; omega)
  have hk12 := hl12.more hgr12
  refine OpK.run rfl hr12 ?_
  show CWL _ _ _ _ _ _
  have hb13 := hb.ch hk12.new_ch
  have hs13 := hr.keep (w' := y12) fun k hk => (hk12.new_ch.block k (by omega) fun h => h).trans (hc0.block k (by omega) fun h => h)
  obtain ⟨ra, rc, rfl, h2, h3, h4, h5⟩ := hs13
  obtain ⟨e13, y13, hr13, hgr13⟩ := run_append_oct (P := Try.prog) (ty := 29) (t := 29) u8 und hk12.own (a := ra) (l := rec) (c := rc) h4 (fun a' e => (h5 a' e).1) (by simp only [List.length_append, be_length, Lim] at hl ⊢; omega)
  refine CWL.reg (ops := [(.fieldAddr 33 (.tmp 2) 13, 0), (.load 29 (.tmp 1), 29), (.call ⟨.builtin .append, #[.tmp 6, .tmp 3], #[29, 29]⟩, 29)]) (b := [(2, 5), (78, 5), (77, 3), (76, 1), (75, 6)]) (by kernel_rfl) ?_
  refine OpK.fieldAddr (off := 13) (by kernel_rfl) rfl ?_
  refine OpK.load (by kernel_rfl) rfl (hb13.cell 13) ?_
  refine OpK.run rfl hr13 ?_
  show CWL _ _ _ _ _ _
  refine CWL.ret ?_
  exact ⟨_, rfl, (hk12.more hgr13).pre hc0⟩

theorem call10 : Callable Try.prog 10 := ⟨Try.f10, Try.func10, by kernel_rfl, by kernel_rfl⟩
theorem empty_own {w : World} : Own 5 (w.alloc (.cells #[] 5)) (.slice (some ⟨w.heap.size, 0, none⟩) 0 0) [] :=
  ⟨rfl, .inr ⟨w.heap.size, 0, #[], rfl, Nat.zero_le _, heap_alloc_new w _, Nat.le_refl _, by simp [maxLen], rfl, rfl⟩⟩
theorem behind (w : World) (a b c : List UInt8) (va vb vc : Value) (B : Nat) (hB : B ≤ w.heap.size) (ha : Own 5 w va a) (hb : SlIs w B b vb) (hc : Own 5 w vc c) (hl : b.length + c.length ≤ 4611686018427 ∧ a.length ≤ 4611686018427) :
    Calls Try.prog 10 #[va, vb, vc] w fun en w' => ∃ x, en = .returned x ∧ x = .bool (a == b ++ c) ∧ Ch (fun _ => False) w w' := by
  refine Calls.of_CW Try.func10 rfl (by decide +kernel) (Nat.le_of_ble_eq_true (by kernel_rfl)) (CW.of_flat ?_)
  simp only [flat, List.cons_append, List.nil_append, List.append_nil]
  refine CWL.reg (ops := [(.assign (.const (Go.Value.bool false)), 4)]) (b := [(6, 1)]) (by kernel_rfl) ?_
  refine OpK.assign ?_
  show CWL _ _ _ _ _ _
  have hc1 : Ch (fun _ => False) w (w.alloc (.cells #[] 5)) := Ch.alloc _ w _
  have hs1 : (w.alloc (.cells #[] 5)).heap.size = w.heap.size + 1 := by simp
  obtain ⟨ba, bc, rfl, h2, h3, h4, h5⟩ := hb.keep fun k hk => hc1.block k (by omega) fun h => h
  have hg0 : New w (w.alloc (.cells #[] 5)) (.slice (some ⟨w.heap.size, 0, none⟩) 0 0) [] := ⟨empty_own, hc1.mono fun _ _ h => h.elim, fun k hk => .inr (by simp only [Value.ownBlock, Option.some.injEq] at hk; omega)⟩
  obtain ⟨d2, w2, hr2, hg2⟩ := run_append_oct (P := Try.prog) (ty := 29) (t := 29) u8 und (empty_own (w := w)) (a := ba) (l := b) (c := bc) h4 (fun a' e => (h5 a' e).1) (by simp only [List.length_nil, Lim]; omega)
  rw [List.nil_append] at hg2
  have hk2 := hg0.more hg2
  obtain ⟨ca, cc, hce, hcn, hco⟩ := (hc.keep fun k hk => hk2.new_ch.block k (hc.lt hk) fun h => h).slice
  obtain ⟨d3, w3, hr3, hg3⟩ := run_append_oct (P := Try.prog) (ty := 29) (t := 29) u8 und hg2.own (a := ca) (l := c) (c := cc) hcn (fun a' e => (hco a' e).1) (by simp only [Lim]; omega)
  rw [← hce] at hr3
  have hk3 := hk2.more hg3
  refine CWL.reg (ops := [(.buildSlice 29 0 #[], 29), (.call ⟨.builtin .append, #[.tmp 1, .tmp 2], #[29, 29]⟩, 29), (.call ⟨.builtin .append, #[.tmp 3, .tmp 4], #[29, 29]⟩, 29), (.call ⟨.value (.func 14), #[.tmp 0, .tmp 5], #[29, 29]⟩, 4)]) (b := [(6, 7), (13, 7), (12, 5), (11, 4), (10, 3), (9, 2), (8, 1), (7, 0)]) (by kernel_rfl) ?_
  refine OpK.buildS0 und (by kernel_rfl) ?_
  refine OpK.run rfl hr2 ?_
  refine OpK.run rfl hr3 ?_
  refine OpK.asCall rfl Seat.sameIs.1 rfl ((Seat.sameIs.2 w3 (fun k => k < w3.heap.size) a (b ++ c) va d3 ((own_oct (ha.keep fun k hk => hk3.new_ch.block k (ha.lt hk) fun h => h)).mono fun k hk => Nat.lt_of_lt_of_le (ha.lt hk) hk3.new_ch.size) ((own_oct hk3.own).mono fun k hk => hk3.own.lt hk) (fun k hk => hk) (by omega) (by rw [List.length_append]; omega)).mono ?_)
  rintro en w4 ⟨he4, hc4⟩
  refine ⟨_, he4, ?_⟩
  show CWL _ _ _ _ _ _
  refine CWL.ret ?_
  exact ⟨_, rfl, rfl, hk3.new_ch.trans' hc4⟩

theorem call9 : Callable Try.prog 9 := ⟨Try.f9, Try.func9, by kernel_rfl, by kernel_rfl⟩
set_option maxHeartbeats 4000000 in
theorem fits11 (w : World) (f0 f1 f2 f3 f4 f5 f6 f7 f8 f9 f10 f11 f12 : Int) (a : Option Addr) (n c : Nat) : Calls Try.prog 9 #[.agg #[.int .i64 f0, .int .i32 f1, .int .i32 f2, .int .i8 f3, .int .i32 f4, .int .i16 f5, .int .i32 f6, .int .i64 f7, .int .i64 f8, .int .i64 f9, .int .i16 f10, .int .i32 f11, .int .i32 f12, .slice a n c]] w fun en w' => ∃ x, en = .returned x ∧ x = .bool (decide ((n : Int) ≤ 2147483647)) ∧ Ch (fun _ => False) w w' := by
  refine Calls.of_CW Try.func9 rfl (by decide +kernel) (Nat.le_of_ble_eq_true (by kernel_rfl)) (CW.of_flat ?_)
  simp only [flat, List.cons_append, List.nil_append, List.append_nil]
  refine CWL.reg (ops := [(.box 33 (.tmp 0), 0), (.assign (.const (Go.Value.bool false)), 4)]) (b := [(2, 3), (1, 1)]) (by kernel_rfl) ?_
  refine OpK.boxG (cs := [.int .i64 f0, .int .i32 f1, .int .i32 f2, .int .i8 f3, .int .i32 f4, .int .i16 f5, .int .i32 f6, .int .i64 f7, .int .i64 f8, .int .i64 f9, .int .i16 f10, .int .i32 f11, .int .i32 f12, .slice a n c]) rfl fun w1 g hb hc1 hg hs1 => ?_
  refine OpK.assign ?_
  show CWL _ _ _ _ _ _
  refine CWL.reg (ops := [(.fieldAddr 33 (.tmp 2) 13, 0), (.load 29 (.tmp 1), 29), (.call ⟨.builtin .len, #[.tmp 3], #[29]⟩, 3), (.binOp .gtr 3 (.tmp 5) (.const (Go.Value.int Go.IntKind.i64 2147483647)) 3, 4)]) (b := [(6, 7), (5, 5), (4, 3), (3, 1)]) (by kernel_rfl) ?_
  refine OpK.fieldAddr (off := 13) (by kernel_rfl) rfl ?_
  refine OpK.load (by kernel_rfl) rfl (hb.cell 13) ?_
  refine OpK.len (e := 5) (by kernel_rfl) rfl ?_
  refine OpK.cmp rfl rfl rfl ?_
  show CWL _ _ _ _ _ _
  by_cases h : (n : Int) > 2147483647
  · refine CWL.condT (congrArg Value.bool (decide_eq_true h)) ?_
    simp only [flat, List.cons_append, List.nil_append, List.append_nil]
    refine CWL.reg (ops := [(.assign (.const (Go.Value.bool false)), 4)]) (b := [(2, 1)]) (by kernel_rfl) ?_
    refine OpK.assign ?_
    show CWL _ _ _ _ _ _
    refine CWL.ret ?_
    exact ⟨_, rfl, congrArg Value.bool (decide_eq_false (by omega)).symm, hc1⟩
  · refine CWL.condF (congrArg Value.bool (decide_eq_false h)) ?_
    simp only [flat, List.cons_append, List.nil_append, List.append_nil]
    refine CWL.reg (ops := [(.assign (.const (Go.Value.bool true)), 4)]) (b := [(2, 1)]) (by kernel_rfl) ?_
    refine OpK.assign ?_
    show CWL _ _ _ _ _ _
    refine CWL.ret ?_
    exact ⟨_, rfl, congrArg Value.bool (decide_eq_true (by omega)).symm, hc1⟩

set_option maxHeartbeats 8000000 in
theorem law (w : World) (f0 f1 f2 f3 f4 f5 f6 f7 f8 f9 f10 f11 f12 : Int) (vr : Value) (rec : List UInt8) (hr : SlIs w w.heap.size rec vr) (vd : Value) (bs : List UInt8) (hd : SlIs w w.heap.size bs vd) :
    Calls Try.prog 4 #[vd, .agg #[.int .i64 f0, .int .i32 f1, .int .i32 f2, .int .i8 f3, .int .i32 f4, .int .i16 f5, .int .i32 f6, .int .i64 f7, .int .i64 f8, .int .i64 f9, .int .i16 f10, .int .i32 f11, .int .i32 f12, vr]] w fun en w' => en = .returned (.bool true) ∧ Ch (fun _ => False) w w' := by
  obtain ⟨ra, rc, rfl, hr2⟩ := id hr
  obtain ⟨da, dc, rfl, hd2⟩ := id hd
  refine (Calls.of_CW (R := fun x w' => x = .bool true ∧ Ch (fun _ => False) w w') Try.func4 rfl (by decide +kernel) (Nat.le_of_ble_eq_true (by kernel_rfl)) (CW.of_flat ?_)).mono fun en w' ⟨x, he, hx, hR⟩ => ⟨by rw [he, hx], hR⟩
  simp only [flat, List.cons_append, List.nil_append, List.append_nil]
  refine CWL.reg (ops := [(.box 33 (.tmp 2), 0), (.assign (.const (Go.Value.bool false)), 4)]) (b := [(4, 3), (3, 1)]) (by kernel_rfl) ?_
  refine OpK.boxG (cs := [.int .i64 f0, .int .i32 f1, .int .i32 f2, .int .i8 f3, .int .i32 f4, .int .i16 f5, .int .i32 f6, .int .i64 f7, .int .i64 f8, .int .i64 f9, .int .i16 f10, .int .i32 f11, .int .i32 f12, .slice ra rec.length rc]) rfl fun w1 g hb hc1 hg hs1 => ?_
  refine OpK.assign ?_
  show CWL _ _ _ _ _ _
  by_cases h1 : (bs.length : Int) > 2147483647
  · skip
    refine CWL.cons (CW.region ?_)
    refine RW.want rfl ?_
    refine OpK.move ?_
    refine RW.want rfl ?_
    refine OpK.len (e := 5) (by kernel_rfl) rfl ?_
    refine RW.want rfl ?_
    refine OpK.cmp (r := true) (by rw [← decide_eq_true h1]; rfl) rfl rfl ?_
    refine RW.want rfl ?_
    refine OpK.move ?_
    refine RW.skip rfl ?_
    refine RW.skip rfl ?_
    refine RW.skip rfl ?_
    refine RW.want rfl ?_
    refine OpK.pick rfl ?_
    refine RW.z ?_
    show CWL _ _ _ _ _ _
    refine CWL.condT rfl ?_
    simp only [flat, List.cons_append, List.nil_append, List.append_nil]
    refine CWL.reg (ops := [(.assign (.const (Go.Value.bool true)), 4)]) (b := [(4, 1)]) (by kernel_rfl) ?_
    refine OpK.assign ?_
    show CWL _ _ _ _ _ _
    refine CWL.ret ?_
    exact ⟨_, rfl, rfl, hc1⟩
  by_cases h2 : (rec.length : Int) ≤ 2147483647
  rotate_left
  · skip
    refine CWL.cons (CW.region ?_)
    refine RW.want rfl ?_
    refine OpK.move ?_
    refine RW.want rfl ?_
    refine OpK.len (e := 5) (by kernel_rfl) rfl ?_
    refine RW.want rfl ?_
    refine OpK.cmp (r := false) (by rw [← decide_eq_false h1]; rfl) rfl rfl ?_
    refine RW.want rfl ?_
    refine OpK.move ?_
    refine RW.want rfl ?_
    refine OpK.loadA (n := 14) (by kernel_rfl) rfl hb.ata rfl ?_
    refine RW.want rfl ?_
    refine OpK.asCall rfl call9 rfl ((fits11 w1 f0 f1 f2 f3 f4 f5 f6 f7 f8 f9 f10 f11 f12 ra rec.length rc).mono ?_)
    rintro en w2 ⟨x2, he2, rfl, hc2⟩
    rw [decide_eq_false h2] at he2
    refine ⟨_, he2, ?_⟩
    refine RW.want rfl ?_
    refine OpK.not rfl ?_
    refine RW.want rfl ?_
    refine OpK.pick rfl ?_
    refine RW.z ?_
    show CWL _ _ _ _ _ _
    refine CWL.condT rfl ?_
    simp only [flat, List.cons_append, List.nil_append, List.append_nil]
    refine CWL.reg (ops := [(.assign (.const (Go.Value.bool true)), 4)]) (b := [(4, 1)]) (by kernel_rfl) ?_
    refine OpK.assign ?_
    show CWL _ _ _ _ _ _
    refine CWL.ret ?_
    exact ⟨_, rfl, rfl, hc1.trans' hc2⟩
  refine CWL.cons (CW.region ?_)
  refine RW.want rfl ?_
  refine OpK.move ?_
  refine RW.want rfl ?_
  refine OpK.len (e := 5) (by kernel_rfl) rfl ?_
  refine RW.want rfl ?_
  refine OpK.cmp (r := false) (by rw [← decide_eq_false h1]; rfl) rfl rfl ?_
  refine RW.want rfl ?_
  refine OpK.move ?_
  refine RW.want rfl ?_
  refine OpK.loadA (n := 14) (by kernel_rfl) rfl hb.ata rfl ?_
  refine RW.want rfl ?_
  refine OpK.asCall rfl call9 rfl ((fits11 w1 f0 f1 f2 f3 f4 f5 f6 f7 f8 f9 f10 f11 f12 ra rec.length rc).mono ?_)
  rintro en w2 ⟨x2, he2, rfl, hc2⟩
  rw [decide_eq_true h2] at he2
  refine ⟨_, he2, ?_⟩
  refine RW.want rfl ?_
  refine OpK.not rfl ?_
  refine RW.want rfl ?_
  refine OpK.pick rfl ?_
  refine RW.z ?_
  show CWL _ _ _ _ _ _
  refine CWL.condF rfl ?_
  simp only [flat, List.cons_append, List.nil_append, List.append_nil]
  have hb2 := hb.ch hc2
  have hc12 : Ch (fun _ => False) w w2 := hc1.trans' hc2
  have hadd : IntKind.i64.wrap ((rec.length : Int) + (bs.length : Int)) = ((rec.length + bs.length : Nat) : Int) := by rw [IntKind.wrap_i64]; omega
  by_cases h3 : ((rec.length + bs.length : Nat) : Int) > 131072
  · skip
    refine CWL.regT mixed (fun w' => Ch (fun _ => False) w2 w') (.early 0 (.early 1 (.early 3 (.early 2 (.early 4 (.early 5 (.early 6 (.early 7 (.early 8 (.early 9 (.early 11 (.early 12 (.one 10 (.one 13 (.one 14 (.early 15 (.early 16 .done))))))))))))))))) (by decide +kernel) (Ch.drew _ _) ?_
    refine HT.early_ rfl rfl (Yi.fieldAddr (off := 13) (by kernel_rfl) rfl) ?_
    refine HT.early_ rfl rfl (Yi.load (by kernel_rfl) rfl (fun w' hw' => (hb2.ch hw').cell 13)) ?_
    refine HT.early_ rfl rfl (Yi.move) ?_
    refine HT.early_ rfl rfl (Yi.len (e := 5) (by kernel_rfl) rfl) ?_
    refine HT.early_ rfl rfl (Yi.len (e := 5) (by kernel_rfl) rfl) ?_
    refine HT.early_ rfl rfl (Yi.arith' (r := ((rec.length + bs.length : Nat) : Int)) (by rw [← hadd]; rfl) rfl rfl) ?_
    refine HT.early_ rfl rfl (Yi.cmp (r := true) (by rw [← decide_eq_true h3]; rfl) rfl rfl) ?_
    refine HT.early_ rfl rfl (Yi.move) ?_
    refine HT.none_ rfl rfl ?_
    refine HT.none_ rfl rfl ?_
    refine HT.none_ rfl rfl ?_
    refine HT.none_ rfl rfl ?_
    refine oneK.no rfl rfl (Ch.drew _ _) ?_
    refine oneK.no rfl rfl (Ch.drew _ _) ?_
    refine oneK.no rfl rfl (Ch.drew _ _) ?_
    refine HT.early_ rfl rfl (Yi.pick rfl) ?_
    refine HT.early_ rfl rfl (Yi.assign) ?_
    show CWL _ _ _ _ _ _
    refine CWL.ret ?_
    exact ⟨_, rfl, rfl, hc12.trans' (Ch.drew _ _)⟩
  · have hlim : bs.length + 61 + rec.length ≤ Lim := by simp only [Lim]; omega
    have hk2 : ∀ w', Ch (fun _ => False) w2 w' → ∀ k, k < w.heap.size → w'.heap[k]? = w.heap[k]? := fun w' hw k hk => (hw.block k (by have := hc12.size; omega) fun h => h).trans (hc12.block k hk fun h => h)
    refine CWL.regD0 mixed [(0, true), (1, true), (3, true), (2, true), (4, true), (5, true), (6, true), (7, true), (8, true), (9, true), (11, true), (12, true), (10, false), (13, false), (14, false), (15, true), (16, true)] (by decide +kernel) ?_
    refine HW.early rfl rfl (Yi.fieldAddr (off := 13) (by kernel_rfl) rfl) ?_
    refine HW.early rfl rfl (Yi.load (by kernel_rfl) rfl (fun w' hw' => (hb2.ch hw').cell 13)) ?_
    refine HW.early rfl rfl (Yi.move) ?_
    refine HW.early rfl rfl (Yi.len (e := 5) (by kernel_rfl) rfl) ?_
    refine HW.early rfl rfl (Yi.len (e := 5) (by kernel_rfl) rfl) ?_
    refine HW.early rfl rfl (Yi.arith' (r := ((rec.length + bs.length : Nat) : Int)) (by rw [← hadd]; rfl) rfl rfl) ?_
    refine HW.early rfl rfl (Yi.cmp (r := false) (by rw [← decide_eq_false h3]; rfl) rfl rfl) ?_
    refine HW.early rfl rfl (Yi.move) ?_
    refine HW.early rfl rfl (Yi.move) ?_
    refine HW.early rfl rfl (Yi.loadA (n := 14) (by kernel_rfl) rfl (fun w' hw' => (hb2.ch hw').ata) rfl) ?_
    refine HW.early rfl rfl (Yi.move) ?_
    refine HW.early rfl rfl (Yi.loadA (n := 14) (by kernel_rfl) rfl (fun w' hw' => (hb2.ch hw').ata) rfl) ?_
    refine HW.next rfl rfl ?_
    refine OpK.asCall rfl call11 rfl ((make _ w.heap.size (by show w.heap.size ≤ w2.heap.size; exact hc12.size) f0 f1 f2 f3 f4 f5 f6 f7 f8 f9 f10 f11 f12 _ rec (hr.keep (hk2 _ (Ch.drew _ _))) _ bs (hd.keep (hk2 _ (Ch.drew _ _))) hlim).mono ?_)
    rintro en w4 ⟨d4, he4, hg4⟩
    have hc24 : Ch (fun _ => False) w2 w4 := (Ch.drew _ _).trans' hg4.new_ch
    refine ⟨_, he4, hc24, ?_⟩
    refine HW.next rfl rfl ?_
    refine OpK.asCall rfl call12 rfl ((bytes w4 w.heap.size (by have := hc12.size; have := hc24.size; omega) f0 f1 f2 f3 f4 f5 f6 f7 f8 f9 f10 f11 f12 _ rec (hr.keep (hk2 _ hc24)) (by omega)).mono ?_)
    rintro en w5 ⟨d5, he5, hg5⟩
    have hc25 : Ch (fun _ => False) w2 w5 := hc24.trans' hg5.new_ch
    refine ⟨_, he5, hc25, ?_⟩
    have heq : (bs ++ be 8 f0 ++ be 4 f1 ++ be 4 f2 ++ be 1 f3 ++ be 4 f4 ++ be 2 f5 ++ be 4 f6 ++ be 8 f7 ++ be 8 f8 ++ be 8 f9 ++ be 2 f10 ++ be 4 f11 ++ be 4 f12 ++ rec == bs ++ (be 8 f0 ++ be 4 f1 ++ be 4 f2 ++ be 1 f3 ++ be 4 f4 ++ be 2 f5 ++ be 4 f6 ++ be 8 f7 ++ be 8 f8 ++ be 8 f9 ++ be 2 f10 ++ be 4 f11 ++ be 4 f12 ++ rec)) = true := by simp only [List.append_assoc, beq_self_eq_true]
    refine HW.next rfl rfl ?_
    refine OpK.asCall rfl call10 rfl ((behind w5 _ bs _ d4 _ d5 w.heap.size (by have := hc12.size; have := hc25.size; omega) (hg4.later hg5.new_ch).own (hd.keep (hk2 _ hc25)) hg5.own (by simp only [List.length_append, be_length, Lim] at hlim ⊢; omega)).mono ?_)
    rintro en w6 ⟨x6, he6, rfl, hc6⟩
    rw [heq] at he6
    refine ⟨_, he6, hc25.trans' hc6, ?_⟩
    refine HW.early rfl rfl (Yi.pick rfl) ?_
    refine HW.early rfl rfl (Yi.assign) ?_
    refine HW.done ?_
    show CWL _ _ _ _ _ _
    refine CWL.ret ?_
    exact ⟨_, rfl, rfl, hc12.trans' (hc25.trans' hc6)⟩
end Go.Proofs.Ytmgnfbbgjahnhaa.Mk
