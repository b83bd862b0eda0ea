/- Walks over texts. -/
import Derived.Test.YtagmcjolgfkcaaaDoorProg
import Derived.Test.YtagmcjolgfkcaaaDoorKxTxt
namespace Go.Proofs.YtagmcjolgfkcaaaDoor.Txt
open Go.Kx Go.RowKit Go.Proofs
set_option maxRecDepth 100000
set_option linter.unusedVariables false
set_option linter.unusedSimpArgs false

theorem und : Tryd.prog.underlying 26 = some (.slice 5) := by kernel_rfl
theorem undU8 : Tryd.prog.underlying 5 = some (.int .u8) := by kernel_rfl
theorem undS : Tryd.prog.underlying 9 = some .string := by kernel_rfl
theorem u8 : U8 Tryd.prog 5 := by unfold U8; kernel_rfl
theorem mixed : Tryd.prog.follows .mixedOrders = true := by kernel_rfl
abbrev New (w w' : World) (d : Value) (bs : List UInt8) : Prop := Grew 5 w (.slice none 0 0) w' d bs
abbrev Old : Nat → Prop := fun _ => False

/-! ### A text is searched for an octet -/
theorem call30 : Callable Tryd.prog 30 := ⟨Tryd.f30, Tryd.func30, by kernel_rfl, by kernel_rfl⟩
set_option maxHeartbeats 4000000 in
theorem zzIndex (w : World) (l : List UInt8) (c : UInt8) (hl : l.length ≤ 4294967296) : Calls Tryd.prog 30 #[strV l, strV [c]] w fun en w' => ∃ x, en = .returned x ∧ ∃ r : Int, x = .int .i64 r ∧ w' = w ∧ ((r = -1 ∧ c ∉ l) ∨ ∃ i : Nat, r = i ∧ l[i]? = some c ∧ c ∉ l.take i) := by
  refine Calls.of_CW Tryd.func30 rfl (by decide +kernel) (Nat.le_of_ble_eq_true (by kernel_rfl)) (CW.of_flat ?_)
  simp only [flat, List.cons_append, List.nil_append, List.append_nil]
  refine CWL.reg (ops := [(.assign (.const (Go.Value.int Go.IntKind.i64 0)), 3)]) (b := [(4, 1)]) (by kernel_rfl) ?_
  refine OpK.assign ?_
  show CWL _ _ _ _ _ _
  refine CWL.reg (ops := [(.assign (.const (Go.Value.int Go.IntKind.i64 0)), 3)]) (b := [(5, 1)]) (by kernel_rfl) ?_
  refine OpK.assign ?_
  show CWL _ _ _ _ _ _
  refine CWL.cons (CW.block (CW.loop (fun m σ wl => ∃ i : Nat, m + i = l.length ∧ wl = w ∧ σ 0 = strV l ∧ σ 1 = strV [c] ∧ σ 5 = .int .i64 (i : Int) ∧ c ∉ l.take i) l.length ⟨0, by simp, rfl, rfl, rfl, rfl, by simp⟩ ?_))
  rintro m σ wl ⟨i, hm, rfl, e0, e1, e5, hn⟩
  refine CW.pin [(0, strV l), (1, strV [c]), (5, .int .i64 (i : Int))] (all_pin e0 (all_pin e1 (all_pin e5 (fun _ h => by cases h)))) fun σ => ?_
  simp only [flat, List.cons_append, List.nil_append, List.append_nil]
  have hi1 := i64_succ i (by omega)
  refine CWL.reg (ops := [(.call ⟨.builtin .len, #[.tmp 2], #[9]⟩, 3), (.binOp .add 3 (.tmp 10) (.tmp 1) 3, 3), (.call ⟨.builtin .len, #[.tmp 0], #[9]⟩, 3), (.binOp .leq 3 (.tmp 3) (.tmp 5) 3, 4)]) (b := [(12, 7), (11, 5), (10, 0), (9, 3), (8, 1), (7, 2), (6, 10)]) (by kernel_rfl) ?_
  refine OpK.lenS (by kernel_rfl) rfl ?_
  refine OpK.arith (r := ((i + 1 : Nat) : Int)) (by rw [← hi1]; rfl) rfl rfl ?_
  refine OpK.lenS (by kernel_rfl) rfl ?_
  refine OpK.cmp rfl rfl rfl ?_
  show CWL _ _ _ _ _ _
  by_cases hlt : i < l.length
  · refine CWL.condT (congrArg Value.bool (decide_eq_true (by omega))) ?_
    simp only [flat, List.cons_append, List.nil_append, List.append_nil]
    refine CWL.block ?_
    simp only [flat, List.cons_append, List.nil_append, List.append_nil]
    refine CWL.reg (ops := [(.call ⟨.builtin .len, #[.tmp 2], #[9]⟩, 3), (.binOp .add 3 (.tmp 10) (.tmp 1) 3, 3), (.slice 9 (.tmp 0) (some (.tmp 10)) (some (.tmp 3)) none, 9), (.binOp .eql 9 (.tmp 5) (.tmp 2) 9, 4)]) (b := [(23, 7), (22, 2), (21, 5), (20, 3), (19, 1), (18, 2), (17, 10), (16, 10), (15, 0)]) (by kernel_rfl) ?_
    refine OpK.lenS (by kernel_rfl) rfl ?_
    refine OpK.arith (r := ((i + 1 : Nat) : Int)) (by rw [← hi1]; rfl) rfl rfl ?_
    refine OpK.sliceS (a := i) (b := i + 1) undS rfl rfl rfl (by omega) (by omega) ?_
    refine OpK.eqS (b := [c]) rfl rfl ?_
    rw [one_eq hlt]
    show CWL _ _ _ _ _ _
    by_cases hc : l[i]? = some c
    · refine CWL.condT (congrArg Value.bool (decide_eq_true hc)) ?_
      simp only [flat, List.cons_append, List.nil_append, List.append_nil]
      refine CWL.reg (ops := []) (b := [(4, 10), (24, 10)]) (by kernel_rfl) ?_
      show CWL _ _ _ _ _ _
      refine CWL.ret ?_
      exact ⟨_, rfl, i, rfl, rfl, .inr ⟨i, rfl, hc, hn⟩⟩
    · refine CWL.condF (congrArg Value.bool (decide_eq_false hc)) ?_
      simp only [flat, List.cons_append, List.nil_append, List.append_nil]
      try refine CWL.nil_ (P := Tryd.prog) (n := 0) ?_
      show CWL _ _ _ _ _ _
      refine CWL.reg (ops := [(.binOp .add 3 (.tmp 10) (.const (Go.Value.int Go.IntKind.i64 1)) 3, 3)]) (b := [(5, 1), (14, 1), (13, 10)]) (by kernel_rfl) ?_
      refine OpK.arith (r := ((i + 1 : Nat) : Int)) (by rw [← hi1]; rfl) rfl rfl ?_
      show CWL _ _ _ _ _ _
      try refine CWL.nil_ (P := Tryd.prog) (n := 0) ?_
      refine ⟨m - 1, by omega, i + 1, by omega, rfl, rfl, rfl, rfl, ?_⟩
      rw [List.take_add_one, List.getElem?_eq_getElem hlt]
      rw [List.getElem?_eq_getElem hlt] at hc
      intro h
      rcases List.mem_append.1 h with h | h
      · exact hn h
      · simp only [Option.toList_some, List.mem_singleton] at h
        exact hc (by rw [h])
  · refine CWL.condF (congrArg Value.bool (decide_eq_false (by omega))) ?_
    simp only [flat, List.cons_append, List.nil_append, List.append_nil]
    refine CWL.cons (CW.exit ?_)
    show CWL _ _ _ _ _ _
    refine CWL.reg (ops := [(.assign (.const (Go.Value.int Go.IntKind.i64 (-1))), 3)]) (b := [(4, 1)]) (by kernel_rfl) ?_
    refine OpK.assign ?_
    show CWL _ _ _ _ _ _
    refine CWL.ret ?_
    exact ⟨_, rfl, -1, rfl, rfl, .inl ⟨rfl, by rw [List.take_of_length_le (by omega)] at hn; exact hn⟩⟩

/-! ### An octet is taken out of a text -/
theorem call27 : Callable Tryd.prog 27 := ⟨Tryd.f27, Tryd.func27, by kernel_rfl, by kernel_rfl⟩
set_option maxHeartbeats 4000000 in
theorem zzReplaceAll (w : World) (l : List UInt8) (c : UInt8) (hl : l.length ≤ 4294967296) : Calls Tryd.prog 27 #[strV l, strV [c], strV []] w fun en w' => ∃ x, en = .returned x ∧ x = strV (l.filter (· != c)) ∧ Ch Old w w' := by
  refine Calls.of_CW Tryd.func27 rfl (by decide +kernel) (Nat.le_of_ble_eq_true (by kernel_rfl)) (CW.of_flat ?_)
  simp only [flat, List.cons_append, List.nil_append, List.append_nil]
  refine CWL.reg (ops := [(.assign (.const (Go.Value.string {data := #[]})), 9)]) (b := [(6, 1)]) (by kernel_rfl) ?_
  refine OpK.assign ?_
  show CWL _ _ _ _ _ _
  refine CWL.reg (ops := [(.assign (.const (Go.Value.slice none 0 0)), 26)]) (b := [(7, 1)]) (by kernel_rfl) ?_
  refine OpK.assign ?_
  show CWL _ _ _ _ _ _
  refine CWL.reg (ops := [(.call ⟨.builtin .len, #[.tmp 2], #[9]⟩, 3), (.binOp .eql 3 (.tmp 1) (.const (Go.Value.int Go.IntKind.i64 0)) 3, 4)]) (b := [(13, 3), (12, 1), (11, 2)]) (by kernel_rfl) ?_
  refine OpK.lenS (by kernel_rfl) rfl ?_
  refine OpK.cmp rfl rfl rfl ?_
  show CWL _ _ _ _ _ _
  refine CWL.condF rfl ?_
  simp only [flat, List.cons_append, List.nil_append, List.append_nil]
  refine CWL.cons (CW.block (CW.loop (fun m σ wl => ∃ pre suf d, suf.length = m ∧ pre.length + suf.length ≤ l.length ∧ σ 0 = strV suf ∧ σ 1 = strV [c] ∧ σ 2 = strV [] ∧ σ 7 = d ∧ New w wl d pre ∧ pre ++ suf.filter (· != c) = l.filter (· != c)) l.length
    ⟨[], l, .slice none 0 0, rfl, by simp, rfl, rfl, rfl, rfl, Grew.refl (Own.nil _ _), rfl⟩ ?_))
  rintro m σ wl ⟨pre, suf, d, hm, hle, e0, e1, e2, e7, hg, hpre⟩
  refine CW.pin [(0, strV suf), (1, strV [c]), (2, strV []), (7, d)] (all_pin e0 (all_pin e1 (all_pin e2 (all_pin e7 (fun _ h => by cases h))))) fun σ => ?_
  simp only [flat, List.cons_append, List.nil_append, List.append_nil]
  refine CWL.block ?_
  simp only [flat, List.cons_append, List.nil_append, List.append_nil]
  refine CWL.reg (ops := [(.call ⟨.value (.func 30), #[.tmp 0, .tmp 2], #[9, 9]⟩, 3)]) (b := [(10, 1), (47, 1), (46, 2), (45, 0)]) (by kernel_rfl) ?_
  refine OpK.asCall rfl call30 rfl ((zzIndex wl suf c (by omega)).mono ?_)
  rintro en w1 ⟨x, he, r, rfl, hw1, hr⟩
  rw [hw1]
  refine ⟨_, he, ?_⟩
  show CWL _ _ _ _ _ _
  refine CWL.reg (ops := [(.binOp .lss 3 (.tmp 20) (.const (Go.Value.int Go.IntKind.i64 0)) 3, 4)]) (b := [(49, 1), (48, 20)]) (by kernel_rfl) ?_
  refine OpK.cmp rfl rfl rfl ?_
  show CWL _ _ _ _ _ _
  rcases hr with ⟨rfl, hnc⟩ | ⟨i, rfl, hi, hnt⟩
  · refine CWL.condT rfl ?_
    simp only [flat, List.cons_append, List.nil_append, List.append_nil]
    obtain ⟨v', w', hr, hg1⟩ := run_append_str (P := Tryd.prog) (ty := 26) u8 und undS hg.own (l := suf) (by simp only [Lim]; omega)
    refine CWL.reg (ops := [(.call ⟨.builtin .append, #[.tmp 14, .tmp 0], #[26, 9]⟩, 26), (.convert 26 9 (.tmp 1), 9)]) (b := [(6, 3), (53, 3), (52, 1), (51, 0), (50, 14)]) (by kernel_rfl) ?_
    refine OpK.run rfl hr ?_
    refine OpK.bytesStr und undU8 undS rfl (hg1.own.src (by rw [List.length_append]; omega)) ?_
    show CWL _ _ _ _ _ _
    refine CWL.ret ?_
    refine ⟨_, rfl, ?_, (hg.trans hg1).new_ch⟩
    rw [← hpre, filter_none hnc]
    rfl
  · refine CWL.condF (congrArg Value.bool (decide_eq_false (by omega))) ?_
    simp only [flat, List.cons_append, List.nil_append, List.append_nil]
    try refine CWL.nil_ (P := Tryd.prog) (n := 0) ?_
    show CWL _ _ _ _ _ _
    have hil := (List.getElem?_eq_some_iff.1 hi).1
    obtain ⟨v1, w1, hr1, hg1⟩ := run_append_str (P := Tryd.prog) (ty := 26) u8 und undS hg.own (l := suf.take i) (by rw [List.length_take]; simp only [Lim]; omega)
    obtain ⟨v2, w2, hr2, hg2⟩ := run_append_str (P := Tryd.prog) (ty := 26) u8 und undS hg1.own (l := []) (by rw [List.length_append, List.length_take]; simp only [Lim, List.length_nil]; omega)
    rw [List.append_nil] at hg2
    have hi1 := i64_succ i (by omega)
    refine CWL.reg (ops := [(.slice 9 (.tmp 0) none (some (.tmp 20)) none, 9), (.call ⟨.builtin .append, #[.tmp 14, .tmp 1], #[26, 9]⟩, 26), (.call ⟨.builtin .append, #[.tmp 3, .tmp 4], #[26, 9]⟩, 26)]) (b := [(7, 5), (60, 5), (59, 4), (58, 3), (57, 1), (56, 20), (55, 0), (54, 14)]) (by kernel_rfl) ?_
    refine OpK.sliceSTo (b := i) undS rfl rfl (by omega) ?_
    refine OpK.run rfl hr1 ?_
    refine OpK.run rfl hr2 ?_
    show CWL _ _ _ _ _ _
    refine CWL.reg (ops := [(.call ⟨.builtin .len, #[.tmp 2], #[9]⟩, 3), (.binOp .add 3 (.tmp 20) (.tmp 1) 3, 3), (.slice 9 (.tmp 0) (some (.tmp 3)) none none, 9)]) (b := [(0, 5), (66, 5), (65, 3), (64, 1), (63, 2), (62, 20), (61, 0)]) (by kernel_rfl) ?_
    refine OpK.lenS (by kernel_rfl) rfl ?_
    refine OpK.arith (r := ((i + 1 : Nat) : Int)) (by rw [← hi1]; rfl) rfl rfl ?_
    refine OpK.sliceSFrom (a := i + 1) undS rfl rfl (by omega) ?_
    show CWL _ _ _ _ _ _
    try refine CWL.nil_ (P := Tryd.prog) (n := 0) ?_
    refine ⟨(suf.drop (i + 1)).length, by rw [List.length_drop]; omega, pre ++ suf.take i, suf.drop (i + 1), v2, rfl, by rw [List.length_append, List.length_take, List.length_drop]; omega, rfl, rfl, rfl, rfl, (hg.trans hg1).trans hg2, ?_⟩
    rw [← hpre, filter_split hi hnt, List.append_assoc]

/-! ### Blanks -/
theorem call24 : Callable Tryd.prog 24 := ⟨Tryd.f24, Tryd.func24, by kernel_rfl, by kernel_rfl⟩
theorem sp_a {b : UInt8} (h : (b.toNat : Int) = 32) : Lib.isSp b = true := by
  have : b = 32 := UInt8.toNat_inj.1 (by have : (32 : UInt8).toNat = 32 := rfl; omega)
  subst this; rfl
theorem sp_c {b : UInt8} (h : ¬ (b.toNat : Int) = 32) : Lib.isSp b = (decide ((b.toNat : Int) ≥ 9) && decide ((b.toNat : Int) ≤ 13)) :=
  u8_all (p := fun b => ¬ (b.toNat : Int) = 32 → Lib.isSp b = (decide ((b.toNat : Int) ≥ 9) && decide ((b.toNat : Int) ≤ 13))) (by decide +kernel) b h
set_option maxHeartbeats 4000000 in
theorem blank (w : World) (b : UInt8) : Calls Tryd.prog 24 #[.int .u8 b.toNat] w fun en w' => ∃ x, en = .returned x ∧ x = .bool (Lib.isSp b) ∧ w' = w := by
  refine Calls.of_CW Tryd.func24 rfl (by decide +kernel) (Nat.le_of_ble_eq_true (by kernel_rfl)) (CW.of_flat ?_)
  simp only [flat, List.cons_append, List.nil_append, List.append_nil]
  refine CWL.reg (ops := [(.assign (.const (Go.Value.bool false)), 4)]) (b := [(2, 1)]) (by kernel_rfl) ?_
  refine OpK.assign ?_
  show CWL _ _ _ _ _ _
  by_cases h1 : (b.toNat : Int) = 32
  · skip
    refine CWL.cons (CW.region ?_)
    refine RW.want rfl ?_
    refine OpK.move ?_
    refine RW.want rfl ?_
    refine OpK.cmp (r := true) (a := (b.toNat : Int)) (b := 32) (by simp [cmpB, h1]) rfl rfl ?_
    refine RW.want rfl ?_
    refine OpK.move ?_
    refine RW.skip rfl ?_
    refine RW.skip rfl ?_
    refine RW.skip rfl ?_
    refine RW.skip rfl ?_
    refine RW.skip rfl ?_
    refine RW.skip rfl ?_
    refine RW.want rfl ?_
    refine OpK.pick rfl ?_
    refine RW.want rfl ?_
    refine OpK.assign ?_
    refine RW.z ?_
    refine CWL.ret ?_
    exact ⟨_, rfl, by rw [sp_a h1]; rfl, rfl⟩
  · by_cases h2 : (b.toNat : Int) ≥ 9
    · skip
      refine CWL.cons (CW.region ?_)
      refine RW.want rfl ?_
      refine OpK.move ?_
      refine RW.want rfl ?_
      refine OpK.cmp (r := false) (a := (b.toNat : Int)) (b := 32) (by simp [cmpB, h1]) rfl rfl ?_
      refine RW.want rfl ?_
      refine OpK.move ?_
      refine RW.want rfl ?_
      refine OpK.move ?_
      refine RW.want rfl ?_
      refine OpK.cmp (r := true) (a := (b.toNat : Int)) (b := 9) (by simp [cmpB, h2]) rfl rfl ?_
      refine RW.want rfl ?_
      refine OpK.move ?_
      refine RW.want rfl ?_
      refine OpK.move ?_
      refine RW.want rfl ?_
      refine OpK.cmp (r := decide ((b.toNat : Int) ≤ 13)) (a := (b.toNat : Int)) (b := 13) rfl rfl rfl ?_
      refine RW.want rfl ?_
      refine OpK.pick rfl ?_
      refine RW.want rfl ?_
      refine OpK.pick rfl ?_
      refine RW.want rfl ?_
      refine OpK.assign ?_
      refine RW.z ?_
      refine CWL.ret ?_
      exact ⟨_, rfl, by rw [sp_c h1, decide_eq_true h2]; rfl, rfl⟩
    · skip
      refine CWL.cons (CW.region ?_)
      refine RW.want rfl ?_
      refine OpK.move ?_
      refine RW.want rfl ?_
      refine OpK.cmp (r := false) (a := (b.toNat : Int)) (b := 32) (by simp [cmpB, h1]) rfl rfl ?_
      refine RW.want rfl ?_
      refine OpK.move ?_
      refine RW.want rfl ?_
      refine OpK.move ?_
      refine RW.want rfl ?_
      refine OpK.cmp (r := false) (a := (b.toNat : Int)) (b := 9) (by simp [cmpB] <;> omega) rfl rfl ?_
      refine RW.want rfl ?_
      refine OpK.move ?_
      refine RW.skip rfl ?_
      refine RW.skip rfl ?_
      refine RW.want rfl ?_
      refine OpK.pick rfl ?_
      refine RW.want rfl ?_
      refine OpK.pick rfl ?_
      refine RW.want rfl ?_
      refine OpK.assign ?_
      refine RW.z ?_
      refine CWL.ret ?_
      exact ⟨_, rfl, by rw [sp_c h1, decide_eq_false h2]; rfl, rfl⟩

/-! ### The reference's one form of a text -/
theorem call16 : Callable Tryd.prog 16 := ⟨Tryd.f16, Tryd.func16, by kernel_rfl, by kernel_rfl⟩
theorem low_up {b : UInt8} (h : (b.toNat : Int) ≥ 65 ∧ (b.toNat : Int) ≤ 90) : Value.int .u8 (IntKind.u8.wrap ((b.toNat : Int) + 32)) = .int .u8 (Lib.lowerB b).toNat :=
  congrArg (Value.int .u8) (u8_all (p := fun b => ((b.toNat : Int) ≥ 65 ∧ (b.toNat : Int) ≤ 90) → IntKind.u8.wrap ((b.toNat : Int) + 32) = ((Lib.lowerB b).toNat : Int)) (by decide +kernel) b h)
theorem low_no {b : UInt8} (h : ¬ ((b.toNat : Int) ≥ 65 ∧ (b.toNat : Int) ≤ 90)) : Lib.lowerB b = b :=
  u8_all (p := fun b => ¬ ((b.toNat : Int) ≥ 65 ∧ (b.toNat : Int) ≤ 90) → Lib.lowerB b = b) (by decide +kernel) b h
theorem keep_eq (b : UInt8) : keepB b = (((b.toNat : Int) != 46) && ((b.toNat : Int) != 95) && ((b.toNat : Int) != 45)) :=
  u8_all (p := fun b => keepB b = (((b.toNat : Int) != 46) && ((b.toNat : Int) != 95) && ((b.toNat : Int) != 45))) (by decide +kernel) b
theorem take_norm {l : List UInt8} {i : Nat} {b : UInt8} (h : l[i]? = some b) : ((l.take (i + 1)).map Lib.lowerB).filter keepB = ((l.take i).map Lib.lowerB).filter keepB ++ (if keepB (Lib.lowerB b) then [Lib.lowerB b] else []) := by
  rw [List.take_add_one, h, Option.toList_some, List.map_append, List.filter_append, List.map_cons, List.map_nil, List.filter_cons, List.filter_nil]
theorem norm_len (l : List UInt8) : ((l.map Lib.lowerB).filter keepB).length ≤ l.length := by
  have := filter_len (p := keepB) (l.map Lib.lowerB)
  rw [List.length_map] at this
  exact this
theorem head_ne {l : List UInt8} (h : 0 < l.length) : l ≠ [] := by intro e; subst e; simp at h
theorem trim_end {l : List UInt8} {x : UInt8} (hl : l ≠ []) (hx : l.getLast? = some x) (hs : Lib.isSp x = true) : (l.reverse.dropWhile Lib.isSp).reverse = ((l.take (l.length - 1)).reverse.dropWhile Lib.isSp).reverse := by
  obtain ⟨ys, rfl⟩ : ∃ ys, l = ys ++ [x] := by
    rw [List.getLast?_eq_some_iff] at hx
    exact hx
  rw [List.reverse_append, List.reverse_singleton, List.singleton_append, List.dropWhile_cons, if_pos hs]
  simp
theorem trim_stop {l : List UInt8} {x : UInt8} (hx : l.getLast? = some x) (hs : Lib.isSp x = false) : (l.reverse.dropWhile Lib.isSp).reverse = l := by
  obtain ⟨ys, rfl⟩ : ∃ ys, l = ys ++ [x] := by
    rw [List.getLast?_eq_some_iff] at hx
    exact hx
  rw [List.reverse_append, List.reverse_singleton, List.singleton_append, List.dropWhile_cons, if_neg (by rw [hs]; decide)]
  simp
set_option maxHeartbeats 8000000 in
theorem normal (w : World) (l : List UInt8) (hl : l.length ≤ 2147483648) : Calls Tryd.prog 16 #[strV l] w fun en w' => ∃ x, en = .returned x ∧ x = strV (normN l) ∧ Ch Old w w' := by
  refine Calls.of_CW Tryd.func16 rfl (by decide +kernel) (Nat.le_of_ble_eq_true (by kernel_rfl)) (CW.of_flat ?_)
  simp only [flat, List.cons_append, List.nil_append, List.append_nil]
  refine CWL.reg (ops := [(.assign (.const (Go.Value.string {data := #[]})), 9)]) (b := [(2, 1)]) (by kernel_rfl) ?_
  refine OpK.assign ?_
  show CWL _ _ _ _ _ _
  refine CWL.reg (ops := [(.assign (.const (Go.Value.slice none 0 0)), 26)]) (b := [(3, 1)]) (by kernel_rfl) ?_
  refine OpK.assign ?_
  show CWL _ _ _ _ _ _
  refine CWL.reg (ops := [(.assign (.const (Go.Value.int Go.IntKind.i64 0)), 3)]) (b := [(4, 1)]) (by kernel_rfl) ?_
  refine OpK.assign ?_
  show CWL _ _ _ _ _ _
  refine CWL.cons (CW.block (CW.loop (fun m σ wl => ∃ i d, m + i = l.length ∧ σ 0 = strV l ∧ σ 3 = d ∧ σ 4 = .int .i64 (i : Int) ∧ New w wl d (((l.take i).map Lib.lowerB).filter keepB)) l.length
    ⟨0, .slice none 0 0, by simp, rfl, rfl, rfl, Grew.refl (Own.nil _ _)⟩ ?_))
  rintro m σ wl ⟨i, d, hm, e0, e3, e4, hg⟩
  refine CW.pin [(0, strV l), (3, d), (4, .int .i64 (i : Int))] (all_pin e0 (all_pin e3 (all_pin e4 (fun _ h => by cases h)))) fun σ => ?_
  simp only [flat, List.cons_append, List.nil_append, List.append_nil]
  refine CWL.reg (ops := [(.call ⟨.builtin .len, #[.tmp 0], #[9]⟩, 3), (.binOp .lss 3 (.tmp 8) (.tmp 1) 3, 4)]) (b := [(9, 3), (8, 1), (7, 0), (6, 8)]) (by kernel_rfl) ?_
  refine OpK.lenS (by kernel_rfl) rfl ?_
  refine OpK.cmp rfl rfl rfl ?_
  show CWL _ _ _ _ _ _
  by_cases hlt : i < l.length
  · refine CWL.condT (congrArg Value.bool (decide_eq_true (by omega))) ?_
    simp only [flat, List.cons_append, List.nil_append, List.append_nil]
    refine CWL.block ?_
    simp only [flat, List.cons_append, List.nil_append, List.append_nil]
    have hb : l[i]? = some l[i] := List.getElem?_eq_getElem hlt
    generalize l[i] = b at hb
    refine CWL.reg (ops := [(.index 9 (.tmp 0) (.tmp 8), 5)]) (b := [(5, 1), (14, 1), (13, 8), (12, 0)]) (by kernel_rfl) ?_
    refine OpK.indexS (j := i) undS rfl rfl hb ?_
    show CWL _ _ _ _ _ _
    refine CWL.joinN 2 (fun σ' w' => w' = wl ∧ σ' 0 = strV l ∧ σ' 3 = d ∧ σ' 4 = .int .i64 (i : Int) ∧ σ' 5 = .int .u8 (Lib.lowerB b).toNat) ?_ ?_
    · simp only [List.take_succ_cons, List.take_zero]
      by_cases hup : (b.toNat : Int) ≥ 65 ∧ (b.toNat : Int) ≤ 90
      · skip
        refine CWL.cons (CW.region ?_)
        refine RW.want rfl ?_
        refine OpK.move ?_
        refine RW.want rfl ?_
        refine OpK.cmp (r := true) (a := (b.toNat : Int)) (b := 65) (by simp [cmpB, hup.1]) rfl rfl ?_
        refine RW.want rfl ?_
        refine OpK.move ?_
        refine RW.want rfl ?_
        refine OpK.move ?_
        refine RW.want rfl ?_
        refine OpK.cmp (r := true) (a := (b.toNat : Int)) (b := 90) (by simp [cmpB, hup.2]) rfl rfl ?_
        refine RW.want rfl ?_
        refine OpK.pick rfl ?_
        refine RW.z ?_
        show CWL _ _ _ _ _ _
        refine CWL.condT rfl ?_
        simp only [flat, List.cons_append, List.nil_append, List.append_nil]
        refine CWL.reg (ops := [(.binOp .add 5 (.tmp 10) (.const (Go.Value.int Go.IntKind.u8 32)) 5, 5)]) (b := [(5, 1), (22, 1), (21, 10)]) (by kernel_rfl) ?_
        refine OpK.arith rfl rfl rfl ?_
        show CWL _ _ _ _ _ _
        exact ⟨rfl, rfl, rfl, rfl, low_up hup⟩
      · by_cases h65 : (b.toNat : Int) ≥ 65
        · skip
          refine CWL.cons (CW.region ?_)
          refine RW.want rfl ?_
          refine OpK.move ?_
          refine RW.want rfl ?_
          refine OpK.cmp (r := true) (a := (b.toNat : Int)) (b := 65) (by simp [cmpB, h65]) rfl rfl ?_
          refine RW.want rfl ?_
          refine OpK.move ?_
          refine RW.want rfl ?_
          refine OpK.move ?_
          refine RW.want rfl ?_
          refine OpK.cmp (r := false) (a := (b.toNat : Int)) (b := 90) (by simp only [cmpB]; congr 1; exact decide_eq_false fun h => hup ⟨h65, h⟩) rfl rfl ?_
          refine RW.want rfl ?_
          refine OpK.pick rfl ?_
          refine RW.z ?_
          show CWL _ _ _ _ _ _
          refine CWL.condF rfl ?_
          simp only [flat, List.cons_append, List.nil_append, List.append_nil]
          refine CWL.nil_ ?_
          exact ⟨rfl, rfl, rfl, rfl, by rw [low_no hup]; rfl⟩
        · skip
          refine CWL.cons (CW.region ?_)
          refine RW.want rfl ?_
          refine OpK.move ?_
          refine RW.want rfl ?_
          refine OpK.cmp (r := false) (a := (b.toNat : Int)) (b := 65) (by simp only [cmpB]; congr 1; exact decide_eq_false h65) rfl rfl ?_
          refine RW.want rfl ?_
          refine OpK.move ?_
          refine RW.skip rfl ?_
          refine RW.skip rfl ?_
          refine RW.want rfl ?_
          refine OpK.pick rfl ?_
          refine RW.z ?_
          show CWL _ _ _ _ _ _
          refine CWL.condF rfl ?_
          simp only [flat, List.cons_append, List.nil_append, List.append_nil]
          refine CWL.nil_ ?_
          exact ⟨rfl, rfl, rfl, rfl, by rw [low_no hup]; rfl⟩
    rintro σ w1 ⟨rfl, e0, e3, e4, e5⟩
    simp only [List.drop_succ_cons, List.drop_zero]
    refine CWL.pinT [(0, strV l), (3, d), (4, .int .i64 (i : Int)), (5, .int .u8 (Lib.lowerB b).toNat)] (all_pin e0 (all_pin e3 (all_pin e4 (all_pin e5 (fun _ h => by cases h))))) fun σ => ?_
    have hnl := norm_len (l.take (i + 1))
    rw [take_norm hb, List.length_append, List.length_take] at hnl
    have hk := keep_eq (Lib.lowerB b)
    have hbn : ∀ m : Int, (((Lib.lowerB b).toNat : Int) != m) = decide (((Lib.lowerB b).toNat : Int) ≠ m) := fun m => by
      rw [Bool.eq_iff_iff]; simp
    refine CWL.joinN 2 (fun σ' w' => ∃ d', σ' 0 = strV l ∧ σ' 3 = d' ∧ σ' 4 = .int .i64 (i : Int) ∧ New w w' d' (((l.take (i + 1)).map Lib.lowerB).filter keepB)) ?_ ?_
    · simp only [List.take_succ_cons, List.take_zero]
      rw [take_norm hb]
      generalize Lib.lowerB b = x at hk hbn hnl ⊢
      by_cases h46 : (x.toNat : Int) = 46
      · rw [show keepB x = false by rw [hk, h46]; rfl]
        refine CWL.cons (CW.region ?_)
        refine RW.want rfl ?_
        refine OpK.move ?_
        refine RW.want rfl ?_
        refine OpK.cmp (r := false) (a := (x.toNat : Int)) (b := 46) (by simp [cmpB, h46]) rfl rfl ?_
        refine RW.want rfl ?_
        refine OpK.move ?_
        refine RW.skip rfl ?_
        refine RW.skip rfl ?_
        refine RW.want rfl ?_
        refine OpK.pick rfl ?_
        refine RW.want rfl ?_
        refine OpK.move ?_
        refine RW.skip rfl ?_
        refine RW.skip rfl ?_
        refine RW.want rfl ?_
        refine OpK.pick rfl ?_
        refine RW.z ?_
        show CWL _ _ _ _ _ _
        refine CWL.condF rfl ?_
        simp only [flat, List.cons_append, List.nil_append, List.append_nil]
        refine CWL.nil_ ?_
        exact ⟨_, rfl, rfl, rfl, by have h2 := hg; rw [← List.append_nil (((l.take i).map Lib.lowerB).filter keepB)] at h2; exact h2⟩
      · by_cases h95 : (x.toNat : Int) = 95
        · rw [show keepB x = false by rw [hk, h95]; rfl]
          refine CWL.cons (CW.region ?_)
          refine RW.want rfl ?_
          refine OpK.move ?_
          refine RW.want rfl ?_
          refine OpK.cmp (r := true) (a := (x.toNat : Int)) (b := 46) (by simp [cmpB, h46]) rfl rfl ?_
          refine RW.want rfl ?_
          refine OpK.move ?_
          refine RW.want rfl ?_
          refine OpK.move ?_
          refine RW.want rfl ?_
          refine OpK.cmp (r := false) (a := (x.toNat : Int)) (b := 95) (by simp [cmpB, h95]) rfl rfl ?_
          refine RW.want rfl ?_
          refine OpK.pick rfl ?_
          refine RW.want rfl ?_
          refine OpK.move ?_
          refine RW.skip rfl ?_
          refine RW.skip rfl ?_
          refine RW.want rfl ?_
          refine OpK.pick rfl ?_
          refine RW.z ?_
          show CWL _ _ _ _ _ _
          refine CWL.condF rfl ?_
          simp only [flat, List.cons_append, List.nil_append, List.append_nil]
          refine CWL.nil_ ?_
          exact ⟨_, rfl, rfl, rfl, by have h2 := hg; rw [← List.append_nil (((l.take i).map Lib.lowerB).filter keepB)] at h2; exact h2⟩
        · by_cases h45 : (x.toNat : Int) = 45
          · rw [show keepB x = false by rw [hk, h45]; rfl]
            refine CWL.cons (CW.region ?_)
            refine RW.want rfl ?_
            refine OpK.move ?_
            refine RW.want rfl ?_
            refine OpK.cmp (r := true) (a := (x.toNat : Int)) (b := 46) (by simp [cmpB, h46]) rfl rfl ?_
            refine RW.want rfl ?_
            refine OpK.move ?_
            refine RW.want rfl ?_
            refine OpK.move ?_
            refine RW.want rfl ?_
            refine OpK.cmp (r := true) (a := (x.toNat : Int)) (b := 95) (by simp [cmpB, h95]) rfl rfl ?_
            refine RW.want rfl ?_
            refine OpK.pick rfl ?_
            refine RW.want rfl ?_
            refine OpK.move ?_
            refine RW.want rfl ?_
            refine OpK.move ?_
            refine RW.want rfl ?_
            refine OpK.cmp (r := false) (a := (x.toNat : Int)) (b := 45) (by simp [cmpB, h45]) rfl rfl ?_
            refine RW.want rfl ?_
            refine OpK.pick rfl ?_
            refine RW.z ?_
            show CWL _ _ _ _ _ _
            refine CWL.condF rfl ?_
            simp only [flat, List.cons_append, List.nil_append, List.append_nil]
            refine CWL.nil_ ?_
            exact ⟨_, rfl, rfl, rfl, by have h2 := hg; rw [← List.append_nil (((l.take i).map Lib.lowerB).filter keepB)] at h2; exact h2⟩
          · have hkt : keepB x = true := by rw [hk]; simp [h46, h95, h45]
            rw [hkt] at hnl ⊢
            simp only [if_true, List.length_cons, List.length_nil] at hnl ⊢
            obtain ⟨v', w', hr, hg1⟩ := append_lit (ty := 26) und u8 hg.own [x] (by simp only [List.length_cons, List.length_nil, Lim]; omega)
            simp only [List.map_cons, List.map_nil, List.length_cons, List.length_nil] at hr
            refine CWL.cons (CW.region ?_)
            refine RW.want rfl ?_
            refine OpK.move ?_
            refine RW.want rfl ?_
            refine OpK.cmp (r := true) (a := (x.toNat : Int)) (b := 46) (by simp [cmpB, h46]) rfl rfl ?_
            refine RW.want rfl ?_
            refine OpK.move ?_
            refine RW.want rfl ?_
            refine OpK.move ?_
            refine RW.want rfl ?_
            refine OpK.cmp (r := true) (a := (x.toNat : Int)) (b := 95) (by simp [cmpB, h95]) rfl rfl ?_
            refine RW.want rfl ?_
            refine OpK.pick rfl ?_
            refine RW.want rfl ?_
            refine OpK.move ?_
            refine RW.want rfl ?_
            refine OpK.move ?_
            refine RW.want rfl ?_
            refine OpK.cmp (r := true) (a := (x.toNat : Int)) (b := 45) (by simp [cmpB, h45]) rfl rfl ?_
            refine RW.want rfl ?_
            refine OpK.pick rfl ?_
            refine RW.z ?_
            show CWL _ _ _ _ _ _
            refine CWL.condT rfl ?_
            simp only [flat, List.cons_append, List.nil_append, List.append_nil]
            refine CWL.reg (ops := [(.buildSlice 26 1 #[(0, .tmp 10)], 26), (.call ⟨.builtin .append, #[.tmp 6, .tmp 1], #[26, 26]⟩, 26)]) (b := [(3, 3), (36, 3), (35, 1), (34, 10), (33, 6)]) (by kernel_rfl) ?_
            refine OpK.buildS (by simp only [List.map_toArray, List.map_cons, List.map_nil]; exact run_bs1 und u8 _) ?_
            refine OpK.run rfl hr ?_
            show CWL _ _ _ _ _ _
            refine CWL.nil_ ?_
            exact ⟨_, rfl, rfl, rfl, hg.trans hg1⟩
    rintro σ w2 ⟨d', e0, e3, e4, hg2⟩
    simp only [List.drop_succ_cons, List.drop_zero]
    refine CWL.pinT [(0, strV l), (3, d'), (4, .int .i64 (i : Int))] (all_pin e0 (all_pin e3 (all_pin e4 (fun _ h => by cases h)))) fun σ => ?_
    try refine CWL.nil_ (P := Tryd.prog) (n := 0) ?_
    show CWL _ _ _ _ _ _
    have hi1 := i64_succ i (by omega)
    refine CWL.reg (ops := [(.binOp .add 3 (.tmp 8) (.const (Go.Value.int Go.IntKind.i64 1)) 3, 3)]) (b := [(4, 1), (11, 1), (10, 8)]) (by kernel_rfl) ?_
    refine OpK.arith (r := ((i + 1 : Nat) : Int)) (by rw [← hi1]; rfl) rfl rfl ?_
    show CWL _ _ _ _ _ _
    try refine CWL.nil_ (P := Tryd.prog) (n := 0) ?_
    exact ⟨m - 1, by omega, i + 1, d', by omega, rfl, rfl, rfl, hg2⟩
  · refine CWL.condF (congrArg Value.bool (decide_eq_false (by omega))) ?_
    simp only [flat, List.cons_append, List.nil_append, List.append_nil]
    refine CWL.cons (CW.exit ?_)
    show CWL _ _ _ _ _ _
    rw [List.take_of_length_le (by omega)] at hg
    have hlen := norm_len l
    generalize hB : (l.map Lib.lowerB).filter keepB = B at hg hlen
    have hsrc0 := hg.own.src (by omega)
    -- ahead
    refine CWL.joinN 1 (fun σ' w' => w' = wl ∧ ∃ d', σ' 3 = d' ∧ SrcIs wl (fun _ => True) (B.dropWhile Lib.isSp) d') ?_ ?_
    · simp only [List.take_succ_cons, List.take_zero]
      refine CWL.cons (CW.block (CW.loop (fun m σ wk => ∃ cur d', cur.length = m ∧ cur.length ≤ B.length ∧ wk = wl ∧ σ 3 = d' ∧ SrcIs wl (fun _ => True) cur d' ∧ cur.dropWhile Lib.isSp = B.dropWhile Lib.isSp) B.length ⟨B, d, rfl, Nat.le_refl _, rfl, rfl, hsrc0, rfl⟩ ?_))
      rintro m σ wk ⟨cur, d', hm, hle, rfl, e3, hs, hdw⟩
      obtain ⟨a, cc, rfl, hcc⟩ := hs.form
      refine CW.pin [(3, .slice a cur.length cc)] (all_pin e3 (fun _ h => by cases h)) fun σ => ?_
      simp only [flat, List.cons_append, List.nil_append, List.append_nil]
      cases cur with
      | nil =>
        refine CWL.cons (CW.region ?_)
        refine RW.want rfl ?_
        refine OpK.move ?_
        refine RW.want rfl ?_
        refine OpK.len (e := 5) (by kernel_rfl) rfl ?_
        refine RW.want rfl ?_
        refine OpK.cmp (r := false) (a := 0) (b := 0) (by simp [cmpB]) rfl rfl ?_
        refine RW.want rfl ?_
        refine OpK.move ?_
        refine RW.skip rfl ?_
        refine RW.skip rfl ?_
        refine RW.skip rfl ?_
        refine RW.skip rfl ?_
        refine RW.want rfl ?_
        refine OpK.pick rfl ?_
        refine RW.z ?_
        show CWL _ _ _ _ _ _
        refine CWL.condF rfl ?_
        simp only [flat, List.cons_append, List.nil_append, List.append_nil]
        refine CWL.cons (CW.exit ?_)
        exact ⟨rfl, _, rfl, by rw [← hdw]; exact hs⟩
      | cons x rest =>
        obtain ⟨a', rfl, hcl, _, hO⟩ := hs.some_ (by simp)
        have hx0 : wk.cell? (a'.add (0 * 1)) = some (bv x) := hO 0 x rfl
        cases hsp : Lib.isSp x with
        | false =>
          refine CWL.cons (CW.region ?_)
          refine RW.want rfl ?_
          refine OpK.move ?_
          refine RW.want rfl ?_
          refine OpK.len (e := 5) (by kernel_rfl) rfl ?_
          refine RW.want rfl ?_
          refine OpK.cmp (r := true) (a := ((x :: rest).length : Int)) (b := 0) (by simp [cmpB] <;> omega) rfl rfl ?_
          refine RW.want rfl ?_
          refine OpK.move ?_
          refine RW.want rfl ?_
          refine OpK.move ?_
          refine RW.want rfl ?_
          refine OpK.indexAddr (s := 1) (j := 0) (by kernel_rfl) rfl rfl (by simp) ?_
          refine RW.want rfl ?_
          refine OpK.load (by kernel_rfl) rfl (hx0) ?_
          refine RW.want rfl ?_
          refine OpK.asCall rfl call24 rfl ((blank wk x).mono ?_)
          rintro en w1 ⟨v, he, rfl, hw1⟩
          rw [hsp] at he
          rw [hw1]
          refine ⟨_, he, ?_⟩
          refine RW.want rfl ?_
          refine OpK.pick rfl ?_
          refine RW.z ?_
          show CWL _ _ _ _ _ _
          refine CWL.condF rfl ?_
          simp only [flat, List.cons_append, List.nil_append, List.append_nil]
          refine CWL.cons (CW.exit ?_)
          refine ⟨rfl, _, rfl, ?_⟩
          rw [← hdw, List.dropWhile_cons, if_neg (by rw [hsp]; decide)]
          exact hs
        | true =>
          refine CWL.cons (CW.region ?_)
          refine RW.want rfl ?_
          refine OpK.move ?_
          refine RW.want rfl ?_
          refine OpK.len (e := 5) (by kernel_rfl) rfl ?_
          refine RW.want rfl ?_
          refine OpK.cmp (r := true) (a := ((x :: rest).length : Int)) (b := 0) (by simp [cmpB] <;> omega) rfl rfl ?_
          refine RW.want rfl ?_
          refine OpK.move ?_
          refine RW.want rfl ?_
          refine OpK.move ?_
          refine RW.want rfl ?_
          refine OpK.indexAddr (s := 1) (j := 0) (by kernel_rfl) rfl rfl (by simp) ?_
          refine RW.want rfl ?_
          refine OpK.load (by kernel_rfl) rfl (hx0) ?_
          refine RW.want rfl ?_
          refine OpK.asCall rfl call24 rfl ((blank wk x).mono ?_)
          rintro en w1 ⟨v, he, rfl, hw1⟩
          rw [hsp] at he
          rw [hw1]
          refine ⟨_, he, ?_⟩
          refine RW.want rfl ?_
          refine OpK.pick rfl ?_
          refine RW.z ?_
          show CWL _ _ _ _ _ _
          refine CWL.condT rfl ?_
          simp only [flat, List.cons_append, List.nil_append, List.append_nil]
          refine CWL.block ?_
          simp only [flat, List.cons_append, List.nil_append, List.append_nil]
          refine CWL.reg (ops := [(.slice 26 (.tmp 6) (some (.const (Go.Value.int Go.IntKind.i64 1))) none none, 26)]) (b := [(3, 1), (47, 1), (46, 6)]) (by kernel_rfl) ?_
          refine OpK.sliceFrom (e := 5) (j := 1) und (by kernel_rfl) rfl rfl (by simp) hcl ?_
          show CWL _ _ _ _ _ _
          try refine CWL.nil_ (P := Tryd.prog) (n := 0) ?_
          have hd := hs.drop (j := 1) (by simp)
          rw [List.dropWhile_cons, if_pos hsp] at hdw
          simp only [List.length_cons] at hm hle hd ⊢
          exact ⟨m - 1, by omega, rest, _, by omega, by omega, rfl, rfl, hd, hdw⟩
    rintro σ w3 ⟨rfl, d3, e3, hs3⟩
    simp only [List.drop_succ_cons, List.drop_zero]
    generalize hC : B.dropWhile Lib.isSp = C at hs3
    have hlC : C.length ≤ B.length := by rw [← hC]; exact drop_len _
    -- behind
    refine CWL.joinN 1 (fun σ' w' => w' = w3 ∧ ∃ d', σ' 3 = d' ∧ SrcIs w3 (fun _ => True) (C.reverse.dropWhile Lib.isSp).reverse d') ?_ ?_
    · simp only [List.take_succ_cons, List.take_zero]
      refine CWL.cons (CW.block (CW.loop (fun m σ wk => ∃ cur d', cur.length = m ∧ cur.length ≤ C.length ∧ wk = w3 ∧ σ 3 = d' ∧ SrcIs w3 (fun _ => True) cur d' ∧ (cur.reverse.dropWhile Lib.isSp).reverse = (C.reverse.dropWhile Lib.isSp).reverse) C.length ⟨C, d3, rfl, Nat.le_refl _, rfl, e3, hs3, rfl⟩ ?_))
      rintro m σ wk ⟨cur, d', hm, hle, rfl, e3, hs, hdw⟩
      obtain ⟨a, cc, rfl, hcc⟩ := hs.form
      refine CW.pin [(3, .slice a cur.length cc)] (all_pin e3 (fun _ h => by cases h)) fun σ => ?_
      simp only [flat, List.cons_append, List.nil_append, List.append_nil]
      by_cases h0 : cur.length = 0
      · have h00 : cur = [] := List.eq_nil_of_length_eq_zero h0
        refine CWL.cons (CW.region ?_)
        refine RW.want rfl ?_
        refine OpK.move ?_
        refine RW.want rfl ?_
        refine OpK.len (e := 5) (by kernel_rfl) rfl ?_
        refine RW.want rfl ?_
        refine OpK.cmp (r := false) (a := (cur.length : Int)) (b := 0) (by simp [cmpB, h0]) rfl rfl ?_
        refine RW.want rfl ?_
        refine OpK.move ?_
        refine RW.skip rfl ?_
        refine RW.skip rfl ?_
        refine RW.skip rfl ?_
        refine RW.skip rfl ?_
        refine RW.skip rfl ?_
        refine RW.skip rfl ?_
        refine RW.skip rfl ?_
        refine RW.want rfl ?_
        refine OpK.pick rfl ?_
        refine RW.z ?_
        show CWL _ _ _ _ _ _
        refine CWL.condF rfl ?_
        simp only [flat, List.cons_append, List.nil_append, List.append_nil]
        refine CWL.cons (CW.exit ?_)
        refine ⟨rfl, _, rfl, ?_⟩
        rw [← hdw, h00]
        rw [h00] at hs
        exact hs
      · obtain ⟨a', rfl, hcl, _, hO⟩ := hs.some_ (head_ne (by omega))
        have hne : cur ≠ [] := head_ne (by omega)
        obtain ⟨x, hx⟩ : ∃ x, cur.getLast? = some x := by
          cases hg : cur.getLast? with
          | none => exact absurd (List.getLast?_eq_none_iff.1 hg) hne
          | some x => exact ⟨x, rfl⟩
        have hxi : cur[cur.length - 1]? = some x := by rw [← hx, List.getLast?_eq_getElem?]
        have hxc : wk.cell? (a'.add ((cur.length - 1) * 1)) = some (bv x) := by rw [Nat.mul_one]; exact hO _ x hxi
        have hsub : IntKind.i64.wrap ((cur.length : Int) - 1) = ((cur.length - 1 : Nat) : Int) := by rw [IntKind.wrap_i64]; omega
        cases hsp : Lib.isSp x with
        | false =>
          refine CWL.cons (CW.region ?_)
          refine RW.want rfl ?_
          refine OpK.move ?_
          refine RW.want rfl ?_
          refine OpK.len (e := 5) (by kernel_rfl) rfl ?_
          refine RW.want rfl ?_
          refine OpK.cmp (r := true) (a := (cur.length : Int)) (b := 0) (by simp [cmpB] <;> omega) rfl rfl ?_
          refine RW.want rfl ?_
          refine OpK.move ?_
          refine RW.want rfl ?_
          refine OpK.move ?_
          refine RW.want rfl ?_
          refine OpK.move ?_
          refine RW.want rfl ?_
          refine OpK.len (e := 5) (by kernel_rfl) rfl ?_
          refine RW.want rfl ?_
          refine OpK.arith (r := ((cur.length - 1 : Nat) : Int)) (by rw [← hsub]; rfl) rfl rfl ?_
          refine RW.want rfl ?_
          refine OpK.indexAddr (s := 1) (j := cur.length - 1) (by kernel_rfl) rfl rfl (by omega) ?_
          refine RW.want rfl ?_
          refine OpK.load (by kernel_rfl) rfl (hxc) ?_
          refine RW.want rfl ?_
          refine OpK.asCall rfl call24 rfl ((blank wk x).mono ?_)
          rintro en w1 ⟨v, he, rfl, hw1⟩
          rw [hsp] at he
          rw [hw1]
          refine ⟨_, he, ?_⟩
          refine RW.want rfl ?_
          refine OpK.pick rfl ?_
          refine RW.z ?_
          show CWL _ _ _ _ _ _
          refine CWL.condF rfl ?_
          simp only [flat, List.cons_append, List.nil_append, List.append_nil]
          refine CWL.cons (CW.exit ?_)
          refine ⟨rfl, _, rfl, ?_⟩
          rw [← hdw, trim_stop hx hsp]
          exact hs
        | true =>
          refine CWL.cons (CW.region ?_)
          refine RW.want rfl ?_
          refine OpK.move ?_
          refine RW.want rfl ?_
          refine OpK.len (e := 5) (by kernel_rfl) rfl ?_
          refine RW.want rfl ?_
          refine OpK.cmp (r := true) (a := (cur.length : Int)) (b := 0) (by simp [cmpB] <;> omega) rfl rfl ?_
          refine RW.want rfl ?_
          refine OpK.move ?_
          refine RW.want rfl ?_
          refine OpK.move ?_
          refine RW.want rfl ?_
          refine OpK.move ?_
          refine RW.want rfl ?_
          refine OpK.len (e := 5) (by kernel_rfl) rfl ?_
          refine RW.want rfl ?_
          refine OpK.arith (r := ((cur.length - 1 : Nat) : Int)) (by rw [← hsub]; rfl) rfl rfl ?_
          refine RW.want rfl ?_
          refine OpK.indexAddr (s := 1) (j := cur.length - 1) (by kernel_rfl) rfl rfl (by omega) ?_
          refine RW.want rfl ?_
          refine OpK.load (by kernel_rfl) rfl (hxc) ?_
          refine RW.want rfl ?_
          refine OpK.asCall rfl call24 rfl ((blank wk x).mono ?_)
          rintro en w1 ⟨v, he, rfl, hw1⟩
          rw [hsp] at he
          rw [hw1]
          refine ⟨_, he, ?_⟩
          refine RW.want rfl ?_
          refine OpK.pick rfl ?_
          refine RW.z ?_
          show CWL _ _ _ _ _ _
          refine CWL.condT rfl ?_
          simp only [flat, List.cons_append, List.nil_append, List.append_nil]
          refine CWL.block ?_
          simp only [flat, List.cons_append, List.nil_append, List.append_nil]
          refine CWL.reg (ops := [(.call ⟨.builtin .len, #[.tmp 6], #[26]⟩, 3), (.binOp .sub 3 (.tmp 1) (.const (Go.Value.int Go.IntKind.i64 1)) 3, 3), (.slice 26 (.tmp 6) none (some (.tmp 3)) none, 26)]) (b := [(3, 5), (64, 5), (63, 3), (62, 1), (61, 6), (60, 6)]) (by kernel_rfl) ?_
          refine OpK.len (e := 5) (by kernel_rfl) rfl ?_
          refine OpK.arith (r := ((cur.length - 1 : Nat) : Int)) (by rw [← hsub]; rfl) rfl rfl ?_
          refine OpK.sliceTo (e := 5) (s := 1) (j := cur.length - 1) und (by kernel_rfl) rfl rfl (by omega) ?_
          show CWL _ _ _ _ _ _
          try refine CWL.nil_ (P := Tryd.prog) (n := 0) ?_
          have hsp' : SrcIs wk (fun _ => True) (cur.take (cur.length - 1)) (.slice (some a') (cur.length - 1) cc) := by
            rcases hs with ⟨h, _⟩ | ⟨a2, c2, q1, q2, q3, q4, q5⟩
            · cases h
            · cases q1
              refine .inr ⟨a', cc, by rw [List.length_take, Nat.min_eq_left (by omega)], by rw [List.length_take]; omega, ⟨q3.1, by rw [List.length_take]; omega⟩, trivial, fun i u hu => ?_⟩
              rw [List.getElem?_take] at hu
              split at hu
              · exact q5 i u hu
              · cases hu
          exact ⟨m - 1, by omega, cur.take (cur.length - 1), _, by rw [List.length_take]; omega, by rw [List.length_take]; omega, rfl, rfl, hsp', by rw [← trim_end hne hx hsp]; exact hdw⟩
    rintro σ w4 ⟨rfl, d4, e3, hs4⟩
    simp only [List.drop_succ_cons, List.drop_zero]
    refine CWL.pinT [(3, d4)] (all_pin e3 (fun _ h => by cases h)) fun σ => ?_
    refine CWL.reg (ops := [(.convert 26 9 (.tmp 6), 9)]) (b := [(2, 1), (66, 1), (65, 6)]) (by kernel_rfl) ?_
    refine OpK.bytesStr und undU8 undS rfl hs4 ?_
    show CWL _ _ _ _ _ _
    refine CWL.ret ?_
    refine ⟨_, rfl, ?_, hg.new_ch⟩
    unfold normN Lib.trimSpace
    rw [hB, hC]
    rfl

end Go.Proofs.YtagmcjolgfkcaaaDoor.Txt
