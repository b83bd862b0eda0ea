/- The laws of words. -/
import Derived.Test.YtagmcjolgfkcaaaDoorKxTxtY
namespace Go.Proofs.YtagmcjolgfkcaaaDoor.Txt
open Go.Kx Go.RowKit Go.Proofs
set_option maxRecDepth 100000
set_option linter.unusedVariables false
set_option linter.unusedSimpArgs false

theorem undB : Tryd.prog.underlying 4 = some .bool := by kernel_rfl
theorem call8 : Callable Tryd.prog 8 := ⟨Tryd.f8, Tryd.func8, by kernel_rfl, by kernel_rfl⟩
set_option maxHeartbeats 4000000 in
theorem parsed (w : World) (T : List (Int × List UInt8)) (v : Value) (l : List UInt8) (hv : NamesAt w T v) (hl : l.length ≤ 2147483648) (hT : T.length ≤ 1000 ∧ ∀ e ∈ T, e.2.length ≤ 1000) :
    Calls Tryd.prog 8 #[v, strV l, .int .i64 ((lookN T l).getD 0), .bool (lookN T l).isSome] w fun en w' => ∃ x, en = .returned x ∧ x = .bool true ∧ Ch Old w w' := by
  refine Calls.of_CW Tryd.func8 rfl (by decide +kernel) (Nat.le_of_ble_eq_true (by kernel_rfl)) (CW.of_flat ?_)
  simp only [flat, List.cons_append, List.nil_append, List.append_nil]
  refine CWL.reg (ops := [(.assign (.const (Go.Value.bool false)), 4)]) (b := [(8, 1)]) (by kernel_rfl) ?_
  refine OpK.assign ?_
  show CWL _ _ _ _ _ _
  refine CWL.reg (ops := [(.call ⟨.value (.func 19), #[.tmp 0, .tmp 2], #[28, 9]⟩, 23), (.extract (.tmp 1) 0, 3), (.extract (.tmp 1) 1, 4)]) (b := [(10, 5), (9, 3), (16, 5), (15, 3), (11, 1), (14, 1), (13, 2), (12, 0)]) (by kernel_rfl) ?_
  refine OpK.asCall rfl call19 rfl ((parsedN w T v l hv hl hT).mono ?_)
  rintro en w1 ⟨x, he, rfl, hc1⟩
  refine ⟨_, he, ?_⟩
  refine OpK.extract rfl rfl ?_
  refine OpK.extract rfl rfl ?_
  show CWL _ _ _ _ _ _
  cases lookN T l with
  | none =>
    refine CWL.cons (CW.region ?_)
    refine RW.want rfl ?_
    refine OpK.move ?_
    refine RW.want rfl ?_
    refine OpK.move ?_
    refine RW.want rfl ?_
    refine OpK.eqBo (a := false) (b := false) undB rfl rfl ?_
    refine RW.want rfl ?_
    refine OpK.move ?_
    refine RW.want rfl ?_
    refine OpK.move ?_
    refine RW.want rfl ?_
    refine OpK.not rfl ?_
    refine RW.want rfl ?_
    refine OpK.move ?_
    refine RW.skip rfl ?_
    refine RW.skip rfl ?_
    refine RW.skip rfl ?_
    refine RW.want rfl ?_
    refine OpK.pick rfl ?_
    refine RW.want rfl ?_
    refine OpK.pick rfl ?_
    refine RW.want rfl ?_
    refine OpK.assign ?_
    refine RW.z ?_
    refine CWL.ret ?_
    exact ⟨_, rfl, rfl, hc1⟩
  | some n =>
    refine CWL.cons (CW.region ?_)
    refine RW.want rfl ?_
    refine OpK.move ?_
    refine RW.want rfl ?_
    refine OpK.move ?_
    refine RW.want rfl ?_
    refine OpK.eqBo (a := true) (b := true) undB rfl rfl ?_
    refine RW.want rfl ?_
    refine OpK.move ?_
    refine RW.want rfl ?_
    refine OpK.move ?_
    refine RW.want rfl ?_
    refine OpK.not rfl ?_
    refine RW.want rfl ?_
    refine OpK.move ?_
    refine RW.want rfl ?_
    refine OpK.move ?_
    refine RW.want rfl ?_
    refine OpK.move ?_
    refine RW.want rfl ?_
    refine OpK.cmp (r := true) (a := n) (b := n) (by simp [cmpB]) rfl rfl ?_
    refine RW.want rfl ?_
    refine OpK.pick rfl ?_
    refine RW.want rfl ?_
    refine OpK.pick rfl ?_
    refine RW.want rfl ?_
    refine OpK.assign ?_
    refine RW.z ?_
    refine CWL.ret ?_
    exact ⟨_, rfl, rfl, hc1⟩

/-! ### The law of parsing -/
theorem call3 : Callable Tryd.prog 3 := ⟨Tryd.f3, Tryd.func3, by kernel_rfl, by kernel_rfl⟩
theorem smallT : (NConfigResourceType.length ≤ 1000 ∧ ∀ e ∈ NConfigResourceType, e.2.length ≤ 1000) ∧ (NACLResourceType.length ≤ 1000 ∧ ∀ e ∈ NACLResourceType, e.2.length ≤ 1000) := by decide
set_option maxHeartbeats 4000000 in
theorem lawParse (w : World) (l : List UInt8) (ht : Tab w) : Calls Tryd.prog 3 #[strV l] w fun en w' => ∃ x, en = .returned x ∧ x = .bool true ∧ Ch Old w w' := by
  refine Calls.of_CW Tryd.func3 rfl (by decide +kernel) (Nat.le_of_ble_eq_true (by kernel_rfl)) (CW.of_flat ?_)
  simp only [flat, List.cons_append, List.nil_append, List.append_nil]
  refine CWL.reg (ops := [(.assign (.const (Go.Value.bool false)), 4)]) (b := [(2, 1)]) (by kernel_rfl) ?_
  refine OpK.assign ?_
  show CWL _ _ _ _ _ _
  refine CWL.reg (ops := [(.call ⟨.builtin .len, #[.tmp 0], #[9]⟩, 3), (.binOp .gtr 3 (.tmp 1) (.const (Go.Value.int Go.IntKind.i64 2147483647)) 3, 4)]) (b := [(9, 3), (8, 1), (7, 0)]) (by kernel_rfl) ?_
  refine OpK.lenS (by kernel_rfl) rfl ?_
  refine OpK.cmp rfl rfl rfl ?_
  show CWL _ _ _ _ _ _
  by_cases hbig : (l.length : Int) > 2147483647
  · refine CWL.condT (congrArg Value.bool (decide_eq_true hbig)) ?_
    simp only [flat, List.cons_append, List.nil_append, List.append_nil]
    refine CWL.reg (ops := [(.assign (.const (Go.Value.bool true)), 4)]) (b := [(2, 1)]) (by kernel_rfl) ?_
    refine OpK.assign ?_
    show CWL _ _ _ _ _ _
    refine CWL.ret ?_
    exact ⟨_, rfl, rfl, Ch.refl _ _⟩
  refine CWL.condF (congrArg Value.bool (decide_eq_false hbig)) ?_
  simp only [flat, List.cons_append, List.nil_append, List.append_nil]
  refine CWL.reg (ops := [(.call ⟨.value (.func 5), #[.tmp 0], #[9]⟩, 4), (.unOp .not 4 (.tmp 1), 4)]) (b := [(12, 3), (11, 1), (10, 0)]) (by kernel_rfl) ?_
  refine OpK.asCall rfl call5 rfl ((plain w l (by omega)).mono ?_)
  rintro en w1 ⟨x, he, ⟨p, rfl, hp⟩, hc1⟩
  refine ⟨_, he, ?_⟩
  refine OpK.not rfl ?_
  show CWL _ _ _ _ _ _
  cases p with
  | false =>
    refine CWL.condT rfl ?_
    simp only [flat, List.cons_append, List.nil_append, List.append_nil]
    refine CWL.reg (ops := [(.assign (.const (Go.Value.bool true)), 4)]) (b := [(2, 1)]) (by kernel_rfl) ?_
    refine OpK.assign ?_
    show CWL _ _ _ _ _ _
    refine CWL.ret ?_
    exact ⟨_, rfl, rfl, hc1⟩
  | true =>
    obtain ⟨h200, ha⟩ := hp rfl
    refine CWL.condF rfl ?_
    simp only [flat, List.cons_append, List.nil_append, List.append_nil]
    refine CWL.reg (ops := [(.call ⟨.value (.func 6), #[.tmp 0], #[9]⟩, 23), (.extract (.tmp 1) 0, 3), (.extract (.tmp 1) 1, 4)]) (b := [(4, 5), (3, 3), (17, 5), (16, 3), (13, 1), (15, 1), (14, 0)]) (by kernel_rfl) ?_
    refine OpK.asCall rfl callI6 rfl ((implParseConfigResourceType w1 l (by omega) ha (tab_keep ht hc1)).mono ?_)
    rintro en w2 ⟨x, he, rfl, hc2⟩
    refine ⟨_, he, ?_⟩
    refine OpK.extract rfl rfl ?_
    refine OpK.extract rfl rfl ?_
    show CWL _ _ _ _ _ _
    have hc02 := hc1.trans' hc2
    refine CWL.reg (ops := [(.convert 9 26 (.tmp 0), 26), (.call ⟨.value (.func 7), #[.tmp 1], #[26]⟩, 23), (.extract (.tmp 3) 0, 3), (.extract (.tmp 3) 1, 4)]) (b := [(6, 7), (5, 5), (23, 7), (22, 5), (18, 3), (21, 3), (20, 1), (19, 0)]) (by kernel_rfl) ?_
    refine OpK.strBytes undS und undU8 rfl (by omega) fun vb w3 hvb hc3 hs3 => ?_
    refine OpK.asCall rfl callO7 rfl ((ofTextConfigResourceType w3 vb l (hvb.monoS fun k hk => by omega) (by omega) ha (tab_keep ht (hc02.trans' hc3))).mono ?_)
    rintro en w4 ⟨x, he, rfl, hc4⟩
    refine ⟨_, he, ?_⟩
    refine OpK.extract rfl rfl ?_
    refine OpK.extract rfl rfl ?_
    show CWL _ _ _ _ _ _
    have hc04 := (hc02.trans' hc3).trans' hc4
    rw [tableConfigResourceType]
    refine CWL.cons (CW.region ?_)
    refine RW.want rfl ?_
    refine OpK.asCall rfl callN9 rfl ((namesConfigResourceType w4).mono ?_)
    rintro en w5 ⟨v5, he, hn5, hc5⟩
    refine ⟨_, he, ?_⟩
    refine RW.want rfl ?_
    refine OpK.move ?_
    refine RW.want rfl ?_
    refine OpK.move ?_
    refine RW.want rfl ?_
    refine OpK.move ?_
    refine RW.want rfl ?_
    refine OpK.asCall rfl call8 rfl ((parsed w5 NConfigResourceType v5 l hn5 (by omega) smallT.1).mono ?_)
    rintro en w6 ⟨x, he, rfl, hc6⟩
    refine ⟨_, he, ?_⟩
    refine RW.want rfl ?_
    refine OpK.move ?_
    refine RW.want rfl ?_
    refine OpK.asCall rfl callN9 rfl ((namesConfigResourceType w6).mono ?_)
    rintro en w7 ⟨v7, he, hn7, hc7⟩
    refine ⟨_, he, ?_⟩
    refine RW.want rfl ?_
    refine OpK.move ?_
    refine RW.want rfl ?_
    refine OpK.move ?_
    refine RW.want rfl ?_
    refine OpK.move ?_
    refine RW.want rfl ?_
    refine OpK.asCall rfl call8 rfl ((parsed w7 NConfigResourceType v7 l hn7 (by omega) smallT.1).mono ?_)
    rintro en w8 ⟨x, he, rfl, hc8⟩
    refine ⟨_, he, ?_⟩
    refine RW.want rfl ?_
    refine OpK.pick rfl ?_
    refine RW.want rfl ?_
    refine OpK.assign ?_
    refine RW.z ?_
    refine CWL.ret ?_
    exact ⟨_, rfl, rfl, (((hc04.trans' hc5).trans' hc6).trans' hc7).trans' hc8⟩

/-! ### Words of values -/
def wordOf (n : Int) : List UInt8 := ((NACLResourceType.find? fun e => e.1 == n).map (·.2)).getD [85, 78, 75, 78, 79, 87, 78]
theorem callS21 : Callable Tryd.prog 21 := ⟨Tryd.f21, Tryd.func21, by kernel_rfl, by kernel_rfl⟩
set_option maxHeartbeats 4000000 in
theorem stringIs (w : World) (n : Int) : Calls Tryd.prog 21 #[.int .i8 n] w fun en w' => ∃ x, en = .returned x ∧ x = strV (wordOf n) ∧ w' = w := by
  refine Calls.of_CW Tryd.func21 rfl (by decide +kernel) (Nat.le_of_ble_eq_true (by kernel_rfl)) (CW.of_flat ?_)
  simp only [flat, List.cons_append, List.nil_append, List.append_nil]
  refine CWL.reg (ops := [(.assign (.const (Go.Value.string {data := #[]})), 9)]) (b := [(2, 1)]) (by kernel_rfl) ?_
  refine OpK.assign ?_
  show CWL _ _ _ _ _ _
  refine CWL.reg (ops := []) (b := [(3, 0)]) (by kernel_rfl) ?_
  show CWL _ _ _ _ _ _
  refine CWL.block ?_
  simp only [flat, List.cons_append, List.nil_append, List.append_nil]
  refine CWL.reg (ops := [(.binOp .eql 48 (.tmp 6) (.const (Go.Value.int Go.IntKind.i8 1)) 48, 4)]) (b := [(4, 1), (5, 1)]) (by kernel_rfl) ?_
  refine OpK.cmp rfl rfl rfl ?_
  show CWL _ _ _ _ _ _
  by_cases h0 : n = 1
  · subst h0
    refine CWL.condT rfl ?_
    simp only [flat, List.cons_append, List.nil_append, List.append_nil]
    refine CWL.reg (ops := [(.assign (.const (Go.Value.string {data := #[65, 78, 89]})), 9)]) (b := [(2, 1)]) (by kernel_rfl) ?_
    refine OpK.assign ?_
    show CWL _ _ _ _ _ _
    refine CWL.ret ?_
    exact ⟨_, rfl, by rw [show wordOf 1 = [65, 78, 89] by decide]; rfl, rfl⟩
  refine CWL.condF (congrArg Value.bool (beq_eq_false_iff_ne.2 h0)) ?_
  simp only [flat, List.cons_append, List.nil_append, List.append_nil]
  refine CWL.reg (ops := [(.binOp .eql 48 (.tmp 6) (.const (Go.Value.int Go.IntKind.i8 2)) 48, 4)]) (b := [(6, 1), (7, 1)]) (by kernel_rfl) ?_
  refine OpK.cmp rfl rfl rfl ?_
  show CWL _ _ _ _ _ _
  by_cases h1 : n = 2
  · subst h1
    refine CWL.condT rfl ?_
    simp only [flat, List.cons_append, List.nil_append, List.append_nil]
    refine CWL.reg (ops := [(.assign (.const (Go.Value.string {data := #[84, 79, 80, 73, 67]})), 9)]) (b := [(2, 1)]) (by kernel_rfl) ?_
    refine OpK.assign ?_
    show CWL _ _ _ _ _ _
    refine CWL.ret ?_
    exact ⟨_, rfl, by rw [show wordOf 2 = [84, 79, 80, 73, 67] by decide]; rfl, rfl⟩
  refine CWL.condF (congrArg Value.bool (beq_eq_false_iff_ne.2 h1)) ?_
  simp only [flat, List.cons_append, List.nil_append, List.append_nil]
  refine CWL.reg (ops := [(.binOp .eql 48 (.tmp 6) (.const (Go.Value.int Go.IntKind.i8 3)) 48, 4)]) (b := [(8, 1), (9, 1)]) (by kernel_rfl) ?_
  refine OpK.cmp rfl rfl rfl ?_
  show CWL _ _ _ _ _ _
  by_cases h2 : n = 3
  · subst h2
    refine CWL.condT rfl ?_
    simp only [flat, List.cons_append, List.nil_append, List.append_nil]
    refine CWL.reg (ops := [(.assign (.const (Go.Value.string {data := #[71, 82, 79, 85, 80]})), 9)]) (b := [(2, 1)]) (by kernel_rfl) ?_
    refine OpK.assign ?_
    show CWL _ _ _ _ _ _
    refine CWL.ret ?_
    exact ⟨_, rfl, by rw [show wordOf 3 = [71, 82, 79, 85, 80] by decide]; rfl, rfl⟩
  refine CWL.condF (congrArg Value.bool (beq_eq_false_iff_ne.2 h2)) ?_
  simp only [flat, List.cons_append, List.nil_append, List.append_nil]
  refine CWL.reg (ops := [(.binOp .eql 48 (.tmp 6) (.const (Go.Value.int Go.IntKind.i8 4)) 48, 4)]) (b := [(10, 1), (11, 1)]) (by kernel_rfl) ?_
  refine OpK.cmp rfl rfl rfl ?_
  show CWL _ _ _ _ _ _
  by_cases h3 : n = 4
  · subst h3
    refine CWL.condT rfl ?_
    simp only [flat, List.cons_append, List.nil_append, List.append_nil]
    refine CWL.reg (ops := [(.assign (.const (Go.Value.string {data := #[67, 76, 85, 83, 84, 69, 82]})), 9)]) (b := [(2, 1)]) (by kernel_rfl) ?_
    refine OpK.assign ?_
    show CWL _ _ _ _ _ _
    refine CWL.ret ?_
    exact ⟨_, rfl, by rw [show wordOf 4 = [67, 76, 85, 83, 84, 69, 82] by decide]; rfl, rfl⟩
  refine CWL.condF (congrArg Value.bool (beq_eq_false_iff_ne.2 h3)) ?_
  simp only [flat, List.cons_append, List.nil_append, List.append_nil]
  refine CWL.reg (ops := [(.binOp .eql 48 (.tmp 6) (.const (Go.Value.int Go.IntKind.i8 5)) 48, 4)]) (b := [(12, 1), (13, 1)]) (by kernel_rfl) ?_
  refine OpK.cmp rfl rfl rfl ?_
  show CWL _ _ _ _ _ _
  by_cases h4 : n = 5
  · subst h4
    refine CWL.condT rfl ?_
    simp only [flat, List.cons_append, List.nil_append, List.append_nil]
    refine CWL.reg (ops := [(.assign (.const (Go.Value.string {data := #[84, 82, 65, 78, 83, 65, 67, 84, 73, 79, 78, 65, 76, 95, 73, 68]})), 9)]) (b := [(2, 1)]) (by kernel_rfl) ?_
    refine OpK.assign ?_
    show CWL _ _ _ _ _ _
    refine CWL.ret ?_
    exact ⟨_, rfl, by rw [show wordOf 5 = [84, 82, 65, 78, 83, 65, 67, 84, 73, 79, 78, 65, 76, 95, 73, 68] by decide]; rfl, rfl⟩
  refine CWL.condF (congrArg Value.bool (beq_eq_false_iff_ne.2 h4)) ?_
  simp only [flat, List.cons_append, List.nil_append, List.append_nil]
  refine CWL.reg (ops := [(.binOp .eql 48 (.tmp 6) (.const (Go.Value.int Go.IntKind.i8 6)) 48, 4)]) (b := [(14, 1), (15, 1)]) (by kernel_rfl) ?_
  refine OpK.cmp rfl rfl rfl ?_
  show CWL _ _ _ _ _ _
  by_cases h5 : n = 6
  · subst h5
    refine CWL.condT rfl ?_
    simp only [flat, List.cons_append, List.nil_append, List.append_nil]
    refine CWL.reg (ops := [(.assign (.const (Go.Value.string {data := #[68, 69, 76, 69, 71, 65, 84, 73, 79, 78, 95, 84, 79, 75, 69, 78]})), 9)]) (b := [(2, 1)]) (by kernel_rfl) ?_
    refine OpK.assign ?_
    show CWL _ _ _ _ _ _
    refine CWL.ret ?_
    exact ⟨_, rfl, by rw [show wordOf 6 = [68, 69, 76, 69, 71, 65, 84, 73, 79, 78, 95, 84, 79, 75, 69, 78] by decide]; rfl, rfl⟩
  refine CWL.condF (congrArg Value.bool (beq_eq_false_iff_ne.2 h5)) ?_
  simp only [flat, List.cons_append, List.nil_append, List.append_nil]
  refine CWL.reg (ops := [(.binOp .eql 48 (.tmp 6) (.const (Go.Value.int Go.IntKind.i8 7)) 48, 4)]) (b := [(16, 1), (17, 1)]) (by kernel_rfl) ?_
  refine OpK.cmp rfl rfl rfl ?_
  show CWL _ _ _ _ _ _
  by_cases h6 : n = 7
  · subst h6
    refine CWL.condT rfl ?_
    simp only [flat, List.cons_append, List.nil_append, List.append_nil]
    refine CWL.reg (ops := [(.assign (.const (Go.Value.string {data := #[85, 83, 69, 82]})), 9)]) (b := [(2, 1)]) (by kernel_rfl) ?_
    refine OpK.assign ?_
    show CWL _ _ _ _ _ _
    refine CWL.ret ?_
    exact ⟨_, rfl, by rw [show wordOf 7 = [85, 83, 69, 82] by decide]; rfl, rfl⟩
  refine CWL.condF (congrArg Value.bool (beq_eq_false_iff_ne.2 h6)) ?_
  simp only [flat, List.cons_append, List.nil_append, List.append_nil]
  refine CWL.reg (ops := [(.assign (.const (Go.Value.string {data := #[85, 78, 75, 78, 79, 87, 78]})), 9)]) (b := [(2, 1)]) (by kernel_rfl) ?_
  refine OpK.assign ?_
  show CWL _ _ _ _ _ _
  refine CWL.ret ?_
  refine ⟨_, rfl, ?_, rfl⟩
  have : wordOf n = [85, 78, 75, 78, 79, 87, 78] := by
    unfold wordOf NACLResourceType
    simp only [List.find?_cons, List.find?_nil, beq_eq_false_iff_ne.2 (Ne.symm h0), beq_eq_false_iff_ne.2 (Ne.symm h1), beq_eq_false_iff_ne.2 (Ne.symm h2), beq_eq_false_iff_ne.2 (Ne.symm h3), beq_eq_false_iff_ne.2 (Ne.symm h4), beq_eq_false_iff_ne.2 (Ne.symm h5), beq_eq_false_iff_ne.2 (Ne.symm h6), Option.map_none, Option.getD_none]
  rw [this]
  rfl
theorem call10 : Callable Tryd.prog 10 := ⟨Tryd.f10, Tryd.func10, by kernel_rfl, by kernel_rfl⟩
def PW (o : Option (List UInt8)) : Value := .tuple #[strV (o.getD []), .bool o.isSome]
def wordN (T : List (Int × List UInt8)) (n : Int) : Option (List UInt8) := (T.find? fun e => e.1 == n).map (·.2)
set_option maxHeartbeats 4000000 in
theorem word (w : World) (T : List (Int × List UInt8)) (v : Value) (n : Int) (hv : NamesAt w T v) (hT : T.length ≤ 1000 ∧ ∀ e ∈ T, e.2.length ≤ 1000) :
    Calls Tryd.prog 10 #[v, .int .i64 n] w fun en w' => ∃ x, en = .returned x ∧ x = PW (wordN T n) ∧ Ch Old w w' := by
  refine Calls.of_CW Tryd.func10 rfl (by decide +kernel) (Nat.le_of_ble_eq_true (by kernel_rfl)) (CW.of_flat ?_)
  simp only [flat, List.cons_append, List.nil_append, List.append_nil]
  obtain ⟨g, c, rfl, hb⟩ := hv
  refine CWL.reg (ops := [(.assign (.const (Go.Value.string {data := #[]})), 9), (.assign (.const (Go.Value.bool false)), 4)]) (b := [(5, 3), (4, 1)]) (by kernel_rfl) ?_
  refine OpK.assign ?_
  refine OpK.assign ?_
  show CWL _ _ _ _ _ _
  refine CWL.reg (ops := [(.call ⟨.builtin .len, #[.tmp 0], #[28]⟩, 3), (.move (.const (Go.Value.int Go.IntKind.i64 0)), 3)]) (b := [(10, 3), (9, 1), (8, 0)]) (by kernel_rfl) ?_
  refine OpK.len (e := 46) (by kernel_rfl) rfl ?_
  refine OpK.move ?_
  show CWL _ _ _ _ _ _
  refine CWL.cons (CW.block (CW.loop (fun m σ wl => ∃ i, m + i = T.length ∧ Ch Old w wl ∧ σ 1 = .int .i64 n ∧ σ 8 = .slice (some ⟨g, 0, none⟩) T.length c ∧ σ 9 = .int .i64 (T.length : Int) ∧ σ 10 = .int .i64 (i : Int) ∧ (∀ e ∈ T.take i, (e.1 == n) = false)) T.length
    ⟨0, by simp, Ch.refl _ _, rfl, rfl, rfl, rfl, by simp⟩ ?_))
  rintro m σ wl ⟨i, hm, hc, e1, e8, e9, e10, hno⟩
  refine CW.pin [(1, .int .i64 n), (8, .slice (some ⟨g, 0, none⟩) T.length c), (9, .int .i64 (T.length : Int)), (10, .int .i64 (i : Int))] (all_pin e1 (all_pin e8 (all_pin e9 (all_pin e10 (fun _ h => by cases h))))) fun σ => ?_
  simp only [flat, List.cons_append, List.nil_append, List.append_nil]
  refine CWL.reg (ops := [(.binOp .lss 3 (.tmp 20) (.tmp 18) 3, 0)]) (b := [(11, 1)]) (by kernel_rfl) ?_
  refine OpK.cmp rfl rfl rfl ?_
  show CWL _ _ _ _ _ _
  by_cases hlt : i < T.length
  · refine CWL.condT (congrArg Value.bool (decide_eq_true (by omega))) ?_
    simp only [flat, List.cons_append, List.nil_append, List.append_nil]
    refine CWL.block ?_
    simp only [flat, List.cons_append, List.nil_append, List.append_nil]
    have he : T[i]? = some T[i] := List.getElem?_eq_getElem hlt
    have hmem : T[i] ∈ T := List.getElem_mem hlt
    generalize T[i] = e at he hmem
    have hbl := hb.keep (hc.block g hb.lt fun h => h)
    have hat := names_at hbl he
    refine CWL.reg (ops := [(.indexAddr 28 (.tmp 16) (.tmp 20), 0), (.load 46 (.tmp 1), 46), (.alloc 46, 0), (.store 46 (.tmp 5) (.tmp 3), 0)]) (b := [(7, 5), (13, 3), (12, 1)]) (by kernel_rfl) ?_
    refine OpK.indexAddr (s := 2) (j := i) (by kernel_rfl) rfl rfl hlt ?_
    refine OpK.loadA (n := 2) aggN rfl hat rfl ?_
    refine OpK.allocZ [.int .i64 0, strV []] zeroN fun w1 q hb1 hc1 hq1 hs1 => ?_
    refine OpK.storeG (cs := [.int .i64 0, strV []]) (us := [.int .i64 e.1, strV e.2]) sizeN rfl rfl (by intro u hu; simp only [List.mem_cons, List.not_mem_nil, or_false] at hu; rcases hu with rfl | rfl <;> rfl) hb1 rfl fun w2 hb2 hc2 hs2 => ?_
    show CWL _ _ _ _ _ _
    have hc02 : Ch Old w w2 := (hc.trans' hc1).trans hc2 fun k hk e => by have := (hc.size); omega
    refine CWL.reg (ops := [(.fieldAddr 46 (.tmp 14) 0, 0), (.load 3 (.tmp 1), 3), (.binOp .eql 3 (.tmp 3) (.tmp 2) 3, 4)]) (b := [(17, 5), (16, 2), (15, 3), (14, 1)]) (by kernel_rfl) ?_
    refine OpK.fieldAddr (off := 0) (by kernel_rfl) rfl ?_
    refine OpK.load (by kernel_rfl) rfl (hb2.cell 0) ?_
    refine OpK.cmp rfl rfl rfl ?_
    show CWL _ _ _ _ _ _
    cases heq : (e.1 == n) with
    | true =>
      refine CWL.condT rfl ?_
      simp only [flat, List.cons_append, List.nil_append, List.append_nil]
      refine CWL.reg (ops := [(.fieldAddr 46 (.tmp 14) 1, 0), (.load 9 (.tmp 1), 9), (.assign (.const (Go.Value.bool true)), 4)]) (b := [(5, 5), (4, 3), (19, 3), (18, 1)]) (by kernel_rfl) ?_
      refine OpK.fieldAddr (off := 1) (by kernel_rfl) rfl ?_
      refine OpK.load (by kernel_rfl) rfl (hb2.cell 1) ?_
      refine OpK.assign ?_
      show CWL _ _ _ _ _ _
      refine CWL.ret ?_
      refine ⟨_, rfl, ?_, hc02⟩
      have hlk : wordN T n = some e.2 := by
        unfold wordN
        obtain ⟨hi', he'⟩ := List.getElem?_eq_some_iff.1 he
        rw [← List.take_append_drop i T, List.find?_append, List.drop_eq_getElem_cons hi', he', List.find?_cons, heq]
        rw [List.find?_eq_none.2 fun y hy => by rw [hno y hy]; decide]
        rfl
      rw [hlk]
      rfl
    | false =>
      refine CWL.condF rfl ?_
      simp only [flat, List.cons_append, List.nil_append, List.append_nil]
      try refine CWL.nil_ (P := Tryd.prog) (n := 0) ?_
      show CWL _ _ _ _ _ _
      have hi1 := i64_succ i (by omega)
      refine CWL.reg (ops := [(.binOp .add 3 (.tmp 20) (.const (Go.Value.int Go.IntKind.i64 1)) 3, 3)]) (b := [(10, 1), (20, 1)]) (by kernel_rfl) ?_
      refine OpK.arith (r := ((i + 1 : Nat) : Int)) (by rw [← hi1]; rfl) rfl rfl ?_
      show CWL _ _ _ _ _ _
      try refine CWL.nil_ (P := Tryd.prog) (n := 0) ?_
      refine ⟨m - 1, by omega, i + 1, by omega, hc02, rfl, rfl, rfl, rfl, fun y hy => ?_⟩
      rw [List.take_add_one, he] at hy
      rcases List.mem_append.1 hy with hy | hy
      · exact hno y hy
      · simp only [Option.toList_some, List.mem_singleton] at hy
        rw [hy]; exact heq
  · refine CWL.condF (congrArg Value.bool (decide_eq_false (by omega))) ?_
    simp only [flat, List.cons_append, List.nil_append, List.append_nil]
    refine CWL.cons (CW.exit ?_)
    show CWL _ _ _ _ _ _
    refine CWL.reg (ops := [(.assign (.const (Go.Value.string {data := #[]})), 9), (.assign (.const (Go.Value.bool false)), 4)]) (b := [(5, 3), (4, 1)]) (by kernel_rfl) ?_
    refine OpK.assign ?_
    refine OpK.assign ?_
    show CWL _ _ _ _ _ _
    refine CWL.ret ?_
    refine ⟨_, rfl, ?_, hc⟩
    rw [List.take_of_length_le (by omega)] at hno
    have hlk : wordN T n = none := by
      unfold wordN
      rw [List.find?_eq_none.2 fun y hy => by rw [hno y hy]; decide]
      rfl
    rw [hlk]
    rfl

theorem callM20 : Callable Tryd.prog 20 := ⟨Tryd.f20, Tryd.func20, by kernel_rfl, by kernel_rfl⟩
theorem word_len (n : Int) : (wordOf n).length ≤ 1000 := by
  unfold wordOf
  cases h : NACLResourceType.find? fun e => e.1 == n with
  | none => decide
  | some e => exact smallT.2.2 e (List.mem_of_find?_eq_some h)
set_option maxHeartbeats 4000000 in
theorem marshal (w : World) (n : Int) : Calls Tryd.prog 20 #[.int .i8 n] w fun en w' => ∃ x, en = .returned x ∧ (∃ d, x = .tuple #[d, .nilIface] ∧ SrcIs w' (fun k => k < w'.heap.size) (wordOf n) d) ∧ Ch Old w w' := by
  refine Calls.of_CW Tryd.func20 rfl (by decide +kernel) (Nat.le_of_ble_eq_true (by kernel_rfl)) (CW.of_flat ?_)
  simp only [flat, List.cons_append, List.nil_append, List.append_nil]
  refine CWL.reg (ops := [(.assign (.const (Go.Value.slice none 0 0)), 26), (.assign (.const (Go.Value.nilIface)), 40)]) (b := [(3, 3), (2, 1)]) (by kernel_rfl) ?_
  refine OpK.assign ?_
  refine OpK.assign ?_
  show CWL _ _ _ _ _ _
  refine CWL.reg (ops := [(.call ⟨.value (.func 21), #[.tmp 0], #[48]⟩, 9), (.convert 9 26 (.tmp 1), 26), (.assign (.const (Go.Value.nilIface)), 40)]) (b := [(3, 5), (2, 3), (6, 3), (5, 1), (4, 0)]) (by kernel_rfl) ?_
  refine OpK.asCall rfl callS21 rfl ((stringIs w n).mono ?_)
  rintro en w1 ⟨x, he, rfl, hw1⟩
  rw [hw1]
  refine ⟨_, he, ?_⟩
  refine OpK.strBytes undS und undU8 rfl (by have := word_len n; omega) fun vb w3 hvb hc3 hs3 => ?_
  refine OpK.assign ?_
  show CWL _ _ _ _ _ _
  refine CWL.ret ?_
  exact ⟨_, rfl, ⟨_, rfl, hvb.monoS fun k hk => by omega⟩, hc3⟩
theorem callT12 : Callable Tryd.prog 12 := ⟨Tryd.f12, Tryd.func12, by kernel_rfl, by kernel_rfl⟩
set_option maxHeartbeats 4000000 in
theorem textIs (w : World) (n : Int) : Calls Tryd.prog 12 #[.int .i8 n] w fun en w' => ∃ x, en = .returned x ∧ (∃ d, x = .tuple #[d, .bool true] ∧ SrcIs w' (fun k => k < w'.heap.size) (wordOf n) d) ∧ Ch Old w w' := by
  refine Calls.of_CW Tryd.func12 rfl (by decide +kernel) (Nat.le_of_ble_eq_true (by kernel_rfl)) (CW.of_flat ?_)
  simp only [flat, List.cons_append, List.nil_append, List.append_nil]
  obtain ⟨ms, hms⟩ := undE
  refine CWL.reg (ops := [(.assign (.const (Go.Value.slice none 0 0)), 26), (.assign (.const (Go.Value.bool false)), 4)]) (b := [(3, 3), (2, 1)]) (by kernel_rfl) ?_
  refine OpK.assign ?_
  refine OpK.assign ?_
  show CWL _ _ _ _ _ _
  refine CWL.reg (ops := [(.call ⟨.value (.func 20), #[.tmp 0], #[48]⟩, 47), (.extract (.tmp 1) 0, 26), (.extract (.tmp 1) 1, 40)]) (b := [(5, 5), (4, 3), (10, 5), (9, 3), (6, 1), (8, 1), (7, 0)]) (by kernel_rfl) ?_
  refine OpK.asCall rfl callM20 rfl ((marshal w n).mono ?_)
  rintro en w1 ⟨x, he, ⟨d, rfl, hd⟩, hc1⟩
  refine ⟨_, he, ?_⟩
  refine OpK.extract rfl rfl ?_
  refine OpK.extract rfl rfl ?_
  show CWL _ _ _ _ _ _
  obtain ⟨a, c, rfl, hac⟩ := hd.form
  have hwl := word_len n
  obtain ⟨d2, w2, hr2, hg2⟩ := run_append_oct (P := Tryd.prog) (ty := 26) (t := 26) u8 und (Own.nil _ w1.drew) (a := a) (l := wordOf n) (c := c) hd.nilA hd.octA (by simp only [List.length_nil, Lim]; omega)
  rw [List.nil_append] at hg2
  have hc2 := (Ch.drew Old w1).trans' hg2.new_ch
  refine CWL.regD0 mixed [(0, true), (2, true), (3, true), (1, false), (4, true), (5, true)] (by decide +kernel) ?_
  refine HW.early rfl rfl (Yi.move) ?_
  refine HW.early rfl rfl (Yi.move) ?_
  refine HW.early rfl rfl (Yi.cmpNilT hms rfl rfl) ?_
  refine HW.next rfl rfl ?_
  refine OpK.run rfl hr2 ?_
  refine ⟨hc2, ?_⟩
  refine HW.early rfl rfl (Yi.assign) ?_
  refine HW.early rfl rfl (Yi.assign) ?_
  refine HW.done ?_
  refine CWL.ret ?_
  refine ⟨_, rfl, ⟨_, rfl, ?_⟩, hc1.trans' hc2⟩
  exact hg2.own.srcB (by omega)
theorem callG13 : Callable Tryd.prog 13 := ⟨Tryd.f13, Tryd.func13, by kernel_rfl, by kernel_rfl⟩
theorem implString (w : World) (n : Int) : Calls Tryd.prog 13 #[.int .i8 n] w fun en w' => ∃ x, en = .returned x ∧ x = strV (wordOf n) ∧ w' = w := by
  refine Calls.of_CW Tryd.func13 rfl (by decide +kernel) (Nat.le_of_ble_eq_true (by kernel_rfl)) (CW.of_flat ?_)
  simp only [flat, List.cons_append, List.nil_append, List.append_nil]
  refine CWL.reg (ops := [(.assign (.const (Go.Value.string {data := #[]})), 9)]) (b := [(2, 1)]) (by kernel_rfl) ?_
  refine OpK.assign ?_
  show CWL _ _ _ _ _ _
  refine CWL.reg (ops := [(.call ⟨.value (.func 21), #[.tmp 0], #[48]⟩, 9)]) (b := [(2, 1), (4, 1), (3, 0)]) (by kernel_rfl) ?_
  refine OpK.asCall rfl callS21 rfl ((stringIs w n).mono ?_)
  rintro en w1 ⟨x, he, rfl, hw1⟩
  rw [hw1]
  refine ⟨_, he, ?_⟩
  show CWL _ _ _ _ _ _
  refine CWL.ret ?_
  exact ⟨_, rfl, rfl, rfl⟩

/-! ### The law of words -/
theorem call4 : Callable Tryd.prog 4 := ⟨Tryd.f4, Tryd.func4, by kernel_rfl, by kernel_rfl⟩
theorem back (n : Int) (x : List UInt8) (h : wordN NACLResourceType n = some x) : wordOf n = x ∧ lookN NACLResourceType x = some n ∧ Asc x ∧ x.length ≤ 1000 ∧ 0 ≤ n ∧ n < 128 := by
  unfold wordN at h
  obtain ⟨e, he, rfl⟩ := Option.map_eq_some_iff.1 h
  have hn := List.find?_some he
  simp only [beq_iff_eq] at hn
  have hm := List.mem_of_find?_eq_some he
  subst hn
  refine ⟨by unfold wordOf; rw [he]; rfl, ?_⟩
  have hall : ∀ e ∈ NACLResourceType, lookN NACLResourceType e.2 = some e.1 ∧ (∀ b ∈ e.2, b.toNat < 128) ∧ e.2.length ≤ 1000 ∧ 0 ≤ e.1 ∧ e.1 < 128 := by decide
  exact hall e hm
set_option maxHeartbeats 4000000 in
theorem lawText (w : World) (n : Int) (hn : -128 ≤ n ∧ n < 128) (ht : Tab w) : Calls Tryd.prog 4 #[.int .i8 n] w fun en w' => ∃ x, en = .returned x ∧ x = .bool true ∧ Ch Old w w' := by
  refine Calls.of_CW Tryd.func4 rfl (by decide +kernel) (Nat.le_of_ble_eq_true (by kernel_rfl)) (CW.of_flat ?_)
  simp only [flat, List.cons_append, List.nil_append, List.append_nil]
  have hw64 : IntKind.i64.wrap n = n := by rw [IntKind.wrap_i64]; omega
  refine CWL.reg (ops := [(.assign (.const (Go.Value.bool false)), 4)]) (b := [(2, 1)]) (by kernel_rfl) ?_
  refine OpK.assign ?_
  show CWL _ _ _ _ _ _
  refine CWL.reg (ops := [(.call ⟨.value (.func 11), #[], #[]⟩, 28), (.convert 30 3 (.tmp 0), 3), (.call ⟨.value (.func 10), #[.tmp 1, .tmp 3], #[28, 3]⟩, 31), (.extract (.tmp 5) 0, 9), (.extract (.tmp 5) 1, 4)]) (b := [(4, 9), (3, 7), (17, 9), (16, 7), (11, 5), (15, 5), (14, 3), (13, 0), (12, 1)]) (by kernel_rfl) ?_
  refine OpK.asCall rfl callN11 rfl ((namesACLResourceType w).mono ?_)
  rintro en w1 ⟨v1, he, hn1, hc1⟩
  refine ⟨_, he, ?_⟩
  refine OpK.convInt (k := .i8) (k' := .i64) (n := n) (by kernel_rfl) (by kernel_rfl) rfl ?_
  rw [hw64]
  refine OpK.asCall rfl call10 rfl ((word w1 NACLResourceType v1 n hn1 smallT.2).mono ?_)
  rintro en w2 ⟨x, he, rfl, hc2⟩
  refine ⟨_, he, ?_⟩
  refine OpK.extract rfl rfl ?_
  refine OpK.extract rfl rfl ?_
  show CWL _ _ _ _ _ _
  have hc02 := hc1.trans' hc2
  refine CWL.pinT [(0, .int .i8 n), (3, strV ((wordN NACLResourceType n).getD [])), (4, .bool (wordN NACLResourceType n).isSome)] (all_pinE rfl (all_pinE rfl (all_pinE rfl (fun _ h => by cases h)))) fun σ => ?_
  refine CWL.reg (ops := [(.unOp .not 4 (.tmp 8), 4)]) (b := [(19, 1), (18, 8)]) (by kernel_rfl) ?_
  refine OpK.not rfl ?_
  show CWL _ _ _ _ _ _
  cases hwn : wordN NACLResourceType n with
  | none =>
    refine CWL.condT rfl ?_
    simp only [flat, List.cons_append, List.nil_append, List.append_nil]
    refine CWL.reg (ops := [(.assign (.const (Go.Value.bool true)), 4)]) (b := [(2, 1)]) (by kernel_rfl) ?_
    refine OpK.assign ?_
    show CWL _ _ _ _ _ _
    refine CWL.ret ?_
    exact ⟨_, rfl, rfl, hc02⟩
  | some x =>
    obtain ⟨hx1, hx2, hx3, hx4, hx5⟩ := back n x hwn
    refine CWL.condF rfl ?_
    simp only [flat, List.cons_append, List.nil_append, List.append_nil]
    refine CWL.reg (ops := [(.call ⟨.value (.func 12), #[.tmp 0], #[30]⟩, 33), (.extract (.tmp 1) 0, 26), (.extract (.tmp 1) 1, 4)]) (b := [(6, 5), (5, 3), (24, 5), (23, 3), (20, 1), (22, 1), (21, 0)]) (by kernel_rfl) ?_
    refine OpK.asCall rfl callT12 rfl ((textIs w2 n).mono ?_)
    rintro en w3 ⟨y, he, ⟨d, rfl, hd⟩, hc3⟩
    refine ⟨_, he, ?_⟩
    refine OpK.extract rfl rfl ?_
    refine OpK.extract rfl rfl ?_
    show CWL _ _ _ _ _ _
    rw [hx1] at hd
    have hc03 := hc02.trans' hc3
    refine CWL.pinT [(0, .int .i8 n), (3, strV x), (5, d), (6, .bool true)] (all_pinE rfl (all_pinE rfl (all_pinE rfl (all_pinE rfl (fun _ h => by cases h))))) fun σ => ?_
    refine CWL.cons (CW.region ?_)
    refine RW.want rfl ?_
    refine OpK.move ?_
    refine RW.want rfl ?_
    refine OpK.not rfl ?_
    refine RW.want rfl ?_
    refine OpK.move ?_
    refine RW.want rfl ?_
    refine OpK.move ?_
    refine RW.want rfl ?_
    refine OpK.asCall rfl callG13 rfl ((implString w3 n).mono ?_)
    rintro en w4 ⟨y, he, rfl, hw4⟩
    rw [hw4]
    refine ⟨_, he, ?_⟩
    refine RW.want rfl ?_
    refine OpK.move ?_
    refine RW.want rfl ?_
    refine OpK.neS (a := wordOf n) (b := x) rfl rfl ?_
    rw [show (!(wordOf n == x)) = false by rw [hx1]; simp]
    refine RW.want rfl ?_
    refine OpK.pick rfl ?_
    refine RW.want rfl ?_
    refine OpK.move ?_
    refine RW.want rfl ?_
    refine OpK.move ?_
    refine RW.want rfl ?_
    refine OpK.bytesStr und undU8 undS rfl hd ?_
    refine RW.want rfl ?_
    refine OpK.move ?_
    refine RW.want rfl ?_
    refine OpK.neS (a := x) (b := x) rfl rfl ?_
    rw [show (!(x == x)) = false by simp]
    refine RW.want rfl ?_
    refine OpK.pick rfl ?_
    refine RW.z ?_
    show CWL _ _ _ _ _ _
    refine CWL.condF rfl ?_
    simp only [flat, List.cons_append, List.nil_append, List.append_nil]
    have hlk : look TACLResourceType (normN x) = some n := (tableACLResourceType x).trans hx2
    refine CWL.pinT [(0, .int .i8 n), (3, strV x), (5, d)] (all_pinE rfl (all_pinE rfl (all_pinE rfl (fun _ h => by cases h)))) fun σ => ?_
    refine CWL.reg (ops := [(.call ⟨.value (.func 14), #[.tmp 6], #[9]⟩, 23), (.extract (.tmp 1) 0, 3), (.extract (.tmp 1) 1, 4)]) (b := [(8, 5), (7, 3), (43, 5), (42, 3), (39, 1), (41, 1), (40, 6)]) (by kernel_rfl) ?_
    refine OpK.asCall rfl callI14 rfl ((implParseACLResourceType w3 x (by omega) hx3 (tab_keep ht hc03)).mono ?_)
    rintro en w4 ⟨y, he, rfl, hc4⟩
    rw [hlk] at he
    refine ⟨_, he, ?_⟩
    refine OpK.extract rfl rfl ?_
    refine OpK.extract rfl rfl ?_
    show CWL _ _ _ _ _ _
    have hd4 : SrcIs w4 (fun k => k < w4.heap.size) x d := (hd.keepC hc4 fun k h => h).monoS fun k hk => Nat.lt_of_lt_of_le hk hc4.size
    refine CWL.reg (ops := [(.call ⟨.value (.func 15), #[.tmp 10], #[26]⟩, 23), (.extract (.tmp 1) 0, 3), (.extract (.tmp 1) 1, 4)]) (b := [(10, 5), (9, 3), (48, 5), (47, 3), (44, 1), (46, 1), (45, 10)]) (by kernel_rfl) ?_
    refine OpK.asCall rfl callO15 rfl ((ofTextACLResourceType w4 d x hd4 (by omega) hx3 (tab_keep ht (hc03.trans' hc4))).mono ?_)
    rintro en w5 ⟨y, he, rfl, hc5⟩
    rw [hlk] at he
    refine ⟨_, he, ?_⟩
    refine OpK.extract rfl rfl ?_
    refine OpK.extract rfl rfl ?_
    show CWL _ _ _ _ _ _
    refine CWL.pinT [(0, .int .i8 n), (7, .int .i64 n), (8, .bool true), (9, .int .i64 n), (10, .bool true)] (all_pinE rfl (all_pinE rfl (all_pinE rfl (all_pinE rfl (all_pinE rfl (fun _ h => by cases h)))))) fun σ => ?_
    refine CWL.cons (CW.region ?_)
    refine RW.want rfl ?_
    refine OpK.move ?_
    refine RW.want rfl ?_
    refine OpK.move ?_
    refine RW.want rfl ?_
    refine OpK.move ?_
    refine RW.want rfl ?_
    refine OpK.pick rfl ?_
    refine RW.want rfl ?_
    refine OpK.move ?_
    refine RW.want rfl ?_
    refine OpK.move ?_
    refine RW.want rfl ?_
    refine OpK.move ?_
    refine RW.want rfl ?_
    refine OpK.convInt (k := .i8) (k' := .i64) (n := n) (by kernel_rfl) (by kernel_rfl) rfl ?_
    rw [hw64]
    refine RW.pinR [(53, .bool true), (54, .int .i64 n), (56, .int .i64 n), (9, .int .i64 n), (0, .int .i8 n)] (all_pinE rfl (all_pinE rfl (all_pinE rfl (all_pinE rfl (all_pinE rfl (fun _ h => by cases h)))))) fun σ => ?_
    refine RW.want rfl ?_
    refine OpK.cmp (r := true) (a := n) (b := n) (by simp [cmpB]) rfl rfl ?_
    refine RW.want rfl ?_
    refine OpK.pick rfl ?_
    refine RW.want rfl ?_
    refine OpK.move ?_
    refine RW.want rfl ?_
    refine OpK.move ?_
    refine RW.want rfl ?_
    refine OpK.move ?_
    refine RW.want rfl ?_
    refine OpK.convInt (k := .i8) (k' := .i64) (n := n) (by kernel_rfl) (by kernel_rfl) rfl ?_
    rw [hw64]
    refine RW.pinR [(59, .bool true), (60, .int .i64 n), (62, .int .i64 n)] (all_pinE rfl (all_pinE rfl (all_pinE rfl (fun _ h => by cases h)))) fun σ => ?_
    refine RW.want rfl ?_
    refine OpK.cmp (r := true) (a := n) (b := n) (by simp [cmpB]) rfl rfl ?_
    refine RW.want rfl ?_
    refine OpK.pick rfl ?_
    refine RW.want rfl ?_
    refine OpK.assign ?_
    refine RW.z ?_
    refine CWL.ret ?_
    exact ⟨_, rfl, rfl, (hc03.trans' hc4).trans' hc5⟩

end Go.Proofs.YtagmcjolgfkcaaaDoor.Txt
