/- Walks over texts: words and their values. -/
import Derived.Test.YtagmcjolgfkcaaaDoorKxTxtX
import Derived.Test.YtagmcjolgfkcaaaDoorKxKept
namespace Go.Proofs.YtagmcjolgfkcaaaDoor.Txt
open Go.Kx Go.RowKit Go.Proofs
set_option maxRecDepth 100000
set_option linter.unusedVariables false
set_option linter.unusedSimpArgs false

/-! ### Words and their values -/
/-- The value of a text, among words in their one form. -/
def look (T : List (Int × List UInt8)) (x : List UInt8) : Option Int := (T.find? fun e => x == e.2).map (·.1)
theorem look_map (N : List (Int × List UInt8)) (l : List UInt8) : look (N.map fun e => (e.1, normN e.2)) (normN l) = (N.find? fun e => normN e.2 == normN l).map (·.1) := by
  unfold look
  induction N with
  | nil => rfl
  | cons e N ih =>
    rw [List.map_cons, List.find?_cons, List.find?_cons]
    have h : (normN l == normN e.2) = (normN e.2 == normN l) := by rw [Bool.eq_iff_iff, beq_iff_eq, beq_iff_eq]; exact eq_comm
    simp only [h]
    cases (normN e.2 == normN l) with
    | true => rfl
    | false => exact ih
/-- What parsing answers. -/
def PE (o : Option Int) (x : Value) : Prop := ∃ e, x = .tuple #[.int .i8 (o.getD 0), e] ∧ ((o.isSome = true ∧ e = .nilIface) ∨ (o.isSome = false ∧ ∃ t v, e = .iface t v))
def PO (o : Option Int) : Value := .tuple #[.int .i64 (o.getD 0), .bool o.isSome]
theorem ifaceErr : isIface Tryd.prog 40 = true := by kernel_rfl
theorem undE : ∃ ms, Tryd.prog.underlying 40 = some (.interface ms) := isIface_spec ifaceErr
/-- The value of a text among a row's words. -/
def lookN (T : List (Int × List UInt8)) (l : List UInt8) : Option Int := (T.find? fun e => normN e.2 == normN l).map (·.1)
theorem zeroN : ((Tryd.prog.info? 46).bind (·.zero)).map (·.cells) = some [Value.int .i64 0, strV []].toArray := by kernel_rfl
theorem zeroN' : ((Tryd.prog.info? 46).bind (·.zero)) = some (.agg #[Value.int .i64 0, strV []]) := by kernel_rfl
theorem sizeN : (Tryd.prog.info? 46).map (·.size) = some 2 := by kernel_rfl
def TConfigResourceType : List (Int × List UInt8) := [(2, [116, 111, 112, 105, 99]), (4, [98, 114, 111, 107, 101, 114]), (8, [98, 114, 111, 107, 101, 114, 108, 111, 103, 103, 101, 114]), (16, [99, 108, 105, 101, 110, 116, 109, 101, 116, 114, 105, 99, 115]), (32, [103, 114, 111, 117, 112, 99, 111, 110, 102, 105, 103])]
def NConfigResourceType : List (Int × List UInt8) := [(2, [84, 79, 80, 73, 67]), (4, [66, 82, 79, 75, 69, 82]), (8, [66, 82, 79, 75, 69, 82, 95, 76, 79, 71, 71, 69, 82]), (16, [67, 76, 73, 69, 78, 84, 95, 77, 69, 84, 82, 73, 67, 83]), (32, [71, 82, 79, 85, 80, 95, 67, 79, 78, 70, 73, 71])]
theorem call17 : Callable Tryd.prog 17 := ⟨Tryd.f17, Tryd.func17, by kernel_rfl, by kernel_rfl⟩
set_option maxHeartbeats 8000000 in
theorem parseConfigResourceType (w : World) (l : List UInt8) (hl : l.length ≤ 2147483648) (ha : Asc l) (ht : Tab w) : Calls Tryd.prog 17 #[strV l] w fun en w' => ∃ x, en = .returned x ∧ PE (look TConfigResourceType (normN l)) x ∧ Ch Old w w' := by
  refine Calls.of_CW Tryd.func17 rfl (by decide +kernel) (Nat.le_of_ble_eq_true (by kernel_rfl)) (CW.of_flat ?_)
  simp only [flat, List.cons_append, List.nil_append, List.append_nil]
  refine CWL.reg (ops := [(.assign (.const (Go.Value.int Go.IntKind.i8 0)), 38), (.assign (.const (Go.Value.nilIface)), 40)]) (b := [(3, 3), (2, 1)]) (by kernel_rfl) ?_
  refine OpK.assign ?_
  refine OpK.assign ?_
  show CWL _ _ _ _ _ _
  refine CWL.reg (ops := [(.call ⟨.value (.func 25), #[.tmp 0], #[9]⟩, 9)]) (b := [(5, 1), (4, 0)]) (by kernel_rfl) ?_
  refine OpK.asCall rfl call25 rfl ((strnorm w l hl ha ht).mono ?_)
  rintro en w1 ⟨x, he, rfl, hc1⟩
  refine ⟨_, he, ?_⟩
  show CWL _ _ _ _ _ _
  generalize normN l = x
  refine CWL.block ?_
  simp only [flat, List.cons_append, List.nil_append, List.append_nil]
  refine CWL.reg (ops := [(.binOp .eql 9 (.tmp 10) (.const (Go.Value.string {data := #[116, 111, 112, 105, 99]})) 9, 4)]) (b := [(7, 1), (8, 1)]) (by kernel_rfl) ?_
  refine OpK.eqS (a := x) (b := [116, 111, 112, 105, 99]) rfl rfl ?_
  show CWL _ _ _ _ _ _
  by_cases h0 : x = [116, 111, 112, 105, 99]
  · refine CWL.condT (congrArg Value.bool (beq_iff_eq.2 h0)) ?_
    simp only [flat, List.cons_append, List.nil_append, List.append_nil]
    refine CWL.reg (ops := [(.assign (.const (Go.Value.int Go.IntKind.i8 2)), 38), (.assign (.const (Go.Value.nilIface)), 40)]) (b := [(3, 3), (2, 1)]) (by kernel_rfl) ?_
    refine OpK.assign ?_
    refine OpK.assign ?_
    show CWL _ _ _ _ _ _
    refine CWL.ret ?_
    have hlk : look TConfigResourceType x = some 2 := by rw [h0]; decide
    rw [hlk]
    exact ⟨_, rfl, ⟨_, rfl, .inl ⟨rfl, rfl⟩⟩, hc1⟩
  refine CWL.condF (congrArg Value.bool (beq_eq_false_iff_ne.2 h0)) ?_
  simp only [flat, List.cons_append, List.nil_append, List.append_nil]
  refine CWL.reg (ops := [(.binOp .eql 9 (.tmp 10) (.const (Go.Value.string {data := #[98, 114, 111, 107, 101, 114]})) 9, 4)]) (b := [(9, 1), (10, 1)]) (by kernel_rfl) ?_
  refine OpK.eqS (a := x) (b := [98, 114, 111, 107, 101, 114]) rfl rfl ?_
  show CWL _ _ _ _ _ _
  by_cases h1 : x = [98, 114, 111, 107, 101, 114]
  · refine CWL.condT (congrArg Value.bool (beq_iff_eq.2 h1)) ?_
    simp only [flat, List.cons_append, List.nil_append, List.append_nil]
    refine CWL.reg (ops := [(.assign (.const (Go.Value.int Go.IntKind.i8 4)), 38), (.assign (.const (Go.Value.nilIface)), 40)]) (b := [(3, 3), (2, 1)]) (by kernel_rfl) ?_
    refine OpK.assign ?_
    refine OpK.assign ?_
    show CWL _ _ _ _ _ _
    refine CWL.ret ?_
    have hlk : look TConfigResourceType x = some 4 := by rw [h1]; decide
    rw [hlk]
    exact ⟨_, rfl, ⟨_, rfl, .inl ⟨rfl, rfl⟩⟩, hc1⟩
  refine CWL.condF (congrArg Value.bool (beq_eq_false_iff_ne.2 h1)) ?_
  simp only [flat, List.cons_append, List.nil_append, List.append_nil]
  refine CWL.reg (ops := [(.binOp .eql 9 (.tmp 10) (.const (Go.Value.string {data := #[98, 114, 111, 107, 101, 114, 108, 111, 103, 103, 101, 114]})) 9, 4)]) (b := [(11, 1), (12, 1)]) (by kernel_rfl) ?_
  refine OpK.eqS (a := x) (b := [98, 114, 111, 107, 101, 114, 108, 111, 103, 103, 101, 114]) rfl rfl ?_
  show CWL _ _ _ _ _ _
  by_cases h2 : x = [98, 114, 111, 107, 101, 114, 108, 111, 103, 103, 101, 114]
  · refine CWL.condT (congrArg Value.bool (beq_iff_eq.2 h2)) ?_
    simp only [flat, List.cons_append, List.nil_append, List.append_nil]
    refine CWL.reg (ops := [(.assign (.const (Go.Value.int Go.IntKind.i8 8)), 38), (.assign (.const (Go.Value.nilIface)), 40)]) (b := [(3, 3), (2, 1)]) (by kernel_rfl) ?_
    refine OpK.assign ?_
    refine OpK.assign ?_
    show CWL _ _ _ _ _ _
    refine CWL.ret ?_
    have hlk : look TConfigResourceType x = some 8 := by rw [h2]; decide
    rw [hlk]
    exact ⟨_, rfl, ⟨_, rfl, .inl ⟨rfl, rfl⟩⟩, hc1⟩
  refine CWL.condF (congrArg Value.bool (beq_eq_false_iff_ne.2 h2)) ?_
  simp only [flat, List.cons_append, List.nil_append, List.append_nil]
  refine CWL.reg (ops := [(.binOp .eql 9 (.tmp 10) (.const (Go.Value.string {data := #[99, 108, 105, 101, 110, 116, 109, 101, 116, 114, 105, 99, 115]})) 9, 4)]) (b := [(13, 1), (14, 1)]) (by kernel_rfl) ?_
  refine OpK.eqS (a := x) (b := [99, 108, 105, 101, 110, 116, 109, 101, 116, 114, 105, 99, 115]) rfl rfl ?_
  show CWL _ _ _ _ _ _
  by_cases h3 : x = [99, 108, 105, 101, 110, 116, 109, 101, 116, 114, 105, 99, 115]
  · refine CWL.condT (congrArg Value.bool (beq_iff_eq.2 h3)) ?_
    simp only [flat, List.cons_append, List.nil_append, List.append_nil]
    refine CWL.reg (ops := [(.assign (.const (Go.Value.int Go.IntKind.i8 16)), 38), (.assign (.const (Go.Value.nilIface)), 40)]) (b := [(3, 3), (2, 1)]) (by kernel_rfl) ?_
    refine OpK.assign ?_
    refine OpK.assign ?_
    show CWL _ _ _ _ _ _
    refine CWL.ret ?_
    have hlk : look TConfigResourceType x = some 16 := by rw [h3]; decide
    rw [hlk]
    exact ⟨_, rfl, ⟨_, rfl, .inl ⟨rfl, rfl⟩⟩, hc1⟩
  refine CWL.condF (congrArg Value.bool (beq_eq_false_iff_ne.2 h3)) ?_
  simp only [flat, List.cons_append, List.nil_append, List.append_nil]
  refine CWL.reg (ops := [(.binOp .eql 9 (.tmp 10) (.const (Go.Value.string {data := #[103, 114, 111, 117, 112, 99, 111, 110, 102, 105, 103]})) 9, 4)]) (b := [(15, 1), (16, 1)]) (by kernel_rfl) ?_
  refine OpK.eqS (a := x) (b := [103, 114, 111, 117, 112, 99, 111, 110, 102, 105, 103]) rfl rfl ?_
  show CWL _ _ _ _ _ _
  by_cases h4 : x = [103, 114, 111, 117, 112, 99, 111, 110, 102, 105, 103]
  · refine CWL.condT (congrArg Value.bool (beq_iff_eq.2 h4)) ?_
    simp only [flat, List.cons_append, List.nil_append, List.append_nil]
    refine CWL.reg (ops := [(.assign (.const (Go.Value.int Go.IntKind.i8 32)), 38), (.assign (.const (Go.Value.nilIface)), 40)]) (b := [(3, 3), (2, 1)]) (by kernel_rfl) ?_
    refine OpK.assign ?_
    refine OpK.assign ?_
    show CWL _ _ _ _ _ _
    refine CWL.ret ?_
    have hlk : look TConfigResourceType x = some 32 := by rw [h4]; decide
    rw [hlk]
    exact ⟨_, rfl, ⟨_, rfl, .inl ⟨rfl, rfl⟩⟩, hc1⟩
  refine CWL.condF (congrArg Value.bool (beq_eq_false_iff_ne.2 h4)) ?_
  simp only [flat, List.cons_append, List.nil_append, List.append_nil]
  have hlk : look TConfigResourceType x = none := by
    unfold look TConfigResourceType
    simp only [List.find?_cons, List.find?_nil, beq_eq_false_iff_ne.2 h0, beq_eq_false_iff_ne.2 h1, beq_eq_false_iff_ne.2 h2, beq_eq_false_iff_ne.2 h3, beq_eq_false_iff_ne.2 h4, Option.map_none]
  rw [hlk]
  refine CWL.reg (ops := [(.call ⟨.value (.func 26), #[.const (Go.Value.string {data := #[67, 111, 110, 102, 105, 103, 82, 101, 115, 111, 117, 114, 99, 101, 84, 121, 112, 101, 58, 32, 117, 110, 97, 98, 108, 101, 32, 116, 111, 32, 112, 97, 114, 115, 101]})], #[9]⟩, 40), (.assign (.const (Go.Value.int Go.IntKind.i8 0)), 38)]) (b := [(3, 1), (2, 3), (6, 1)]) (by kernel_rfl) ?_
  refine OpK.asCall rfl call26 rfl ((errNew w1 _).mono ?_)
  rintro en w2 ⟨y, he, ⟨t, v, rfl⟩, hc2⟩
  refine ⟨_, he, ?_⟩
  refine OpK.assign ?_
  show CWL _ _ _ _ _ _
  refine CWL.ret ?_
  exact ⟨_, rfl, ⟨_, rfl, .inr ⟨rfl, _, _, rfl⟩⟩, hc1.trans' hc2⟩
theorem tableConfigResourceType (l : List UInt8) : look TConfigResourceType (normN l) = lookN NConfigResourceType l := by
  rw [show TConfigResourceType = NConfigResourceType.map fun e => (e.1, normN e.2) by decide]
  exact look_map NConfigResourceType l
theorem smallConfigResourceType {l : List UInt8} {n : Int} (h : look TConfigResourceType (normN l) = some n) : 0 ≤ n ∧ n < 128 := by
  unfold look at h
  obtain ⟨e, he, rfl⟩ := Option.map_eq_some_iff.1 h
  exact (by decide : ∀ e ∈ TConfigResourceType, 0 ≤ e.1 ∧ e.1 < 128) e (List.mem_of_find?_eq_some he)
theorem callI6 : Callable Tryd.prog 6 := ⟨Tryd.f6, Tryd.func6, by kernel_rfl, by kernel_rfl⟩
set_option maxHeartbeats 4000000 in
theorem implParseConfigResourceType (w : World) (l : List UInt8) (hl : l.length ≤ 2147483648) (ha : Asc l) (ht : Tab w) : Calls Tryd.prog 6 #[strV l] w fun en w' => ∃ x, en = .returned x ∧ x = PO (look TConfigResourceType (normN l)) ∧ Ch Old w w' := by
  refine Calls.of_CW Tryd.func6 rfl (by decide +kernel) (Nat.le_of_ble_eq_true (by kernel_rfl)) (CW.of_flat ?_)
  simp only [flat, List.cons_append, List.nil_append, List.append_nil]
  obtain ⟨ms, hms⟩ := undE
  refine CWL.reg (ops := [(.assign (.const (Go.Value.int Go.IntKind.i64 0)), 3), (.assign (.const (Go.Value.bool false)), 4)]) (b := [(3, 3), (2, 1)]) (by kernel_rfl) ?_
  refine OpK.assign ?_
  refine OpK.assign ?_
  show CWL _ _ _ _ _ _
  refine CWL.reg (ops := [(.call ⟨.value (.func 17), #[.tmp 0], #[9]⟩, 41), (.extract (.tmp 1) 0, 38), (.extract (.tmp 1) 1, 40)]) (b := [(5, 5), (4, 3), (10, 5), (9, 3), (6, 1), (8, 1), (7, 0)]) (by kernel_rfl) ?_
  refine OpK.asCall rfl call17 rfl ((parseConfigResourceType w l hl ha ht).mono ?_)
  rintro en w1 ⟨x, he, ⟨e, rfl, hPE⟩, hc1⟩
  refine ⟨_, he, ?_⟩
  refine OpK.extract rfl rfl ?_
  refine OpK.extract rfl rfl ?_
  show CWL _ _ _ _ _ _
  cases hlk : look TConfigResourceType (normN l) with
  | none =>
    rw [hlk] at hPE
    obtain ⟨t, v, rfl⟩ := (hPE.resolve_left fun h => by cases h.1).2
    refine CWL.reg (ops := [(.binOp .neq 40 (.tmp 10) (.const (Go.Value.nilIface)) 40, 4)]) (b := [(12, 1), (11, 10)]) (by kernel_rfl) ?_
    refine OpK.cmpNil (v := .iface t v) (b := true) hms rfl rfl (.inr ⟨⟨t, v, rfl⟩, rfl⟩) ?_
    show CWL _ _ _ _ _ _
    refine CWL.condT rfl ?_
    simp only [flat, List.cons_append, List.nil_append, List.append_nil]
    refine CWL.reg (ops := [(.assign (.const (Go.Value.int Go.IntKind.i64 0)), 3), (.assign (.const (Go.Value.bool false)), 4)]) (b := [(3, 3), (2, 1)]) (by kernel_rfl) ?_
    refine OpK.assign ?_
    refine OpK.assign ?_
    show CWL _ _ _ _ _ _
    refine CWL.ret ?_
    exact ⟨_, rfl, rfl, hc1⟩
  | some n =>
    obtain ⟨h0, h128⟩ := smallConfigResourceType hlk
    rw [hlk] at hPE
    obtain rfl := (hPE.resolve_right fun h => by cases h.1).2
    refine CWL.reg (ops := [(.binOp .neq 40 (.tmp 10) (.const (Go.Value.nilIface)) 40, 4)]) (b := [(12, 1), (11, 10)]) (by kernel_rfl) ?_
    refine OpK.cmpNil (v := .nilIface) (b := false) hms rfl rfl (.inl ⟨rfl, rfl⟩) ?_
    show CWL _ _ _ _ _ _
    refine CWL.condF rfl ?_
    simp only [flat, List.cons_append, List.nil_append, List.append_nil]
    refine CWL.reg (ops := [(.convert 38 3 (.tmp 8), 3), (.assign (.const (Go.Value.bool true)), 4)]) (b := [(3, 3), (2, 1), (14, 1), (13, 8)]) (by kernel_rfl) ?_
    refine OpK.convInt (k := .i8) (k' := .i64) (n := (some n).getD 0) (by kernel_rfl) (by kernel_rfl) rfl ?_
    refine OpK.assign ?_
    show CWL _ _ _ _ _ _
    refine CWL.ret ?_
    refine ⟨_, rfl, ?_, hc1⟩
    show Value.tuple #[.int .i64 (IntKind.i64.wrap n), .bool true] = .tuple #[.int .i64 n, .bool true]
    rw [show IntKind.i64.wrap n = n by rw [IntKind.wrap_i64]; omega]
theorem callU18 : Callable Tryd.prog 18 := ⟨Tryd.f18, Tryd.func18, by kernel_rfl, by kernel_rfl⟩
set_option maxHeartbeats 4000000 in
theorem unmConfigResourceType (w : World) (g : Nat) (c : Value) (v : Value) (l : List UInt8) (hb : Blk w g 38 [c]) (hv : SrcIs w (fun _ => True) l v) (hl : l.length ≤ 2147483648) (ha : Asc l) (ht : Tab w) :
    Calls Tryd.prog 18 #[.pointer (some ⟨g, 0, none⟩), v] w fun en w' => ∃ x, en = .returned x ∧ (((look TConfigResourceType (normN l)).isSome = true ∧ x = .nilIface) ∨ ((look TConfigResourceType (normN l)).isSome = false ∧ ∃ t v, x = .iface t v)) ∧ Blk w' g 38 [.int .i8 ((look TConfigResourceType (normN l)).getD 0)] ∧ Ch (fun k => k = g) w w' := by
  refine Calls.of_CW Tryd.func18 rfl (by decide +kernel) (Nat.le_of_ble_eq_true (by kernel_rfl)) (CW.of_flat ?_)
  simp only [flat, List.cons_append, List.nil_append, List.append_nil]
  refine CWL.reg (ops := [(.assign (.const (Go.Value.nilIface)), 40)]) (b := [(4, 1)]) (by kernel_rfl) ?_
  refine OpK.assign ?_
  show CWL _ _ _ _ _ _
  refine CWL.reg (ops := [(.convert 26 9 (.tmp 2), 9), (.call ⟨.value (.func 17), #[.tmp 1], #[9]⟩, 41), (.extract (.tmp 3) 0, 38), (.extract (.tmp 3) 1, 40)]) (b := [(6, 7), (5, 5), (12, 7), (11, 5), (7, 3), (10, 3), (9, 1), (8, 2)]) (by kernel_rfl) ?_
  refine OpK.bytesStr und undU8 undS rfl hv ?_
  refine OpK.asCall rfl call17 rfl ((parseConfigResourceType w l hl ha ht).mono ?_)
  rintro en w1 ⟨x, he, ⟨e, rfl, hPE⟩, hc1⟩
  refine ⟨_, he, ?_⟩
  refine OpK.extract rfl rfl ?_
  refine OpK.extract rfl rfl ?_
  show CWL _ _ _ _ _ _
  have hb1 := hb.keep (hc1.block g hb.lt fun h => h)
  refine CWL.reg (ops := [(.nilCheck (.tmp 0), 0), (.store 38 (.tmp 1) (.tmp 10), 0)]) (b := [(15, 1), (14, 10), (13, 0)]) (by kernel_rfl) ?_
  refine OpK.nilCheck rfl ?_
  refine OpK.store (a := ⟨g, 0, none⟩) (v := .int .i8 ((look TConfigResourceType (normN l)).getD 0)) (by kernel_rfl) rfl rfl rfl (by rw [hb1.cell]; rfl) (hb1.free 0) ?_
  show CWL _ _ _ _ _ _
  refine CWL.reg (ops := []) (b := [(4, 12), (16, 12)]) (by kernel_rfl) ?_
  show CWL _ _ _ _ _ _
  refine CWL.ret ?_
  exact ⟨_, rfl, hPE, hb1.set 0 _, (hc1.mono fun _ _ h => h.elim : Ch (fun k => k = g) w w1).trans' (Ch.set (S := fun k => k = g) w1 (a := ⟨g, 0, none⟩) rfl _)⟩
theorem callO7 : Callable Tryd.prog 7 := ⟨Tryd.f7, Tryd.func7, by kernel_rfl, by kernel_rfl⟩
set_option maxHeartbeats 4000000 in
theorem ofTextConfigResourceType (w : World) (v : Value) (l : List UInt8) (hv : SrcIs w (fun k => k < w.heap.size) l v) (hl : l.length ≤ 2147483648) (ha : Asc l) (ht : Tab w) :
    Calls Tryd.prog 7 #[v] w fun en w' => ∃ x, en = .returned x ∧ x = PO (look TConfigResourceType (normN l)) ∧ Ch Old w w' := by
  refine Calls.of_CW Tryd.func7 rfl (by decide +kernel) (Nat.le_of_ble_eq_true (by kernel_rfl)) (CW.of_flat ?_)
  simp only [flat, List.cons_append, List.nil_append, List.append_nil]
  obtain ⟨ms, hms⟩ := undE
  refine CWL.reg (ops := [(.assign (.const (Go.Value.int Go.IntKind.i64 0)), 3), (.assign (.const (Go.Value.bool false)), 4)]) (b := [(3, 3), (2, 1)]) (by kernel_rfl) ?_
  refine OpK.assign ?_
  refine OpK.assign ?_
  show CWL _ _ _ _ _ _
  refine CWL.reg (ops := [(.alloc 38, 0)]) (b := [(4, 1)]) (by kernel_rfl) ?_
  refine OpK.allocZ [.int .i8 0] (by kernel_rfl) fun w1 g hb1 hc1 hg1 hs1 => ?_
  show CWL _ _ _ _ _ _
  obtain ⟨a, c, rfl, hac⟩ := hv.form
  have hv1 := hv.keepC hc1 fun k h => h
  obtain ⟨d2, w2, hr2, hg2⟩ := run_append_oct (P := Tryd.prog) (ty := 26) (t := 26) u8 und (Own.nil _ w1) (a := a) (l := l) (c := c) hv1.nilA hv1.octA (by simp only [List.length_nil, Lim]; omega)
  rw [List.nil_append] at hg2
  have hc2 := hg2.new_ch
  have hb2 := hb1.keep (hc2.block g hb1.lt fun h => h)
  refine CWL.reg (ops := [(.call ⟨.builtin .append, #[.const (Go.Value.slice none 0 0), .tmp 0], #[26, 26]⟩, 26), (.call ⟨.value (.func 18), #[.tmp 8, .tmp 1], #[38, 26]⟩, 40)]) (b := [(5, 3), (8, 3), (7, 1), (6, 0)]) (by kernel_rfl) ?_
  refine OpK.run rfl hr2 ?_
  refine OpK.asCall rfl callU18 rfl ((unmConfigResourceType w2 g _ d2 l hb2 (hg2.own.src (by omega)) hl ha (tab_keep ht (hc1.trans' hc2))).mono ?_)
  rintro en w3 ⟨x, he, hPE, hb3, hc3⟩
  refine ⟨_, he, ?_⟩
  show CWL _ _ _ _ _ _
  have hc03 : Ch Old w w3 := (hc1.trans' hc2).trans hc3 fun k hk e => by omega
  cases hlk : look TConfigResourceType (normN l) with
  | none =>
    rw [hlk] at hPE
    obtain ⟨t, v, rfl⟩ := (hPE.resolve_left fun h => by cases h.1).2
    refine CWL.reg (ops := [(.binOp .neq 40 (.tmp 10) (.const (Go.Value.nilIface)) 40, 4)]) (b := [(10, 1), (9, 10)]) (by kernel_rfl) ?_
    refine OpK.cmpNil (v := .iface t v) (b := true) hms rfl rfl (.inr ⟨⟨t, v, rfl⟩, rfl⟩) ?_
    show CWL _ _ _ _ _ _
    refine CWL.condT rfl ?_
    simp only [flat, List.cons_append, List.nil_append, List.append_nil]
    refine CWL.reg (ops := [(.assign (.const (Go.Value.int Go.IntKind.i64 0)), 3), (.assign (.const (Go.Value.bool false)), 4)]) (b := [(3, 3), (2, 1)]) (by kernel_rfl) ?_
    refine OpK.assign ?_
    refine OpK.assign ?_
    show CWL _ _ _ _ _ _
    refine CWL.ret ?_
    exact ⟨_, rfl, rfl, hc03⟩
  | some n =>
    obtain ⟨h0, h128⟩ := smallConfigResourceType hlk
    rw [hlk] at hPE hb3
    obtain rfl := (hPE.resolve_right fun h => by cases h.1).2
    refine CWL.reg (ops := [(.binOp .neq 40 (.tmp 10) (.const (Go.Value.nilIface)) 40, 4)]) (b := [(10, 1), (9, 10)]) (by kernel_rfl) ?_
    refine OpK.cmpNil (v := .nilIface) (b := false) hms rfl rfl (.inl ⟨rfl, rfl⟩) ?_
    show CWL _ _ _ _ _ _
    refine CWL.condF rfl ?_
    simp only [flat, List.cons_append, List.nil_append, List.append_nil]
    refine CWL.reg (ops := [(.load 38 (.tmp 8), 38), (.convert 38 3 (.tmp 1), 3), (.assign (.const (Go.Value.bool true)), 4)]) (b := [(3, 5), (2, 3), (12, 3), (11, 1)]) (by kernel_rfl) ?_
    refine OpK.load (by kernel_rfl) rfl (hb3.cell 0) ?_
    refine OpK.convInt (k := .i8) (k' := .i64) (n := (some n).getD 0) (by kernel_rfl) (by kernel_rfl) rfl ?_
    refine OpK.assign ?_
    show CWL _ _ _ _ _ _
    refine CWL.ret ?_
    refine ⟨_, rfl, ?_, hc03⟩
    show Value.tuple #[.int .i64 (IntKind.i64.wrap n), .bool true] = .tuple #[.int .i64 n, .bool true]
    rw [show IntKind.i64.wrap n = n by rw [IntKind.wrap_i64]; omega]
def TACLResourceType : List (Int × List UInt8) := [(1, [97, 110, 121]), (2, [116, 111, 112, 105, 99]), (3, [103, 114, 111, 117, 112]), (4, [99, 108, 117, 115, 116, 101, 114]), (5, [116, 114, 97, 110, 115, 97, 99, 116, 105, 111, 110, 97, 108, 105, 100]), (6, [100, 101, 108, 101, 103, 97, 116, 105, 111, 110, 116, 111, 107, 101, 110]), (7, [117, 115, 101, 114])]
def NACLResourceType : List (Int × List UInt8) := [(1, [65, 78, 89]), (2, [84, 79, 80, 73, 67]), (3, [71, 82, 79, 85, 80]), (4, [67, 76, 85, 83, 84, 69, 82]), (5, [84, 82, 65, 78, 83, 65, 67, 84, 73, 79, 78, 65, 76, 95, 73, 68]), (6, [68, 69, 76, 69, 71, 65, 84, 73, 79, 78, 95, 84, 79, 75, 69, 78]), (7, [85, 83, 69, 82])]
theorem call22 : Callable Tryd.prog 22 := ⟨Tryd.f22, Tryd.func22, by kernel_rfl, by kernel_rfl⟩
set_option maxHeartbeats 8000000 in
theorem parseACLResourceType (w : World) (l : List UInt8) (hl : l.length ≤ 2147483648) (ha : Asc l) (ht : Tab w) : Calls Tryd.prog 22 #[strV l] w fun en w' => ∃ x, en = .returned x ∧ PE (look TACLResourceType (normN l)) x ∧ Ch Old w w' := by
  refine Calls.of_CW Tryd.func22 rfl (by decide +kernel) (Nat.le_of_ble_eq_true (by kernel_rfl)) (CW.of_flat ?_)
  simp only [flat, List.cons_append, List.nil_append, List.append_nil]
  refine CWL.reg (ops := [(.assign (.const (Go.Value.int Go.IntKind.i8 0)), 48), (.assign (.const (Go.Value.nilIface)), 40)]) (b := [(3, 3), (2, 1)]) (by kernel_rfl) ?_
  refine OpK.assign ?_
  refine OpK.assign ?_
  show CWL _ _ _ _ _ _
  refine CWL.reg (ops := [(.call ⟨.value (.func 25), #[.tmp 0], #[9]⟩, 9)]) (b := [(5, 1), (4, 0)]) (by kernel_rfl) ?_
  refine OpK.asCall rfl call25 rfl ((strnorm w l hl ha ht).mono ?_)
  rintro en w1 ⟨x, he, rfl, hc1⟩
  refine ⟨_, he, ?_⟩
  show CWL _ _ _ _ _ _
  generalize normN l = x
  refine CWL.block ?_
  simp only [flat, List.cons_append, List.nil_append, List.append_nil]
  refine CWL.reg (ops := [(.binOp .eql 9 (.tmp 10) (.const (Go.Value.string {data := #[97, 110, 121]})) 9, 4)]) (b := [(7, 1), (8, 1)]) (by kernel_rfl) ?_
  refine OpK.eqS (a := x) (b := [97, 110, 121]) rfl rfl ?_
  show CWL _ _ _ _ _ _
  by_cases h0 : x = [97, 110, 121]
  · refine CWL.condT (congrArg Value.bool (beq_iff_eq.2 h0)) ?_
    simp only [flat, List.cons_append, List.nil_append, List.append_nil]
    refine CWL.reg (ops := [(.assign (.const (Go.Value.int Go.IntKind.i8 1)), 48), (.assign (.const (Go.Value.nilIface)), 40)]) (b := [(3, 3), (2, 1)]) (by kernel_rfl) ?_
    refine OpK.assign ?_
    refine OpK.assign ?_
    show CWL _ _ _ _ _ _
    refine CWL.ret ?_
    have hlk : look TACLResourceType x = some 1 := by rw [h0]; decide
    rw [hlk]
    exact ⟨_, rfl, ⟨_, rfl, .inl ⟨rfl, rfl⟩⟩, hc1⟩
  refine CWL.condF (congrArg Value.bool (beq_eq_false_iff_ne.2 h0)) ?_
  simp only [flat, List.cons_append, List.nil_append, List.append_nil]
  refine CWL.reg (ops := [(.binOp .eql 9 (.tmp 10) (.const (Go.Value.string {data := #[116, 111, 112, 105, 99]})) 9, 4)]) (b := [(9, 1), (10, 1)]) (by kernel_rfl) ?_
  refine OpK.eqS (a := x) (b := [116, 111, 112, 105, 99]) rfl rfl ?_
  show CWL _ _ _ _ _ _
  by_cases h1 : x = [116, 111, 112, 105, 99]
  · refine CWL.condT (congrArg Value.bool (beq_iff_eq.2 h1)) ?_
    simp only [flat, List.cons_append, List.nil_append, List.append_nil]
    refine CWL.reg (ops := [(.assign (.const (Go.Value.int Go.IntKind.i8 2)), 48), (.assign (.const (Go.Value.nilIface)), 40)]) (b := [(3, 3), (2, 1)]) (by kernel_rfl) ?_
    refine OpK.assign ?_
    refine OpK.assign ?_
    show CWL _ _ _ _ _ _
    refine CWL.ret ?_
    have hlk : look TACLResourceType x = some 2 := by rw [h1]; decide
    rw [hlk]
    exact ⟨_, rfl, ⟨_, rfl, .inl ⟨rfl, rfl⟩⟩, hc1⟩
  refine CWL.condF (congrArg Value.bool (beq_eq_false_iff_ne.2 h1)) ?_
  simp only [flat, List.cons_append, List.nil_append, List.append_nil]
  refine CWL.reg (ops := [(.binOp .eql 9 (.tmp 10) (.const (Go.Value.string {data := #[103, 114, 111, 117, 112]})) 9, 4)]) (b := [(11, 1), (12, 1)]) (by kernel_rfl) ?_
  refine OpK.eqS (a := x) (b := [103, 114, 111, 117, 112]) rfl rfl ?_
  show CWL _ _ _ _ _ _
  by_cases h2 : x = [103, 114, 111, 117, 112]
  · refine CWL.condT (congrArg Value.bool (beq_iff_eq.2 h2)) ?_
    simp only [flat, List.cons_append, List.nil_append, List.append_nil]
    refine CWL.reg (ops := [(.assign (.const (Go.Value.int Go.IntKind.i8 3)), 48), (.assign (.const (Go.Value.nilIface)), 40)]) (b := [(3, 3), (2, 1)]) (by kernel_rfl) ?_
    refine OpK.assign ?_
    refine OpK.assign ?_
    show CWL _ _ _ _ _ _
    refine CWL.ret ?_
    have hlk : look TACLResourceType x = some 3 := by rw [h2]; decide
    rw [hlk]
    exact ⟨_, rfl, ⟨_, rfl, .inl ⟨rfl, rfl⟩⟩, hc1⟩
  refine CWL.condF (congrArg Value.bool (beq_eq_false_iff_ne.2 h2)) ?_
  simp only [flat, List.cons_append, List.nil_append, List.append_nil]
  refine CWL.reg (ops := [(.binOp .eql 9 (.tmp 10) (.const (Go.Value.string {data := #[99, 108, 117, 115, 116, 101, 114]})) 9, 4)]) (b := [(13, 1), (14, 1)]) (by kernel_rfl) ?_
  refine OpK.eqS (a := x) (b := [99, 108, 117, 115, 116, 101, 114]) rfl rfl ?_
  show CWL _ _ _ _ _ _
  by_cases h3 : x = [99, 108, 117, 115, 116, 101, 114]
  · refine CWL.condT (congrArg Value.bool (beq_iff_eq.2 h3)) ?_
    simp only [flat, List.cons_append, List.nil_append, List.append_nil]
    refine CWL.reg (ops := [(.assign (.const (Go.Value.int Go.IntKind.i8 4)), 48), (.assign (.const (Go.Value.nilIface)), 40)]) (b := [(3, 3), (2, 1)]) (by kernel_rfl) ?_
    refine OpK.assign ?_
    refine OpK.assign ?_
    show CWL _ _ _ _ _ _
    refine CWL.ret ?_
    have hlk : look TACLResourceType x = some 4 := by rw [h3]; decide
    rw [hlk]
    exact ⟨_, rfl, ⟨_, rfl, .inl ⟨rfl, rfl⟩⟩, hc1⟩
  refine CWL.condF (congrArg Value.bool (beq_eq_false_iff_ne.2 h3)) ?_
  simp only [flat, List.cons_append, List.nil_append, List.append_nil]
  refine CWL.reg (ops := [(.binOp .eql 9 (.tmp 10) (.const (Go.Value.string {data := #[116, 114, 97, 110, 115, 97, 99, 116, 105, 111, 110, 97, 108, 105, 100]})) 9, 4)]) (b := [(15, 1), (16, 1)]) (by kernel_rfl) ?_
  refine OpK.eqS (a := x) (b := [116, 114, 97, 110, 115, 97, 99, 116, 105, 111, 110, 97, 108, 105, 100]) rfl rfl ?_
  show CWL _ _ _ _ _ _
  by_cases h4 : x = [116, 114, 97, 110, 115, 97, 99, 116, 105, 111, 110, 97, 108, 105, 100]
  · refine CWL.condT (congrArg Value.bool (beq_iff_eq.2 h4)) ?_
    simp only [flat, List.cons_append, List.nil_append, List.append_nil]
    refine CWL.reg (ops := [(.assign (.const (Go.Value.int Go.IntKind.i8 5)), 48), (.assign (.const (Go.Value.nilIface)), 40)]) (b := [(3, 3), (2, 1)]) (by kernel_rfl) ?_
    refine OpK.assign ?_
    refine OpK.assign ?_
    show CWL _ _ _ _ _ _
    refine CWL.ret ?_
    have hlk : look TACLResourceType x = some 5 := by rw [h4]; decide
    rw [hlk]
    exact ⟨_, rfl, ⟨_, rfl, .inl ⟨rfl, rfl⟩⟩, hc1⟩
  refine CWL.condF (congrArg Value.bool (beq_eq_false_iff_ne.2 h4)) ?_
  simp only [flat, List.cons_append, List.nil_append, List.append_nil]
  refine CWL.reg (ops := [(.binOp .eql 9 (.tmp 10) (.const (Go.Value.string {data := #[100, 101, 108, 101, 103, 97, 116, 105, 111, 110, 116, 111, 107, 101, 110]})) 9, 4)]) (b := [(17, 1), (18, 1)]) (by kernel_rfl) ?_
  refine OpK.eqS (a := x) (b := [100, 101, 108, 101, 103, 97, 116, 105, 111, 110, 116, 111, 107, 101, 110]) rfl rfl ?_
  show CWL _ _ _ _ _ _
  by_cases h5 : x = [100, 101, 108, 101, 103, 97, 116, 105, 111, 110, 116, 111, 107, 101, 110]
  · refine CWL.condT (congrArg Value.bool (beq_iff_eq.2 h5)) ?_
    simp only [flat, List.cons_append, List.nil_append, List.append_nil]
    refine CWL.reg (ops := [(.assign (.const (Go.Value.int Go.IntKind.i8 6)), 48), (.assign (.const (Go.Value.nilIface)), 40)]) (b := [(3, 3), (2, 1)]) (by kernel_rfl) ?_
    refine OpK.assign ?_
    refine OpK.assign ?_
    show CWL _ _ _ _ _ _
    refine CWL.ret ?_
    have hlk : look TACLResourceType x = some 6 := by rw [h5]; decide
    rw [hlk]
    exact ⟨_, rfl, ⟨_, rfl, .inl ⟨rfl, rfl⟩⟩, hc1⟩
  refine CWL.condF (congrArg Value.bool (beq_eq_false_iff_ne.2 h5)) ?_
  simp only [flat, List.cons_append, List.nil_append, List.append_nil]
  refine CWL.reg (ops := [(.binOp .eql 9 (.tmp 10) (.const (Go.Value.string {data := #[117, 115, 101, 114]})) 9, 4)]) (b := [(19, 1), (20, 1)]) (by kernel_rfl) ?_
  refine OpK.eqS (a := x) (b := [117, 115, 101, 114]) rfl rfl ?_
  show CWL _ _ _ _ _ _
  by_cases h6 : x = [117, 115, 101, 114]
  · refine CWL.condT (congrArg Value.bool (beq_iff_eq.2 h6)) ?_
    simp only [flat, List.cons_append, List.nil_append, List.append_nil]
    refine CWL.reg (ops := [(.assign (.const (Go.Value.int Go.IntKind.i8 7)), 48), (.assign (.const (Go.Value.nilIface)), 40)]) (b := [(3, 3), (2, 1)]) (by kernel_rfl) ?_
    refine OpK.assign ?_
    refine OpK.assign ?_
    show CWL _ _ _ _ _ _
    refine CWL.ret ?_
    have hlk : look TACLResourceType x = some 7 := by rw [h6]; decide
    rw [hlk]
    exact ⟨_, rfl, ⟨_, rfl, .inl ⟨rfl, rfl⟩⟩, hc1⟩
  refine CWL.condF (congrArg Value.bool (beq_eq_false_iff_ne.2 h6)) ?_
  simp only [flat, List.cons_append, List.nil_append, List.append_nil]
  have hlk : look TACLResourceType x = none := by
    unfold look TACLResourceType
    simp only [List.find?_cons, List.find?_nil, beq_eq_false_iff_ne.2 h0, beq_eq_false_iff_ne.2 h1, beq_eq_false_iff_ne.2 h2, beq_eq_false_iff_ne.2 h3, beq_eq_false_iff_ne.2 h4, beq_eq_false_iff_ne.2 h5, beq_eq_false_iff_ne.2 h6, Option.map_none]
  rw [hlk]
  refine CWL.reg (ops := [(.call ⟨.value (.func 26), #[.const (Go.Value.string {data := #[65, 67, 76, 82, 101, 115, 111, 117, 114, 99, 101, 84, 121, 112, 101, 58, 32, 117, 110, 97, 98, 108, 101, 32, 116, 111, 32, 112, 97, 114, 115, 101]})], #[9]⟩, 40), (.assign (.const (Go.Value.int Go.IntKind.i8 0)), 48)]) (b := [(3, 1), (2, 3), (6, 1)]) (by kernel_rfl) ?_
  refine OpK.asCall rfl call26 rfl ((errNew w1 _).mono ?_)
  rintro en w2 ⟨y, he, ⟨t, v, rfl⟩, hc2⟩
  refine ⟨_, he, ?_⟩
  refine OpK.assign ?_
  show CWL _ _ _ _ _ _
  refine CWL.ret ?_
  exact ⟨_, rfl, ⟨_, rfl, .inr ⟨rfl, _, _, rfl⟩⟩, hc1.trans' hc2⟩
theorem tableACLResourceType (l : List UInt8) : look TACLResourceType (normN l) = lookN NACLResourceType l := by
  rw [show TACLResourceType = NACLResourceType.map fun e => (e.1, normN e.2) by decide]
  exact look_map NACLResourceType l
theorem smallACLResourceType {l : List UInt8} {n : Int} (h : look TACLResourceType (normN l) = some n) : 0 ≤ n ∧ n < 128 := by
  unfold look at h
  obtain ⟨e, he, rfl⟩ := Option.map_eq_some_iff.1 h
  exact (by decide : ∀ e ∈ TACLResourceType, 0 ≤ e.1 ∧ e.1 < 128) e (List.mem_of_find?_eq_some he)
theorem callI14 : Callable Tryd.prog 14 := ⟨Tryd.f14, Tryd.func14, by kernel_rfl, by kernel_rfl⟩
set_option maxHeartbeats 4000000 in
theorem implParseACLResourceType (w : World) (l : List UInt8) (hl : l.length ≤ 2147483648) (ha : Asc l) (ht : Tab w) : Calls Tryd.prog 14 #[strV l] w fun en w' => ∃ x, en = .returned x ∧ x = PO (look TACLResourceType (normN l)) ∧ Ch Old w w' := by
  refine Calls.of_CW Tryd.func14 rfl (by decide +kernel) (Nat.le_of_ble_eq_true (by kernel_rfl)) (CW.of_flat ?_)
  simp only [flat, List.cons_append, List.nil_append, List.append_nil]
  obtain ⟨ms, hms⟩ := undE
  refine CWL.reg (ops := [(.assign (.const (Go.Value.int Go.IntKind.i64 0)), 3), (.assign (.const (Go.Value.bool false)), 4)]) (b := [(3, 3), (2, 1)]) (by kernel_rfl) ?_
  refine OpK.assign ?_
  refine OpK.assign ?_
  show CWL _ _ _ _ _ _
  refine CWL.reg (ops := [(.call ⟨.value (.func 22), #[.tmp 0], #[9]⟩, 51), (.extract (.tmp 1) 0, 48), (.extract (.tmp 1) 1, 40)]) (b := [(5, 5), (4, 3), (10, 5), (9, 3), (6, 1), (8, 1), (7, 0)]) (by kernel_rfl) ?_
  refine OpK.asCall rfl call22 rfl ((parseACLResourceType w l hl ha ht).mono ?_)
  rintro en w1 ⟨x, he, ⟨e, rfl, hPE⟩, hc1⟩
  refine ⟨_, he, ?_⟩
  refine OpK.extract rfl rfl ?_
  refine OpK.extract rfl rfl ?_
  show CWL _ _ _ _ _ _
  cases hlk : look TACLResourceType (normN l) with
  | none =>
    rw [hlk] at hPE
    obtain ⟨t, v, rfl⟩ := (hPE.resolve_left fun h => by cases h.1).2
    refine CWL.reg (ops := [(.binOp .neq 40 (.tmp 10) (.const (Go.Value.nilIface)) 40, 4)]) (b := [(12, 1), (11, 10)]) (by kernel_rfl) ?_
    refine OpK.cmpNil (v := .iface t v) (b := true) hms rfl rfl (.inr ⟨⟨t, v, rfl⟩, rfl⟩) ?_
    show CWL _ _ _ _ _ _
    refine CWL.condT rfl ?_
    simp only [flat, List.cons_append, List.nil_append, List.append_nil]
    refine CWL.reg (ops := [(.assign (.const (Go.Value.int Go.IntKind.i64 0)), 3), (.assign (.const (Go.Value.bool false)), 4)]) (b := [(3, 3), (2, 1)]) (by kernel_rfl) ?_
    refine OpK.assign ?_
    refine OpK.assign ?_
    show CWL _ _ _ _ _ _
    refine CWL.ret ?_
    exact ⟨_, rfl, rfl, hc1⟩
  | some n =>
    obtain ⟨h0, h128⟩ := smallACLResourceType hlk
    rw [hlk] at hPE
    obtain rfl := (hPE.resolve_right fun h => by cases h.1).2
    refine CWL.reg (ops := [(.binOp .neq 40 (.tmp 10) (.const (Go.Value.nilIface)) 40, 4)]) (b := [(12, 1), (11, 10)]) (by kernel_rfl) ?_
    refine OpK.cmpNil (v := .nilIface) (b := false) hms rfl rfl (.inl ⟨rfl, rfl⟩) ?_
    show CWL _ _ _ _ _ _
    refine CWL.condF rfl ?_
    simp only [flat, List.cons_append, List.nil_append, List.append_nil]
    refine CWL.reg (ops := [(.convert 48 3 (.tmp 8), 3), (.assign (.const (Go.Value.bool true)), 4)]) (b := [(3, 3), (2, 1), (14, 1), (13, 8)]) (by kernel_rfl) ?_
    refine OpK.convInt (k := .i8) (k' := .i64) (n := (some n).getD 0) (by kernel_rfl) (by kernel_rfl) rfl ?_
    refine OpK.assign ?_
    show CWL _ _ _ _ _ _
    refine CWL.ret ?_
    refine ⟨_, rfl, ?_, hc1⟩
    show Value.tuple #[.int .i64 (IntKind.i64.wrap n), .bool true] = .tuple #[.int .i64 n, .bool true]
    rw [show IntKind.i64.wrap n = n by rw [IntKind.wrap_i64]; omega]
theorem callU23 : Callable Tryd.prog 23 := ⟨Tryd.f23, Tryd.func23, by kernel_rfl, by kernel_rfl⟩
set_option maxHeartbeats 4000000 in
theorem unmACLResourceType (w : World) (g : Nat) (c : Value) (v : Value) (l : List UInt8) (hb : Blk w g 48 [c]) (hv : SrcIs w (fun _ => True) l v) (hl : l.length ≤ 2147483648) (ha : Asc l) (ht : Tab w) :
    Calls Tryd.prog 23 #[.pointer (some ⟨g, 0, none⟩), v] w fun en w' => ∃ x, en = .returned x ∧ (((look TACLResourceType (normN l)).isSome = true ∧ x = .nilIface) ∨ ((look TACLResourceType (normN l)).isSome = false ∧ ∃ t v, x = .iface t v)) ∧ Blk w' g 48 [.int .i8 ((look TACLResourceType (normN l)).getD 0)] ∧ Ch (fun k => k = g) w w' := by
  refine Calls.of_CW Tryd.func23 rfl (by decide +kernel) (Nat.le_of_ble_eq_true (by kernel_rfl)) (CW.of_flat ?_)
  simp only [flat, List.cons_append, List.nil_append, List.append_nil]
  refine CWL.reg (ops := [(.assign (.const (Go.Value.nilIface)), 40)]) (b := [(4, 1)]) (by kernel_rfl) ?_
  refine OpK.assign ?_
  show CWL _ _ _ _ _ _
  refine CWL.reg (ops := [(.convert 26 9 (.tmp 2), 9), (.call ⟨.value (.func 22), #[.tmp 1], #[9]⟩, 51), (.extract (.tmp 3) 0, 48), (.extract (.tmp 3) 1, 40)]) (b := [(6, 7), (5, 5), (12, 7), (11, 5), (7, 3), (10, 3), (9, 1), (8, 2)]) (by kernel_rfl) ?_
  refine OpK.bytesStr und undU8 undS rfl hv ?_
  refine OpK.asCall rfl call22 rfl ((parseACLResourceType w l hl ha ht).mono ?_)
  rintro en w1 ⟨x, he, ⟨e, rfl, hPE⟩, hc1⟩
  refine ⟨_, he, ?_⟩
  refine OpK.extract rfl rfl ?_
  refine OpK.extract rfl rfl ?_
  show CWL _ _ _ _ _ _
  have hb1 := hb.keep (hc1.block g hb.lt fun h => h)
  refine CWL.reg (ops := [(.nilCheck (.tmp 0), 0), (.store 48 (.tmp 1) (.tmp 10), 0)]) (b := [(15, 1), (14, 10), (13, 0)]) (by kernel_rfl) ?_
  refine OpK.nilCheck rfl ?_
  refine OpK.store (a := ⟨g, 0, none⟩) (v := .int .i8 ((look TACLResourceType (normN l)).getD 0)) (by kernel_rfl) rfl rfl rfl (by rw [hb1.cell]; rfl) (hb1.free 0) ?_
  show CWL _ _ _ _ _ _
  refine CWL.reg (ops := []) (b := [(4, 12), (16, 12)]) (by kernel_rfl) ?_
  show CWL _ _ _ _ _ _
  refine CWL.ret ?_
  exact ⟨_, rfl, hPE, hb1.set 0 _, (hc1.mono fun _ _ h => h.elim : Ch (fun k => k = g) w w1).trans' (Ch.set (S := fun k => k = g) w1 (a := ⟨g, 0, none⟩) rfl _)⟩
theorem callO15 : Callable Tryd.prog 15 := ⟨Tryd.f15, Tryd.func15, by kernel_rfl, by kernel_rfl⟩
set_option maxHeartbeats 4000000 in
theorem ofTextACLResourceType (w : World) (v : Value) (l : List UInt8) (hv : SrcIs w (fun k => k < w.heap.size) l v) (hl : l.length ≤ 2147483648) (ha : Asc l) (ht : Tab w) :
    Calls Tryd.prog 15 #[v] w fun en w' => ∃ x, en = .returned x ∧ x = PO (look TACLResourceType (normN l)) ∧ Ch Old w w' := by
  refine Calls.of_CW Tryd.func15 rfl (by decide +kernel) (Nat.le_of_ble_eq_true (by kernel_rfl)) (CW.of_flat ?_)
  simp only [flat, List.cons_append, List.nil_append, List.append_nil]
  obtain ⟨ms, hms⟩ := undE
  refine CWL.reg (ops := [(.assign (.const (Go.Value.int Go.IntKind.i64 0)), 3), (.assign (.const (Go.Value.bool false)), 4)]) (b := [(3, 3), (2, 1)]) (by kernel_rfl) ?_
  refine OpK.assign ?_
  refine OpK.assign ?_
  show CWL _ _ _ _ _ _
  refine CWL.reg (ops := [(.alloc 48, 0)]) (b := [(4, 1)]) (by kernel_rfl) ?_
  refine OpK.allocZ [.int .i8 0] (by kernel_rfl) fun w1 g hb1 hc1 hg1 hs1 => ?_
  show CWL _ _ _ _ _ _
  obtain ⟨a, c, rfl, hac⟩ := hv.form
  have hv1 := hv.keepC hc1 fun k h => h
  obtain ⟨d2, w2, hr2, hg2⟩ := run_append_oct (P := Tryd.prog) (ty := 26) (t := 26) u8 und (Own.nil _ w1) (a := a) (l := l) (c := c) hv1.nilA hv1.octA (by simp only [List.length_nil, Lim]; omega)
  rw [List.nil_append] at hg2
  have hc2 := hg2.new_ch
  have hb2 := hb1.keep (hc2.block g hb1.lt fun h => h)
  refine CWL.reg (ops := [(.call ⟨.builtin .append, #[.const (Go.Value.slice none 0 0), .tmp 0], #[26, 26]⟩, 26), (.call ⟨.value (.func 23), #[.tmp 8, .tmp 1], #[48, 26]⟩, 40)]) (b := [(5, 3), (8, 3), (7, 1), (6, 0)]) (by kernel_rfl) ?_
  refine OpK.run rfl hr2 ?_
  refine OpK.asCall rfl callU23 rfl ((unmACLResourceType w2 g _ d2 l hb2 (hg2.own.src (by omega)) hl ha (tab_keep ht (hc1.trans' hc2))).mono ?_)
  rintro en w3 ⟨x, he, hPE, hb3, hc3⟩
  refine ⟨_, he, ?_⟩
  show CWL _ _ _ _ _ _
  have hc03 : Ch Old w w3 := (hc1.trans' hc2).trans hc3 fun k hk e => by omega
  cases hlk : look TACLResourceType (normN l) with
  | none =>
    rw [hlk] at hPE
    obtain ⟨t, v, rfl⟩ := (hPE.resolve_left fun h => by cases h.1).2
    refine CWL.reg (ops := [(.binOp .neq 40 (.tmp 10) (.const (Go.Value.nilIface)) 40, 4)]) (b := [(10, 1), (9, 10)]) (by kernel_rfl) ?_
    refine OpK.cmpNil (v := .iface t v) (b := true) hms rfl rfl (.inr ⟨⟨t, v, rfl⟩, rfl⟩) ?_
    show CWL _ _ _ _ _ _
    refine CWL.condT rfl ?_
    simp only [flat, List.cons_append, List.nil_append, List.append_nil]
    refine CWL.reg (ops := [(.assign (.const (Go.Value.int Go.IntKind.i64 0)), 3), (.assign (.const (Go.Value.bool false)), 4)]) (b := [(3, 3), (2, 1)]) (by kernel_rfl) ?_
    refine OpK.assign ?_
    refine OpK.assign ?_
    show CWL _ _ _ _ _ _
    refine CWL.ret ?_
    exact ⟨_, rfl, rfl, hc03⟩
  | some n =>
    obtain ⟨h0, h128⟩ := smallACLResourceType hlk
    rw [hlk] at hPE hb3
    obtain rfl := (hPE.resolve_right fun h => by cases h.1).2
    refine CWL.reg (ops := [(.binOp .neq 40 (.tmp 10) (.const (Go.Value.nilIface)) 40, 4)]) (b := [(10, 1), (9, 10)]) (by kernel_rfl) ?_
    refine OpK.cmpNil (v := .nilIface) (b := false) hms rfl rfl (.inl ⟨rfl, rfl⟩) ?_
    show CWL _ _ _ _ _ _
    refine CWL.condF rfl ?_
    simp only [flat, List.cons_append, List.nil_append, List.append_nil]
    refine CWL.reg (ops := [(.load 48 (.tmp 8), 48), (.convert 48 3 (.tmp 1), 3), (.assign (.const (Go.Value.bool true)), 4)]) (b := [(3, 5), (2, 3), (12, 3), (11, 1)]) (by kernel_rfl) ?_
    refine OpK.load (by kernel_rfl) rfl (hb3.cell 0) ?_
    refine OpK.convInt (k := .i8) (k' := .i64) (n := (some n).getD 0) (by kernel_rfl) (by kernel_rfl) rfl ?_
    refine OpK.assign ?_
    show CWL _ _ _ _ _ _
    refine CWL.ret ?_
    refine ⟨_, rfl, ?_, hc03⟩
    show Value.tuple #[.int .i64 (IntKind.i64.wrap n), .bool true] = .tuple #[.int .i64 n, .bool true]
    rw [show IntKind.i64.wrap n = n by rw [IntKind.wrap_i64]; omega]

/-! ### Rows of names -/
def cellsN (T : List (Int × List UInt8)) : List Value := T.flatMap fun e => [.int .i64 e.1, strV e.2]
def NamesAt (w : World) (T : List (Int × List UInt8)) (v : Value) : Prop := ∃ g c, v = .slice (some ⟨g, 0, none⟩) T.length c ∧ Blk w g 46 (cellsN T)
theorem NamesAt.keep {w w' : World} {T : List (Int × List UInt8)} {v : Value} (h : NamesAt w T v) (hc : Ch Old w w') : NamesAt w' T v := by
  obtain ⟨g, c, rfl, hb⟩ := h
  exact ⟨g, c, rfl, hb.keep (hc.block g hb.lt fun h => h)⟩
theorem cellsN_at (T : List (Int × List UInt8)) (i : Nat) (e : Int × List UInt8) (h : T[i]? = some e) : (cellsN T)[i * 2]? = some (.int .i64 e.1) ∧ (cellsN T)[i * 2 + 1]? = some (strV e.2) := by
  induction T generalizing i with
  | nil => simp at h
  | cons x T ih =>
    cases i with
    | zero => simp at h; subst h; exact ⟨rfl, rfl⟩
    | succ i =>
      have := ih i (by simpa using h)
      simp only [cellsN, List.flatMap_cons] at this ⊢
      rw [show (i + 1) * 2 = i * 2 + 2 by omega, show i * 2 + 2 + 1 = (i * 2 + 1) + 2 by omega]
      exact this
theorem names_at {w : World} {T : List (Int × List UInt8)} {g : Nat} (h : Blk w g 46 (cellsN T)) {i : Nat} {e : Int × List UInt8} (he : T[i]? = some e) : AtA w ((⟨g, 0, none⟩ : Addr).add (i * 2)) [.int .i64 e.1, strV e.2] := by
  obtain ⟨h1, h2⟩ := cellsN_at T i e he
  intro j v hj
  rw [add_add, add_lit, Nat.zero_add, h.cell]
  match j with
  | 0 => simp at hj; subst hj; exact h1
  | 1 => simp at hj; subst hj; exact h2
  | j + 2 => simp at hj
theorem callN9 : Callable Tryd.prog 9 := ⟨Tryd.f9, Tryd.func9, by kernel_rfl, by kernel_rfl⟩
set_option maxHeartbeats 4000000 in
theorem namesConfigResourceType (w : World) : Calls Tryd.prog 9 #[] w fun en w' => ∃ x, en = .returned x ∧ NamesAt w' NConfigResourceType x ∧ Ch Old w w' := by
  refine Calls.of_CW Tryd.func9 rfl (by decide +kernel) (Nat.le_of_ble_eq_true (by kernel_rfl)) (CW.of_flat ?_)
  simp only [flat, List.cons_append, List.nil_append, List.append_nil]
  have hr : (Instr.buildSlice 28 5 #[(0, .agg #[.int .i64 2, strV [84, 79, 80, 73, 67]]), (1, .agg #[.int .i64 4, strV [66, 82, 79, 75, 69, 82]]), (2, .agg #[.int .i64 8, strV [66, 82, 79, 75, 69, 82, 95, 76, 79, 71, 71, 69, 82]]), (3, .agg #[.int .i64 16, strV [67, 76, 73, 69, 78, 84, 95, 77, 69, 84, 82, 73, 67, 83]]), (4, .agg #[.int .i64 32, strV [71, 82, 79, 85, 80, 95, 67, 79, 78, 70, 73, 71]])]).run Tryd.prog w = .ok (.slice (some ⟨w.heap.size, 0, none⟩) 5 5) (w.alloc (.cells (cellsN NConfigResourceType).toArray 46)) := by
    obtain ⟨i, hi, hs⟩ := Option.map_eq_some_iff.1 sizeN
    have hz := zeroN'
    rw [hi, Option.bind_some] at hz
    simp [Instr.buildSlice, run_underlying (show Tryd.prog.underlying 28 = some (.slice 46) by kernel_rfl), sizeOf, typeInfo, hi, hs, hz, zeroValue, Instr.fill, Value.cells, newRow, cellsN, NConfigResourceType, strV]
    refine congrArg (fun c => w.alloc (.cells c 46)) (Array.ext' ?_)
    simp [List.range_succ, strV]
  refine CWL.reg (ops := [(.assign (.const (Go.Value.slice none 0 0)), 28)]) (b := [(0, 1)]) (by kernel_rfl) ?_
  refine OpK.assign ?_
  show CWL _ _ _ _ _ _
  refine CWL.reg (ops := [(.build 46 #[(0, .const (Go.Value.int Go.IntKind.i64 2)), (1, .const (Go.Value.string {data := #[84, 79, 80, 73, 67]}))], 46), (.build 46 #[(0, .const (Go.Value.int Go.IntKind.i64 4)), (1, .const (Go.Value.string {data := #[66, 82, 79, 75, 69, 82]}))], 46), (.build 46 #[(0, .const (Go.Value.int Go.IntKind.i64 8)), (1, .const (Go.Value.string {data := #[66, 82, 79, 75, 69, 82, 95, 76, 79, 71, 71, 69, 82]}))], 46), (.build 46 #[(0, .const (Go.Value.int Go.IntKind.i64 16)), (1, .const (Go.Value.string {data := #[67, 76, 73, 69, 78, 84, 95, 77, 69, 84, 82, 73, 67, 83]}))], 46), (.build 46 #[(0, .const (Go.Value.int Go.IntKind.i64 32)), (1, .const (Go.Value.string {data := #[71, 82, 79, 85, 80, 95, 67, 79, 78, 70, 73, 71]}))], 46), (.buildSlice 28 5 #[(0, .tmp 1), (1, .tmp 3), (2, .tmp 5), (3, .tmp 7), (4, .tmp 9)], 28)]) (b := [(0, 11), (6, 11), (5, 9), (4, 7), (3, 5), (2, 3), (1, 1)]) (by kernel_rfl) ?_
  refine OpK.build (cells := #[.int .i64 2, strV [84, 79, 80, 73, 67]]) (by kernel_rfl) ?_
  refine OpK.build (cells := #[.int .i64 4, strV [66, 82, 79, 75, 69, 82]]) (by kernel_rfl) ?_
  refine OpK.build (cells := #[.int .i64 8, strV [66, 82, 79, 75, 69, 82, 95, 76, 79, 71, 71, 69, 82]]) (by kernel_rfl) ?_
  refine OpK.build (cells := #[.int .i64 16, strV [67, 76, 73, 69, 78, 84, 95, 77, 69, 84, 82, 73, 67, 83]]) (by kernel_rfl) ?_
  refine OpK.build (cells := #[.int .i64 32, strV [71, 82, 79, 85, 80, 95, 67, 79, 78, 70, 73, 71]]) (by kernel_rfl) ?_
  refine OpK.buildS (by simp only [List.map_toArray, List.map_cons, List.map_nil]; exact hr) ?_
  show CWL _ _ _ _ _ _
  refine CWL.ret ?_
  exact ⟨_, rfl, ⟨_, _, rfl, Blk.new w _ _⟩, Ch.alloc _ w _⟩
theorem callN11 : Callable Tryd.prog 11 := ⟨Tryd.f11, Tryd.func11, by kernel_rfl, by kernel_rfl⟩
set_option maxHeartbeats 4000000 in
theorem namesACLResourceType (w : World) : Calls Tryd.prog 11 #[] w fun en w' => ∃ x, en = .returned x ∧ NamesAt w' NACLResourceType x ∧ Ch Old w w' := by
  refine Calls.of_CW Tryd.func11 rfl (by decide +kernel) (Nat.le_of_ble_eq_true (by kernel_rfl)) (CW.of_flat ?_)
  simp only [flat, List.cons_append, List.nil_append, List.append_nil]
  have hr : (Instr.buildSlice 28 7 #[(0, .agg #[.int .i64 1, strV [65, 78, 89]]), (1, .agg #[.int .i64 2, strV [84, 79, 80, 73, 67]]), (2, .agg #[.int .i64 3, strV [71, 82, 79, 85, 80]]), (3, .agg #[.int .i64 4, strV [67, 76, 85, 83, 84, 69, 82]]), (4, .agg #[.int .i64 5, strV [84, 82, 65, 78, 83, 65, 67, 84, 73, 79, 78, 65, 76, 95, 73, 68]]), (5, .agg #[.int .i64 6, strV [68, 69, 76, 69, 71, 65, 84, 73, 79, 78, 95, 84, 79, 75, 69, 78]]), (6, .agg #[.int .i64 7, strV [85, 83, 69, 82]])]).run Tryd.prog w = .ok (.slice (some ⟨w.heap.size, 0, none⟩) 7 7) (w.alloc (.cells (cellsN NACLResourceType).toArray 46)) := by
    obtain ⟨i, hi, hs⟩ := Option.map_eq_some_iff.1 sizeN
    have hz := zeroN'
    rw [hi, Option.bind_some] at hz
    simp [Instr.buildSlice, run_underlying (show Tryd.prog.underlying 28 = some (.slice 46) by kernel_rfl), sizeOf, typeInfo, hi, hs, hz, zeroValue, Instr.fill, Value.cells, newRow, cellsN, NACLResourceType, strV]
    refine congrArg (fun c => w.alloc (.cells c 46)) (Array.ext' ?_)
    simp [List.range_succ, strV]
  refine CWL.reg (ops := [(.assign (.const (Go.Value.slice none 0 0)), 28)]) (b := [(0, 1)]) (by kernel_rfl) ?_
  refine OpK.assign ?_
  show CWL _ _ _ _ _ _
  refine CWL.reg (ops := [(.build 46 #[(0, .const (Go.Value.int Go.IntKind.i64 1)), (1, .const (Go.Value.string {data := #[65, 78, 89]}))], 46), (.build 46 #[(0, .const (Go.Value.int Go.IntKind.i64 2)), (1, .const (Go.Value.string {data := #[84, 79, 80, 73, 67]}))], 46), (.build 46 #[(0, .const (Go.Value.int Go.IntKind.i64 3)), (1, .const (Go.Value.string {data := #[71, 82, 79, 85, 80]}))], 46), (.build 46 #[(0, .const (Go.Value.int Go.IntKind.i64 4)), (1, .const (Go.Value.string {data := #[67, 76, 85, 83, 84, 69, 82]}))], 46), (.build 46 #[(0, .const (Go.Value.int Go.IntKind.i64 5)), (1, .const (Go.Value.string {data := #[84, 82, 65, 78, 83, 65, 67, 84, 73, 79, 78, 65, 76, 95, 73, 68]}))], 46), (.build 46 #[(0, .const (Go.Value.int Go.IntKind.i64 6)), (1, .const (Go.Value.string {data := #[68, 69, 76, 69, 71, 65, 84, 73, 79, 78, 95, 84, 79, 75, 69, 78]}))], 46), (.build 46 #[(0, .const (Go.Value.int Go.IntKind.i64 7)), (1, .const (Go.Value.string {data := #[85, 83, 69, 82]}))], 46), (.buildSlice 28 7 #[(0, .tmp 1), (1, .tmp 3), (2, .tmp 5), (3, .tmp 7), (4, .tmp 9), (5, .tmp 11), (6, .tmp 13)], 28)]) (b := [(0, 15), (8, 15), (7, 13), (6, 11), (5, 9), (4, 7), (3, 5), (2, 3), (1, 1)]) (by kernel_rfl) ?_
  refine OpK.build (cells := #[.int .i64 1, strV [65, 78, 89]]) (by kernel_rfl) ?_
  refine OpK.build (cells := #[.int .i64 2, strV [84, 79, 80, 73, 67]]) (by kernel_rfl) ?_
  refine OpK.build (cells := #[.int .i64 3, strV [71, 82, 79, 85, 80]]) (by kernel_rfl) ?_
  refine OpK.build (cells := #[.int .i64 4, strV [67, 76, 85, 83, 84, 69, 82]]) (by kernel_rfl) ?_
  refine OpK.build (cells := #[.int .i64 5, strV [84, 82, 65, 78, 83, 65, 67, 84, 73, 79, 78, 65, 76, 95, 73, 68]]) (by kernel_rfl) ?_
  refine OpK.build (cells := #[.int .i64 6, strV [68, 69, 76, 69, 71, 65, 84, 73, 79, 78, 95, 84, 79, 75, 69, 78]]) (by kernel_rfl) ?_
  refine OpK.build (cells := #[.int .i64 7, strV [85, 83, 69, 82]]) (by kernel_rfl) ?_
  refine OpK.buildS (by simp only [List.map_toArray, List.map_cons, List.map_nil]; exact hr) ?_
  show CWL _ _ _ _ _ _
  refine CWL.ret ?_
  exact ⟨_, rfl, ⟨_, _, rfl, Blk.new w _ _⟩, Ch.alloc _ w _⟩

theorem undN : Tryd.prog.underlying 28 = some (.slice 46) := by kernel_rfl
theorem aggN : aggSize Tryd.prog 46 = some 2 := by kernel_rfl
theorem call19 : Callable Tryd.prog 19 := ⟨Tryd.f19, Tryd.func19, by kernel_rfl, by kernel_rfl⟩
set_option maxHeartbeats 4000000 in
theorem parsedN (w : World) (T : List (Int × List UInt8)) (v : Value) (l : List UInt8) (hv : NamesAt w T v) (hl : l.length ≤ 2147483648) (hT : T.length ≤ 1000 ∧ ∀ e ∈ T, e.2.length ≤ 1000) :
    Calls Tryd.prog 19 #[v, strV l] w fun en w' => ∃ x, en = .returned x ∧ x = PO (lookN T l) ∧ Ch Old w w' := by
  refine Calls.of_CW Tryd.func19 rfl (by decide +kernel) (Nat.le_of_ble_eq_true (by kernel_rfl)) (CW.of_flat ?_)
  simp only [flat, List.cons_append, List.nil_append, List.append_nil]
  have hv0 := hv
  obtain ⟨g, c, rfl, hb⟩ := hv
  refine CWL.reg (ops := [(.assign (.const (Go.Value.int Go.IntKind.i64 0)), 3), (.assign (.const (Go.Value.bool false)), 4)]) (b := [(5, 3), (4, 1)]) (by kernel_rfl) ?_
  refine OpK.assign ?_
  refine OpK.assign ?_
  show CWL _ _ _ _ _ _
  refine CWL.reg (ops := [(.call ⟨.builtin .len, #[.tmp 0], #[28]⟩, 3), (.move (.const (Go.Value.int Go.IntKind.i64 0)), 3)]) (b := [(10, 3), (9, 1), (8, 0)]) (by kernel_rfl) ?_
  refine OpK.len (e := 46) (by kernel_rfl) rfl ?_
  refine OpK.move ?_
  show CWL _ _ _ _ _ _
  refine CWL.cons (CW.block (CW.loop (fun m σ wl => ∃ i, m + i = T.length ∧ Ch Old w wl ∧ σ 1 = strV l ∧ σ 8 = .slice (some ⟨g, 0, none⟩) T.length c ∧ σ 9 = .int .i64 (T.length : Int) ∧ σ 10 = .int .i64 (i : Int) ∧ (∀ e ∈ T.take i, (normN e.2 == normN l) = false)) T.length
    ⟨0, by simp, Ch.refl _ _, rfl, rfl, rfl, rfl, by simp⟩ ?_))
  rintro m σ wl ⟨i, hm, hc, e1, e8, e9, e10, hno⟩
  refine CW.pin [(1, strV l), (8, .slice (some ⟨g, 0, none⟩) T.length c), (9, .int .i64 (T.length : Int)), (10, .int .i64 (i : Int))] (all_pin e1 (all_pin e8 (all_pin e9 (all_pin e10 (fun _ h => by cases h))))) fun σ => ?_
  simp only [flat, List.cons_append, List.nil_append, List.append_nil]
  refine CWL.reg (ops := [(.binOp .lss 3 (.tmp 20) (.tmp 18) 3, 0)]) (b := [(11, 1)]) (by kernel_rfl) ?_
  refine OpK.cmp rfl rfl rfl ?_
  show CWL _ _ _ _ _ _
  by_cases hlt : i < T.length
  · refine CWL.condT (congrArg Value.bool (decide_eq_true (by omega))) ?_
    simp only [flat, List.cons_append, List.nil_append, List.append_nil]
    refine CWL.block ?_
    simp only [flat, List.cons_append, List.nil_append, List.append_nil]
    have he : T[i]? = some T[i] := List.getElem?_eq_getElem hlt
    have hmem : T[i] ∈ T := List.getElem_mem hlt
    generalize T[i] = e at he hmem
    have hbl := hb.keep (hc.block g hb.lt fun h => h)
    have hat := names_at hbl he
    refine CWL.reg (ops := [(.indexAddr 28 (.tmp 16) (.tmp 20), 0), (.load 46 (.tmp 1), 46), (.alloc 46, 0), (.store 46 (.tmp 5) (.tmp 3), 0)]) (b := [(7, 5), (13, 3), (12, 1)]) (by kernel_rfl) ?_
    refine OpK.indexAddr (s := 2) (j := i) (by kernel_rfl) rfl rfl hlt ?_
    refine OpK.loadA (n := 2) aggN rfl hat rfl ?_
    refine OpK.allocZ [.int .i64 0, strV []] zeroN fun w1 q hb1 hc1 hq1 hs1 => ?_
    refine OpK.storeG (cs := [.int .i64 0, strV []]) (us := [.int .i64 e.1, strV e.2]) sizeN rfl rfl (by intro u hu; simp only [List.mem_cons, List.not_mem_nil, or_false] at hu; rcases hu with rfl | rfl <;> rfl) hb1 rfl fun w2 hb2 hc2 hs2 => ?_
    show CWL _ _ _ _ _ _
    have hc02 : Ch Old w w2 := (hc.trans' hc1).trans hc2 fun k hk e => by have := (hc.size); omega
    refine CWL.reg (ops := [(.fieldAddr 46 (.tmp 14) 1, 0), (.load 9 (.tmp 1), 9), (.call ⟨.value (.func 16), #[.tmp 3], #[9]⟩, 9), (.call ⟨.value (.func 16), #[.tmp 2], #[9]⟩, 9), (.binOp .eql 9 (.tmp 5) (.tmp 7) 9, 4)]) (b := [(19, 9), (18, 7), (17, 2), (16, 5), (15, 3), (14, 1)]) (by kernel_rfl) ?_
    refine OpK.fieldAddr (off := 1) (by kernel_rfl) rfl ?_
    refine OpK.load (by kernel_rfl) rfl (hb2.cell 1) ?_
    refine OpK.asCall rfl call16 rfl ((normal w2 e.2 (by have := hT.2 e hmem; omega)).mono ?_)
    rintro en w3 ⟨x, hx, rfl, hc3⟩
    refine ⟨_, hx, ?_⟩
    refine OpK.asCall rfl call16 rfl ((normal w3 l hl).mono ?_)
    rintro en w4 ⟨x, hx, rfl, hc4⟩
    refine ⟨_, hx, ?_⟩
    refine OpK.eqS (a := normN e.2) (b := normN l) rfl rfl ?_
    show CWL _ _ _ _ _ _
    have hb4 := (hb2.keep (hc3.block q hb2.lt fun h => h)).keep (hc4.block q (Nat.lt_of_lt_of_le hb2.lt hc3.size) fun h => h)
    have hc04 := (hc02.trans' hc3).trans' hc4
    cases heq : (normN e.2 == normN l) with
    | true =>
      refine CWL.condT rfl ?_
      simp only [flat, List.cons_append, List.nil_append, List.append_nil]
      refine CWL.reg (ops := [(.fieldAddr 46 (.tmp 14) 0, 0), (.load 3 (.tmp 1), 3), (.assign (.const (Go.Value.bool true)), 4)]) (b := [(5, 5), (4, 3), (21, 3), (20, 1)]) (by kernel_rfl) ?_
      refine OpK.fieldAddr (off := 0) (by kernel_rfl) rfl ?_
      refine OpK.load (by kernel_rfl) rfl (hb4.cell 0) ?_
      refine OpK.assign ?_
      show CWL _ _ _ _ _ _
      refine CWL.ret ?_
      refine ⟨_, rfl, ?_, hc04⟩
      have hlk : lookN T l = some e.1 := by
        unfold lookN
        obtain ⟨hi', he'⟩ := List.getElem?_eq_some_iff.1 he
        rw [← List.take_append_drop i T, List.find?_append, List.drop_eq_getElem_cons hi', he', List.find?_cons, heq]
        rw [List.find?_eq_none.2 fun y hy => by rw [hno y hy]; decide]
        rfl
      rw [hlk]
      rfl
    | false =>
      refine CWL.condF rfl ?_
      simp only [flat, List.cons_append, List.nil_append, List.append_nil]
      try refine CWL.nil_ (P := Tryd.prog) (n := 0) ?_
      show CWL _ _ _ _ _ _
      have hi1 := i64_succ i (by omega)
      refine CWL.reg (ops := [(.binOp .add 3 (.tmp 20) (.const (Go.Value.int Go.IntKind.i64 1)) 3, 3)]) (b := [(10, 1), (22, 1)]) (by kernel_rfl) ?_
      refine OpK.arith (r := ((i + 1 : Nat) : Int)) (by rw [← hi1]; rfl) rfl rfl ?_
      show CWL _ _ _ _ _ _
      try refine CWL.nil_ (P := Tryd.prog) (n := 0) ?_
      refine ⟨m - 1, by omega, i + 1, by omega, hc04, rfl, rfl, rfl, rfl, fun y hy => ?_⟩
      rw [List.take_add_one, he] at hy
      rcases List.mem_append.1 hy with hy | hy
      · exact hno y hy
      · simp only [Option.toList_some, List.mem_singleton] at hy
        rw [hy]; exact heq
  · refine CWL.condF (congrArg Value.bool (decide_eq_false (by omega))) ?_
    simp only [flat, List.cons_append, List.nil_append, List.append_nil]
    refine CWL.cons (CW.exit ?_)
    show CWL _ _ _ _ _ _
    refine CWL.reg (ops := [(.assign (.const (Go.Value.int Go.IntKind.i64 0)), 3), (.assign (.const (Go.Value.bool false)), 4)]) (b := [(5, 3), (4, 1)]) (by kernel_rfl) ?_
    refine OpK.assign ?_
    refine OpK.assign ?_
    show CWL _ _ _ _ _ _
    refine CWL.ret ?_
    refine ⟨_, rfl, ?_, hc⟩
    rw [List.take_of_length_le (by omega)] at hno
    have hlk : lookN T l = none := by
      unfold lookN
      rw [List.find?_eq_none.2 fun y hy => by rw [hno y hy]; decide]
      rfl
    rw [hlk]
    rfl

/-! ### What is asked of a text -/
theorem call5 : Callable Tryd.prog 5 := ⟨Tryd.f5, Tryd.func5, by kernel_rfl, by kernel_rfl⟩
set_option maxHeartbeats 4000000 in
theorem plain (w : World) (l : List UInt8) (hl : l.length ≤ 2147483648) : Calls Tryd.prog 5 #[strV l] w fun en w' => ∃ x, en = .returned x ∧ (∃ p, x = .bool p ∧ (p = true → l.length ≤ 200 ∧ Asc l)) ∧ Ch Old w w' := by
  refine Calls.of_CW Tryd.func5 rfl (by decide +kernel) (Nat.le_of_ble_eq_true (by kernel_rfl)) (CW.of_flat ?_)
  simp only [flat, List.cons_append, List.nil_append, List.append_nil]
  refine CWL.reg (ops := [(.assign (.const (Go.Value.bool false)), 4)]) (b := [(2, 1)]) (by kernel_rfl) ?_
  refine OpK.assign ?_
  show CWL _ _ _ _ _ _
  refine CWL.joinN 1 (fun σ' w' => ∃ p, σ' 0 = strV l ∧ σ' 11 = .bool p ∧ (p = false → l.length ≤ 200) ∧ Ch Old w w') ?_ ?_
  · simp only [List.take_succ_cons, List.take_zero]
    by_cases hlong : (l.length : Int) > 200
    · skip
      refine CWL.cons (CW.region ?_)
      refine RW.want rfl ?_
      refine OpK.move ?_
      refine RW.want rfl ?_
      refine OpK.lenS (by kernel_rfl) rfl ?_
      refine RW.want rfl ?_
      refine OpK.cmp (r := true) (a := (l.length : Int)) (b := 200) (by simp only [cmpB]; congr 1; exact decide_eq_true hlong) rfl rfl ?_
      refine RW.want rfl ?_
      refine OpK.move ?_
      refine RW.skip rfl ?_
      refine RW.skip rfl ?_
      refine RW.skip rfl ?_
      refine RW.want rfl ?_
      refine OpK.pick rfl ?_
      refine RW.z ?_
      exact ⟨true, rfl, rfl, (fun h => by cases h), Ch.refl _ _⟩
    · skip
      refine CWL.cons (CW.region ?_)
      refine RW.want rfl ?_
      refine OpK.move ?_
      refine RW.want rfl ?_
      refine OpK.lenS (by kernel_rfl) rfl ?_
      refine RW.want rfl ?_
      refine OpK.cmp (r := false) (a := (l.length : Int)) (b := 200) (by simp only [cmpB]; congr 1; exact decide_eq_false hlong) rfl rfl ?_
      refine RW.want rfl ?_
      refine OpK.move ?_
      refine RW.want rfl ?_
      refine OpK.move ?_
      refine RW.want rfl ?_
      refine OpK.asCall rfl call16 rfl ((normal w l hl).mono ?_)
      rintro en w1 ⟨x, hx, rfl, hc1⟩
      refine ⟨_, hx, ?_⟩
      refine RW.want rfl ?_
      refine OpK.eqS (a := normN l) (b := [117, 110, 107, 110, 111, 119, 110]) rfl rfl ?_
      refine RW.want rfl ?_
      refine OpK.pick rfl ?_
      refine RW.z ?_
      exact ⟨_, rfl, rfl, fun _ => by omega, hc1⟩
  rintro σ w1 ⟨p, e0, e11, hp, hc1⟩
  simp only [List.drop_succ_cons, List.drop_zero]
  refine CWL.pinT [(0, strV l), (11, .bool p)] (all_pin e0 (all_pin e11 (fun _ h => by cases h))) fun σ => ?_
  cases p with
  | true =>
    refine CWL.condT rfl ?_
    simp only [flat, List.cons_append, List.nil_append, List.append_nil]
    refine CWL.reg (ops := [(.assign (.const (Go.Value.bool false)), 4)]) (b := [(2, 1)]) (by kernel_rfl) ?_
    refine OpK.assign ?_
    show CWL _ _ _ _ _ _
    refine CWL.ret ?_
    exact ⟨_, rfl, ⟨false, rfl, fun h => by cases h⟩, hc1⟩
  | false =>
    refine CWL.condF rfl ?_
    simp only [flat, List.cons_append, List.nil_append, List.append_nil]
    try refine CWL.nil_ (P := Tryd.prog) (n := 0) ?_
    show CWL _ _ _ _ _ _
    refine CWL.reg (ops := [(.assign (.const (Go.Value.int Go.IntKind.i64 0)), 3)]) (b := [(3, 1)]) (by kernel_rfl) ?_
    refine OpK.assign ?_
    show CWL _ _ _ _ _ _
    refine CWL.cons (CW.block (CW.loop (fun m σ wl => ∃ i : Nat, m + i = l.length ∧ wl = w1 ∧ σ 0 = strV l ∧ σ 3 = .int .i64 (i : Int) ∧ Asc (l.take i)) l.length ⟨0, by simp, rfl, rfl, rfl, fun _ h => by simp at h⟩ ?_))
    rintro m σ wl ⟨i, hm, rfl, e0, e3, has⟩
    refine CW.pin [(0, strV l), (3, .int .i64 (i : Int))] (all_pin e0 (all_pin e3 (fun _ h => by cases h))) fun σ => ?_
    simp only [flat, List.cons_append, List.nil_append, List.append_nil]
    refine CWL.reg (ops := [(.call ⟨.builtin .len, #[.tmp 0], #[9]⟩, 3), (.binOp .lss 3 (.tmp 6) (.tmp 1) 3, 4)]) (b := [(15, 3), (14, 1), (13, 0), (12, 6)]) (by kernel_rfl) ?_
    refine OpK.lenS (by kernel_rfl) rfl ?_
    refine OpK.cmp rfl rfl rfl ?_
    show CWL _ _ _ _ _ _
    by_cases hlt : i < l.length
    · refine CWL.condT (congrArg Value.bool (decide_eq_true (by omega))) ?_
      simp only [flat, List.cons_append, List.nil_append, List.append_nil]
      refine CWL.block ?_
      simp only [flat, List.cons_append, List.nil_append, List.append_nil]
      have hb : l[i]? = some l[i] := List.getElem?_eq_getElem hlt
      generalize l[i] = b at hb
      refine CWL.reg (ops := [(.index 9 (.tmp 0) (.tmp 6), 5), (.binOp .gtr 5 (.tmp 1) (.const (Go.Value.int Go.IntKind.u8 127)) 5, 4)]) (b := [(21, 3), (20, 1), (19, 6), (18, 0)]) (by kernel_rfl) ?_
      refine OpK.indexS (j := i) undS rfl rfl hb ?_
      refine OpK.cmp rfl rfl rfl ?_
      show CWL _ _ _ _ _ _
      by_cases hbig : (b.toNat : Int) > 127
      · refine CWL.condT (congrArg Value.bool (decide_eq_true hbig)) ?_
        simp only [flat, List.cons_append, List.nil_append, List.append_nil]
        refine CWL.reg (ops := [(.assign (.const (Go.Value.bool false)), 4)]) (b := [(2, 1)]) (by kernel_rfl) ?_
        refine OpK.assign ?_
        show CWL _ _ _ _ _ _
        refine CWL.ret ?_
        exact ⟨_, rfl, ⟨false, rfl, fun h => by cases h⟩, hc1⟩
      · refine CWL.condF (congrArg Value.bool (decide_eq_false hbig)) ?_
        simp only [flat, List.cons_append, List.nil_append, List.append_nil]
        try refine CWL.nil_ (P := Tryd.prog) (n := 0) ?_
        show CWL _ _ _ _ _ _
        have hi1 := i64_succ i (by omega)
        refine CWL.reg (ops := [(.binOp .add 3 (.tmp 6) (.const (Go.Value.int Go.IntKind.i64 1)) 3, 3)]) (b := [(3, 1), (17, 1), (16, 6)]) (by kernel_rfl) ?_
        refine OpK.arith (r := ((i + 1 : Nat) : Int)) (by rw [← hi1]; rfl) rfl rfl ?_
        show CWL _ _ _ _ _ _
        try refine CWL.nil_ (P := Tryd.prog) (n := 0) ?_
        refine ⟨m - 1, by omega, i + 1, by omega, rfl, rfl, rfl, fun y hy => ?_⟩
        rw [List.take_add_one, hb] at hy
        rcases List.mem_append.1 hy with hy | hy
        · exact has y hy
        · simp only [Option.toList_some, List.mem_singleton] at hy
          subst hy; omega
    · refine CWL.condF (congrArg Value.bool (decide_eq_false (by omega))) ?_
      simp only [flat, List.cons_append, List.nil_append, List.append_nil]
      refine CWL.cons (CW.exit ?_)
      show CWL _ _ _ _ _ _
      refine CWL.reg (ops := [(.assign (.const (Go.Value.bool true)), 4)]) (b := [(2, 1)]) (by kernel_rfl) ?_
      refine OpK.assign ?_
      show CWL _ _ _ _ _ _
      refine CWL.ret ?_
      rw [List.take_of_length_le (by omega)] at has
      exact ⟨_, rfl, ⟨true, rfl, fun _ => ⟨hp rfl, has⟩⟩, hc1⟩


end Go.Proofs.YtagmcjolgfkcaaaDoor.Txt
