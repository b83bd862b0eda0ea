/- What the reference's functions write of values, fields and parts. -/
import Derived.Test.YthcpchmmpnakaaaGreatDoorKxSpecW
import Derived.Test.YthcpchmmpnakaaaGreatDoorKxAgn
namespace Go.Proofs.YthcpchmmpnakaaaGreatDoor.Sp
open Go.Kx Go.RowKit Go.Proofs
set_option maxRecDepth 100000
set_option linter.unusedSimpArgs false
set_option linter.unusedVariables false

/-- What a part is written as. -/
def PartAt (ver : Int) (fx : Bool) (pt : List Fld → Tr → List UInt8) (sub : List Fld) : Prop := ∀ (w : World) (B dd : Nat) (v : Value) (t : Tr) (cs : List Value), B ≤ w.heap.size → FldsIs w B dd sub v → TrIs w B t cs → (pt sub t).length ≤ Lim →
  Calls Tryz.prog 14 #[v, .int .i64 ver, .bool fx, .agg cs.toArray] w fun en w' => ∃ x, en = .returned x ∧ New w w' x (pt sub t)
theorem call14 : Callable Tryz.prog 14 := ⟨Tryz.f14, Tryz.func14, by kernel_rfl, by kernel_rfl⟩
theorem aggF : aggSize Tryz.prog 46 = some 8 := by kernel_rfl

theorem call47 : Callable Tryz.prog 47 := ⟨Tryz.f47, Tryz.func47, by kernel_rfl, by kernel_rfl⟩
set_option maxHeartbeats 8000000 in
theorem value (w : World) (B dd : Nat) (hB : B ≤ w.heap.size) (ver : Int) (fx null : Bool) (pt : List Fld → Tr → List UInt8) (kind : Int) (sub : List Fld) (vsub : Value) (hF : FldsIs w B dd sub vsub) (t : Tr) (cs : List Value) (hT : TrIs w B t cs) (hP : kind = 10 → PartAt ver fx pt sub)
    (hl0 : (valL pt kind sub null fx t).length ≤ Lim) : Calls Tryz.prog 47 #[.int .i64 kind, vsub, .bool null, .int .i64 ver, .bool fx, .agg cs.toArray] w fun en w' => ∃ x, en = .returned x ∧ New w w' x (valL pt kind sub null fx t) := by
  have hT0 := hT
  cases hT with
  | @mk n s tn l u vs vl vu cells hn hs hl hc hu =>
  refine Calls.of_CW Tryz.func47 rfl (by decide +kernel) (Nat.le_of_ble_eq_true (by kernel_rfl)) (CW.of_flat ?_)
  simp only [flat, List.cons_append, List.nil_append, List.append_nil]
  refine CWL.reg (ops := [(.box 26 (.tmp 10), 0), (.assign (.const (Go.Value.slice none 0 0)), 22)]) (b := [(12, 3), (11, 1)]) (by kernel_rfl) ?_
  refine OpK.boxG (cs := [.int .i64 n, vs, .bool tn, vl, vu]) rfl fun w1 g hb hc1 hg hs1 => ?_
  refine OpK.assign ?_
  show CWL _ _ _ _ _ _
  have hk1 : ∀ k, k < B → w1.heap[k]? = w.heap[k]? := fun k hk => hc1.block k (by omega) fun h => h
  refine CWL.reg (ops := []) (b := [(16, 0)]) (by kernel_rfl) ?_
  show CWL _ _ _ _ _ _
  refine CWL.block ?_
  simp only [flat, List.cons_append, List.nil_append, List.append_nil]
  refine CWL.reg (ops := [(.binOp .eql 3 (.tmp 32) (.const (Go.Value.int Go.IntKind.i64 0)) 3, 4)]) (b := [(17, 1), (18, 1)]) (by kernel_rfl) ?_
  refine OpK.cmp rfl rfl rfl ?_
  show CWL _ _ _ _ _ _
  by_cases h0 : kind = 0
  · subst h0
    refine CWL.condT rfl ?_
    simp only [flat, List.cons_append, List.nil_append, List.append_nil]
    refine CWL.reg (ops := [(.fieldAddr 26 (.tmp 22) 0, 0), (.load 2 (.tmp 1), 2), (.binOp .and 2 (.tmp 3) (.const (Go.Value.int Go.IntKind.i64 1)) 2, 2), (.convert 2 5 (.tmp 5), 5), (.buildSlice 22 1 #[(0, .tmp 7)], 22)]) (b := [(12, 9), (23, 9), (22, 7), (21, 5), (20, 3), (19, 1)]) (by kernel_rfl) ?_
    refine OpK.fieldAddr (off := 0) (by kernel_rfl) rfl ?_
    refine OpK.load (by kernel_rfl) rfl (hb.cell 0) ?_
    refine OpK.and rfl rfl ?_
    refine OpK.convInt (k' := .u8) (by kernel_rfl) (by kernel_rfl) rfl ?_
    refine OpK.buildS (by simp only [List.map_toArray, List.map_cons, List.map_nil]; exact run_bs1 und u8 _) ?_
    show CWL _ _ _ _ _ _
    refine CWL.ret ?_
    refine ⟨_, rfl, ?_⟩
    have e : valL pt 0 sub null fx (Tr.mk n s tn l u) = [UInt8.ofNat (n % 2).toNat] := by simp [valL, Tr.n]
    rw [e]
    have h1 := new_one (P := Tryz.prog) u8 w1 (UInt8.ofNat (n % 2).toNat)
    have h2 := i64_and1 n
    unfold bv at h2
    rw [← h2] at h1
    exact h1.pre hc1
  refine CWL.condF (congrArg Value.bool (beq_eq_false_iff_ne.2 h0)) ?_
  simp only [flat, List.cons_append, List.nil_append, List.append_nil]
  refine CWL.reg (ops := [(.binOp .eql 3 (.tmp 32) (.const (Go.Value.int Go.IntKind.i64 7)) 3, 4)]) (b := [(24, 1), (25, 1)]) (by kernel_rfl) ?_
  refine OpK.cmp rfl rfl rfl ?_
  show CWL _ _ _ _ _ _
  by_cases h7 : kind = 7
  · subst h7
    refine CWL.condT rfl ?_
    simp only [flat, List.cons_append, List.nil_append, List.append_nil]
    refine CWL.reg (ops := [(.makeSlice 22 (.const (Go.Value.int Go.IntKind.i64 16)) (.const (Go.Value.int Go.IntKind.i64 16)), 22)]) (b := [(13, 1), (26, 1)]) (by kernel_rfl) ?_
    refine OpK.makeB und u8 rfl rfl fun w2 g2 hb2 hc2 hg2 hs2 => ?_
    show CWL _ _ _ _ _ _
    have hbt2 := hb.ch hc2
    have hs2' := hs.keep fun k hk => (hc2.block k (by omega) fun h => h).trans (hk1 k hk)
    obtain ⟨va, vc, rfl, hv3, hv4, hv5, hv6⟩ := hs2'
    refine CWL.reg (ops := [(.fieldAddr 26 (.tmp 22) 1, 0), (.load 22 (.tmp 1), 22), (.call ⟨.builtin .copy, #[.tmp 26, .tmp 3], #[22, 22]⟩, 3)]) (b := [(30, 5), (29, 3), (28, 1), (27, 26)]) (by kernel_rfl) ?_
    refine OpK.fieldAddr (off := 1) (by kernel_rfl) rfl ?_
    refine OpK.load (by kernel_rfl) rfl (hbt2.cell 1) ?_
    refine OpK.copyB (l := s) und (by kernel_rfl) rfl rfl hv5 (fun a' h => (hv6 a' h).1) hb2 fun r w3 hb3 hc3 => ?_
    show CWL _ _ _ _ _ _
    refine CWL.reg (ops := []) (b := [(12, 26), (31, 26)]) (by kernel_rfl) ?_
    show CWL _ _ _ _ _ _
    refine CWL.ret ?_
    refine ⟨_, rfl, ?_⟩
    have e : valL pt 7 sub null fx (Tr.mk n s tn l u) = uuidL s := by simp [valL, Tr.s]
    rw [e]
    have hc13 : Ch (fun _ => False) w1 w3 := hc2.trans hc3 fun k hk e => by omega
    exact (new_uuid hb3 hc13 (by omega)).pre hc1
  refine CWL.condF (congrArg Value.bool (beq_eq_false_iff_ne.2 h7)) ?_
  simp only [flat, List.cons_append, List.nil_append, List.append_nil]
  refine CWL.reg (ops := [(.binOp .eql 3 (.tmp 32) (.const (Go.Value.int Go.IntKind.i64 8)) 3, 4)]) (b := [(32, 1), (33, 1)]) (by kernel_rfl) ?_
  refine OpK.cmp rfl rfl rfl ?_
  show CWL _ _ _ _ _ _
  by_cases h8 : kind = 8
  · subst h8
    refine CWL.condT rfl ?_
    simp only [flat, List.cons_append, List.nil_append, List.append_nil]
    have hs1 := hs.keep hk1
    refine CWL.reg (ops := [(.fieldAddr 26 (.tmp 22) 1, 0), (.load 22 (.tmp 1), 22), (.call ⟨.value (.func 28), #[.tmp 3], #[22]⟩, 22)]) (b := [(14, 5), (36, 5), (35, 3), (34, 1)]) (by kernel_rfl) ?_
    refine OpK.fieldAddr (off := 1) (by kernel_rfl) rfl ?_
    refine OpK.load (by kernel_rfl) rfl (hb.cell 1) ?_
    refine OpK.asCall rfl call28 rfl ((whole w1 B s vs hs1).mono ?_)
    rintro en w2 ⟨v2, he2, hv2, rfl⟩
    refine ⟨_, he2, ?_⟩
    show CWL _ _ _ _ _ _
    refine CWL.reg (ops := []) (b := [(37, 4)]) (by kernel_rfl) ?_
    show CWL _ _ _ _ _ _
    have hwl := wholeL_len s
    cases null with
    | true =>
      refine CWL.condT rfl ?_
      simp only [flat, List.cons_append, List.nil_append, List.append_nil]
      refine CWL.reg (ops := [(.assign (.const (Go.Value.slice none 0 0)), 22)]) (b := [(14, 1)]) (by kernel_rfl) ?_
      refine OpK.assign ?_
      show CWL _ _ _ _ _ _
      try refine CWL.nil_ (P := Tryz.prog) (n := 0) ?_
      show CWL _ _ _ _ _ _
      refine CWL.reg (ops := [(.call ⟨.builtin .len, #[.tmp 28], #[22]⟩, 3), (.call ⟨.value (.func 46), #[.tmp 8, .tmp 4, .tmp 1, .const (Go.Value.int Go.IntKind.i64 2)], #[4, 4, 3, 3]⟩, 22), (.call ⟨.builtin .append, #[.tmp 3, .tmp 28], #[22, 22]⟩, 22)]) (b := [(12, 5), (44, 5), (43, 28), (42, 3), (41, 1), (40, 28), (39, 4), (38, 8)]) (by kernel_rfl) ?_
      refine OpK.len (e := 5) (by kernel_rfl) rfl ?_
      refine OpK.asCall rfl call46 rfl ((counted w2 fx true 0 2 (by omega) (by omega)).mono ?_)
      rintro en w3 ⟨d3, he3, hg3⟩
      refine ⟨_, he3, ?_⟩
      have hl3 : (countedL fx true 0 2).length ≤ 4 := countedL_len (by omega) (by omega)
      obtain ⟨d4, w4, hr4, hg4⟩ := run_append_oct (P := Tryz.prog) (ty := 22) (t := 22) u8 und hg3.own (a := none) (l := []) (c := 0) (fun _ => rfl) (fun _ h => by cases h) (by simp only [List.length_nil, Lim]; omega)
      refine OpK.run rfl hr4 ?_
      show CWL _ _ _ _ _ _
      refine CWL.ret ?_
      refine ⟨_, rfl, ?_⟩
      have e : valL pt 8 sub true fx (Tr.mk n s tn l u) = countedL fx true 0 2 ++ [] := by simp [valL]
      rw [e]
      exact (hg3.more hg4).pre hc1
    | false =>
      refine CWL.condF rfl ?_
      simp only [flat, List.cons_append, List.nil_append, List.append_nil]
      try refine CWL.nil_ (P := Tryz.prog) (n := 0) ?_
      show CWL _ _ _ _ _ _
      obtain ⟨va, vc, rfl, hv3, hv4, hv5, hv6⟩ := hv2
      refine CWL.reg (ops := [(.call ⟨.builtin .len, #[.tmp 28], #[22]⟩, 3), (.call ⟨.value (.func 46), #[.tmp 8, .tmp 4, .tmp 1, .const (Go.Value.int Go.IntKind.i64 2)], #[4, 4, 3, 3]⟩, 22), (.call ⟨.builtin .append, #[.tmp 3, .tmp 28], #[22, 22]⟩, 22)]) (b := [(12, 5), (44, 5), (43, 28), (42, 3), (41, 1), (40, 28), (39, 4), (38, 8)]) (by kernel_rfl) ?_
      refine OpK.len (e := 5) (by kernel_rfl) rfl ?_
      refine OpK.asCall rfl call46 rfl ((counted w2 fx false (wholeL s).length 2 hwl (by omega)).mono ?_)
      rintro en w3 ⟨d3, he3, hg3⟩
      refine ⟨_, he3, ?_⟩
      have hl3 : (countedL fx false (wholeL s).length 2).length ≤ 4 := countedL_len (by omega) (by omega)
      obtain ⟨d4, w4, hr4, hg4⟩ := run_append_oct (P := Tryz.prog) (ty := 22) (t := 22) u8 und hg3.own (a := va) (l := wholeL s) (c := vc) hv5 (fun a' h => ((hv6 a' h).1.keepB (hv6 a' h).2 fun k hk => hg3.new_ch.block k (by have := hc1.size; omega) fun h => h)) (by simp only [Lim]; omega)
      refine OpK.run rfl hr4 ?_
      show CWL _ _ _ _ _ _
      refine CWL.ret ?_
      refine ⟨_, rfl, ?_⟩
      have e : valL pt 8 sub false fx (Tr.mk n s tn l u) = countedL fx false (wholeL s).length 2 ++ wholeL s := by simp [valL, Tr.s]
      rw [e]
      exact (hg3.more hg4).pre hc1
  refine CWL.condF (congrArg Value.bool (beq_eq_false_iff_ne.2 h8)) ?_
  simp only [flat, List.cons_append, List.nil_append, List.append_nil]
  refine CWL.reg (ops := [(.binOp .eql 3 (.tmp 32) (.const (Go.Value.int Go.IntKind.i64 9)) 3, 4)]) (b := [(45, 1), (46, 1)]) (by kernel_rfl) ?_
  refine OpK.cmp rfl rfl rfl ?_
  show CWL _ _ _ _ _ _
  by_cases h9 : kind = 9
  · subst h9
    refine CWL.condT rfl ?_
    simp only [flat, List.cons_append, List.nil_append, List.append_nil]
    have hs1 := hs.keep hk1
    refine CWL.reg (ops := [(.fieldAddr 26 (.tmp 22) 1, 0), (.load 22 (.tmp 1), 22), (.call ⟨.value (.func 28), #[.tmp 3], #[22]⟩, 22)]) (b := [(15, 5), (49, 5), (48, 3), (47, 1)]) (by kernel_rfl) ?_
    refine OpK.fieldAddr (off := 1) (by kernel_rfl) rfl ?_
    refine OpK.load (by kernel_rfl) rfl (hb.cell 1) ?_
    refine OpK.asCall rfl call28 rfl ((whole w1 B s vs hs1).mono ?_)
    rintro en w2 ⟨v2, he2, hv2, rfl⟩
    refine ⟨_, he2, ?_⟩
    show CWL _ _ _ _ _ _
    refine CWL.reg (ops := []) (b := [(50, 4)]) (by kernel_rfl) ?_
    show CWL _ _ _ _ _ _
    have hwl := wholeL_len s
    cases null with
    | true =>
      refine CWL.condT rfl ?_
      simp only [flat, List.cons_append, List.nil_append, List.append_nil]
      refine CWL.reg (ops := [(.assign (.const (Go.Value.slice none 0 0)), 22)]) (b := [(15, 1)]) (by kernel_rfl) ?_
      refine OpK.assign ?_
      show CWL _ _ _ _ _ _
      try refine CWL.nil_ (P := Tryz.prog) (n := 0) ?_
      show CWL _ _ _ _ _ _
      refine CWL.reg (ops := [(.call ⟨.builtin .len, #[.tmp 30], #[22]⟩, 3), (.call ⟨.value (.func 46), #[.tmp 8, .tmp 4, .tmp 1, .const (Go.Value.int Go.IntKind.i64 4)], #[4, 4, 3, 3]⟩, 22), (.call ⟨.builtin .append, #[.tmp 3, .tmp 30], #[22, 22]⟩, 22)]) (b := [(12, 5), (57, 5), (56, 30), (55, 3), (54, 1), (53, 30), (52, 4), (51, 8)]) (by kernel_rfl) ?_
      refine OpK.len (e := 5) (by kernel_rfl) rfl ?_
      refine OpK.asCall rfl call46 rfl ((counted w2 fx true 0 4 (by omega) (by omega)).mono ?_)
      rintro en w3 ⟨d3, he3, hg3⟩
      refine ⟨_, he3, ?_⟩
      have hl3 : (countedL fx true 0 4).length ≤ 4 := countedL_len (by omega) (by omega)
      obtain ⟨d4, w4, hr4, hg4⟩ := run_append_oct (P := Tryz.prog) (ty := 22) (t := 22) u8 und hg3.own (a := none) (l := []) (c := 0) (fun _ => rfl) (fun _ h => by cases h) (by simp only [List.length_nil, Lim]; omega)
      refine OpK.run rfl hr4 ?_
      show CWL _ _ _ _ _ _
      refine CWL.ret ?_
      refine ⟨_, rfl, ?_⟩
      have e : valL pt 9 sub true fx (Tr.mk n s tn l u) = countedL fx true 0 4 ++ [] := by simp [valL]
      rw [e]
      exact (hg3.more hg4).pre hc1
    | false =>
      refine CWL.condF rfl ?_
      simp only [flat, List.cons_append, List.nil_append, List.append_nil]
      try refine CWL.nil_ (P := Tryz.prog) (n := 0) ?_
      show CWL _ _ _ _ _ _
      obtain ⟨va, vc, rfl, hv3, hv4, hv5, hv6⟩ := hv2
      refine CWL.reg (ops := [(.call ⟨.builtin .len, #[.tmp 30], #[22]⟩, 3), (.call ⟨.value (.func 46), #[.tmp 8, .tmp 4, .tmp 1, .const (Go.Value.int Go.IntKind.i64 4)], #[4, 4, 3, 3]⟩, 22), (.call ⟨.builtin .append, #[.tmp 3, .tmp 30], #[22, 22]⟩, 22)]) (b := [(12, 5), (57, 5), (56, 30), (55, 3), (54, 1), (53, 30), (52, 4), (51, 8)]) (by kernel_rfl) ?_
      refine OpK.len (e := 5) (by kernel_rfl) rfl ?_
      refine OpK.asCall rfl call46 rfl ((counted w2 fx false (wholeL s).length 4 hwl (by omega)).mono ?_)
      rintro en w3 ⟨d3, he3, hg3⟩
      refine ⟨_, he3, ?_⟩
      have hl3 : (countedL fx false (wholeL s).length 4).length ≤ 4 := countedL_len (by omega) (by omega)
      obtain ⟨d4, w4, hr4, hg4⟩ := run_append_oct (P := Tryz.prog) (ty := 22) (t := 22) u8 und hg3.own (a := va) (l := wholeL s) (c := vc) hv5 (fun a' h => ((hv6 a' h).1.keepB (hv6 a' h).2 fun k hk => hg3.new_ch.block k (by have := hc1.size; omega) fun h => h)) (by simp only [Lim]; omega)
      refine OpK.run rfl hr4 ?_
      show CWL _ _ _ _ _ _
      refine CWL.ret ?_
      refine ⟨_, rfl, ?_⟩
      have e : valL pt 9 sub false fx (Tr.mk n s tn l u) = countedL fx false (wholeL s).length 4 ++ wholeL s := by simp [valL, Tr.s]
      rw [e]
      exact (hg3.more hg4).pre hc1
  refine CWL.condF (congrArg Value.bool (beq_eq_false_iff_ne.2 h9)) ?_
  simp only [flat, List.cons_append, List.nil_append, List.append_nil]
  refine CWL.reg (ops := [(.binOp .eql 3 (.tmp 32) (.const (Go.Value.int Go.IntKind.i64 10)) 3, 4)]) (b := [(58, 1), (59, 1)]) (by kernel_rfl) ?_
  refine OpK.cmp rfl rfl rfl ?_
  show CWL _ _ _ _ _ _
  by_cases h10 : kind = 10
  · subst h10
    refine CWL.condT rfl ?_
    simp only [flat, List.cons_append, List.nil_append, List.append_nil]
    have e : valL pt 10 sub null fx (Tr.mk n s tn l u) = pt sub (Tr.mk n s tn l u) := by simp [valL]
    rw [e] at hl0 ⊢
    refine CWL.reg (ops := [(.load 26 (.tmp 22), 26), (.call ⟨.value (.func 14), #[.tmp 2, .tmp 6, .tmp 8, .tmp 1], #[30, 3, 4, 26]⟩, 22)]) (b := [(12, 3), (64, 3), (63, 1), (62, 8), (61, 6), (60, 2)]) (by kernel_rfl) ?_
    refine OpK.loadA (n := 5) (by kernel_rfl) rfl hb.ata rfl ?_
    refine OpK.asCall rfl call14 rfl ((hP rfl w1 B dd vsub _ _ (by omega) (hF.keep hk1) (hT0.keep hk1) hl0).mono ?_)
    rintro en w2 ⟨d2, he2, hg2⟩
    refine ⟨_, he2, ?_⟩
    show CWL _ _ _ _ _ _
    refine CWL.ret ?_
    exact ⟨_, rfl, hg2.pre hc1⟩
  refine CWL.condF (congrArg Value.bool (beq_eq_false_iff_ne.2 h10)) ?_
  simp only [flat, List.cons_append, List.nil_append, List.append_nil]
  try refine CWL.nil_ (P := Tryz.prog) (n := 0) ?_
  show CWL _ _ _ _ _ _
  have e : valL pt kind sub null fx (Tr.mk n s tn l u) = be (widthL kind) n := by simp [valL, h0, h7, h8, h9, h10, Tr.n]
  rw [e]
  have hw8 : widthL kind ≤ 8 := by unfold widthL; repeat' split
                                   all_goals omega
  refine CWL.regD0 mixed [(0, true), (1, true), (2, true), (3, false), (4, false), (5, true)] (by decide +kernel) ?_
  refine HW.early rfl rfl (Yi.fieldAddr (off := 0) (by kernel_rfl) rfl) ?_
  refine HW.early rfl rfl (Yi.load (by kernel_rfl) rfl (fun w' hw' => (hb.ch hw').cell 0)) ?_
  refine HW.early rfl rfl (Yi.move) ?_
  refine HW.next rfl rfl ?_
  refine OpK.asCall rfl call49 rfl ((width _ kind).mono ?_)
  rintro en w2 ⟨v2, he2, rfl, rfl⟩
  refine ⟨_, he2, Ch.drew _ _, ?_⟩
  refine HW.next rfl rfl ?_
  refine OpK.asCall rfl call48 rfl ((fixed _ n (widthL kind) hw8).mono ?_)
  rintro en w3 ⟨d3, he3, hg3⟩
  refine ⟨_, he3, (Ch.drew _ _).trans' hg3.new_ch, ?_⟩
  refine HW.early rfl rfl (Yi.assign) ?_
  refine HW.done ?_
  show CWL _ _ _ _ _ _
  refine CWL.ret ?_
  exact ⟨_, rfl, (hg3.pre (Ch.drew _ _)).pre hc1⟩

theorem call22 : Callable Tryz.prog 22 := ⟨Tryz.f22, Tryz.func22, by kernel_rfl, by kernel_rfl⟩
set_option maxHeartbeats 8000000 in
theorem field (w : World) (B dd : Nat) (hB : B ≤ w.heap.size) (ver : Int) (fx : Bool) (pt : List Fld → Tr → List UInt8) (f : Fld) (vsub : Value) (hF : FldsIs w B dd f.sub vsub) (t : Tr) (cs : List Value) (hT : TrIs w B t cs) (hP : f.parts = true → PartAt ver fx pt f.sub)
    (hl0 : (fldL pt f ver fx t).length ≤ Lim) : Calls Tryz.prog 22 #[.agg (fldCells f vsub).toArray, .int .i64 ver, .bool fx, .agg cs.toArray] w fun en w' => ∃ x, en = .returned x ∧ New w w' x (fldL pt f ver fx t) := by
  have hT0 := hT
  cases hT with
  | @mk n s tn l u vs vl vu cells hn hs hl hc hu =>
  generalize htd : Tr.mk n s tn l u = t at hT0 hl0 ⊢
  have htl : t.l = l := by rw [← htd]; rfl
  refine Calls.of_CW Tryz.func22 rfl (by decide +kernel) (Nat.le_of_ble_eq_true (by kernel_rfl)) (CW.of_flat ?_)
  simp only [flat, List.cons_append, List.nil_append, List.append_nil]
  refine CWL.reg (ops := [(.box 46 (.tmp 0), 0), (.box 26 (.tmp 6), 0), (.assign (.const (Go.Value.slice none 0 0)), 22)]) (b := [(8, 5), (7, 3), (4, 1)]) (by kernel_rfl) ?_
  refine OpK.boxG (cs := fldCells f vsub) rfl fun w1 g hb1 hc1 hg1 hs1 => ?_
  refine OpK.boxG (cs := [.int .i64 n, vs, .bool tn, vl, vu]) rfl fun w2 gt hbt2 hc2 hg2 hs2 => ?_
  refine OpK.assign ?_
  show CWL _ _ _ _ _ _
  have hb2 := hb1.ch hc2
  have hcw2 : Ch (fun _ => False) w w2 := hc1.trans' hc2
  have hT2 := hT0.keep (w' := w2) fun k hk => hcw2.block k (by omega) fun h => h
  refine CWL.reg (ops := [(.load 46 (.tmp 8), 46), (.load 26 (.tmp 14), 26), (.call ⟨.value (.func 44), #[.tmp 1, .tmp 2, .tmp 3], #[46, 3, 26]⟩, 4)]) (b := [(9, 5), (16, 5), (15, 3), (14, 2), (13, 1)]) (by kernel_rfl) ?_
  refine OpK.loadA (n := 8) (by kernel_rfl) rfl (hb2.ata) rfl ?_
  refine OpK.loadA (n := 5) (by kernel_rfl) rfl hbt2.ata rfl ?_
  refine OpK.asCall rfl call44 rfl ((isnull w2 B f vsub ver t _ hT2).mono ?_)
  rintro en w3 ⟨v3, he3, rfl, hc3⟩
  refine ⟨_, he3, ?_⟩
  show CWL _ _ _ _ _ _
  have hb3 := hb2.ch hc3
  have hbt3 := hbt2.ch hc3
  have hcw3 : Ch (fun _ => False) w w3 := hcw2.trans' hc3
  have hs23 := hc3.size
  have hk3 : ∀ k, k < B → w3.heap[k]? = w.heap[k]? := fun k hk => hcw3.block k (by omega) fun h => h
  have hl3 := hl.keep hk3
  have hF3 := hF.keep hk3
  refine CWL.reg (ops := [(.fieldAddr 46 (.tmp 8) 0, 0), (.load 3 (.tmp 1), 3), (.binOp .eql 3 (.tmp 3) (.const (Go.Value.int Go.IntKind.i64 11)) 3, 4)]) (b := [(19, 5), (18, 3), (17, 1)]) (by kernel_rfl) ?_
  refine OpK.fieldAddr (off := 0) (by kernel_rfl) rfl ?_
  refine OpK.load (by kernel_rfl) rfl (hb3.cell 0) ?_
  refine OpK.cmp rfl rfl rfl ?_
  show CWL _ _ _ _ _ _
  by_cases h11 : f.kind = 11
  · refine CWL.condT (congrArg Value.bool (beq_iff_eq.2 h11)) ?_
    simp only [flat, List.cons_append, List.nil_append, List.append_nil]
    rw [fldL_list h11] at hl0 ⊢
    refine CWL.reg (ops := [(.fieldAddr 26 (.tmp 14) 3, 0), (.load 23 (.tmp 1), 23), (.call ⟨.value (.func 45), #[.tmp 3], #[23]⟩, 23)]) (b := [(10, 5), (22, 5), (21, 3), (20, 1)]) (by kernel_rfl) ?_
    refine OpK.fieldAddr (off := 3) (by kernel_rfl) rfl ?_
    refine OpK.load (by kernel_rfl) rfl (hbt3.cell 3) ?_
    refine OpK.asCall rfl call45 rfl ((things w3 B l cells vl hl3).mono ?_)
    rintro en w4 ⟨v4, he4, hv4, rfl⟩
    refine ⟨_, he4, ?_⟩
    show CWL _ _ _ _ _ _
    refine CWL.reg (ops := []) (b := [(23, 18)]) (by kernel_rfl) ?_
    show CWL _ _ _ _ _ _
    refine CWL.condJ (b := nullL f ver t) rfl (fun σ' w' => w' = w4 ∧ σ' 1 = .int .i64 ver ∧ σ' 2 = .bool fx ∧ σ' 4 = .pointer (some ⟨g, 0, none⟩) ∧ σ' 9 = .bool (nullL f ver t) ∧ ∃ vL, σ' 10 = vL ∧ LsIs w4 B (thingsL (nullL f ver t) t) cells vL) (fun hnl => ?_) (fun hnl => ?_) ?_
    · refine CW.of_flat ?_
      simp only [flat, List.cons_append, List.nil_append, List.append_nil]
      refine CWL.reg (ops := [(.assign (.const (Go.Value.slice none 0 0)), 23)]) (b := [(10, 1)]) (by kernel_rfl) ?_
      refine OpK.assign ?_
      show CWL _ _ _ _ _ _
      refine ⟨rfl, rfl, rfl, rfl, rfl, _, rfl, ?_⟩
      rw [hnl]
      exact LsIs.nil _ _ _
    · refine CW.of_flat ?_
      simp only [flat]
      refine ⟨rfl, rfl, rfl, rfl, rfl, v4, rfl, ?_⟩
      unfold thingsL
      rw [hnl, htl]
      exact hv4
    rintro σ w5 ⟨rfl, e1, e2, e4, e9, vL, e10, hL⟩
    rw [pin_eq (σ := σ) (l := [(1, .int .i64 ver), (2, .bool fx), (4, .pointer (some ⟨g, 0, none⟩)), (9, .bool (nullL f ver t)), (10, vL)]) (all_pin e1 (all_pin e2 (all_pin e4 (all_pin e9 (all_pin e10 (fun _ h => by cases h))))))]
    have hLn := thingsL_len (nullL f ver t) t
    generalize hLd : thingsL (nullL f ver t) t = L at hl0 hL hLn ⊢
    obtain ⟨la, lc, rfl, hL2, hL3, hL4, hL5⟩ := id hL
    refine CWL.reg (ops := [(.call ⟨.builtin .len, #[.tmp 20], #[23]⟩, 3), (.call ⟨.value (.func 46), #[.tmp 4, .tmp 18, .tmp 1, .const (Go.Value.int Go.IntKind.i64 4)], #[4, 4, 3, 3]⟩, 22)]) (b := [(11, 3), (28, 3), (27, 1), (26, 20), (25, 18), (24, 4)]) (by kernel_rfl) ?_
    refine OpK.len (e := 26) (by kernel_rfl) rfl ?_
    refine OpK.asCall rfl call46 rfl ((counted w5 fx (nullL f ver t) L.length 4 hLn (by omega)).mono ?_)
    rintro en w6 ⟨d6, he6, hg6⟩
    refine ⟨_, he6, ?_⟩
    show CWL _ _ _ _ _ _
    have hl6 : (countedL fx (nullL f ver t) L.length 4).length ≤ 4 := countedL_len hLn (by omega)
    rw [List.length_append] at hl0
    have hnew6 : New w w6 d6 (countedL fx (nullL f ver t) L.length 4) := hg6.pre hcw3
    refine CWL.reg (ops := [(.call ⟨.builtin .len, #[.tmp 20], #[23]⟩, 3), (.move (.const (Go.Value.int Go.IntKind.i64 0)), 3)]) (b := [(31, 3), (30, 1), (29, 20)]) (by kernel_rfl) ?_
    refine OpK.len (e := 26) (by kernel_rfl) rfl ?_
    refine OpK.move ?_
    show CWL _ _ _ _ _ _
    refine CWL.cons (CW.block (CW.loop (fun m σ wl => ∃ i d, i + m = L.length ∧ σ 1 = .int .i64 ver ∧ σ 2 = .bool fx ∧ σ 4 = .pointer (some ⟨g, 0, none⟩) ∧ σ 10 = .slice la L.length lc ∧ σ 11 = d ∧ σ 30 = .int .i64 (L.length : Int) ∧ σ 31 = .int .i64 (i : Int) ∧
        New w wl d (countedL fx (nullL f ver t) L.length 4 ++ (L.take i).flatMap (valL pt f.of f.sub false fx)) ∧ Ch (fun _ => False) w5 wl ∧ ∀ k, d.ownBlock = some k → w5.heap.size ≤ k) L.length
      ⟨0, d6, by simp, rfl, rfl, rfl, rfl, rfl, rfl, rfl, by simpa using hnew6, hg6.new_ch, fun k hk => hg6.new_lo hk⟩ ?_))
    rintro m σ wl ⟨i, d, him, e1, e2, e4, e10, e11, e30, e31, hg, hc5l, hdlo⟩
    refine CW.pin [(1, .int .i64 ver), (2, .bool fx), (4, .pointer (some ⟨g, 0, none⟩)), (10, .slice la L.length lc), (11, d), (30, .int .i64 (L.length : Int)), (31, .int .i64 (i : Int))] (all_pin e1 (all_pin e2 (all_pin e4 (all_pin e10 (all_pin e11 (all_pin e30 (all_pin e31 (fun _ h => by cases h)))))))) fun σ => ?_
    simp only [flat, List.cons_append, List.nil_append, List.append_nil]
    refine CWL.reg (ops := [(.binOp .lss 3 (.tmp 62) (.tmp 60) 3, 0)]) (b := [(32, 1)]) (by kernel_rfl) ?_
    refine OpK.cmp rfl rfl rfl ?_
    show CWL _ _ _ _ _ _
    cases m with
    | zero =>
      refine CWL.condF (congrArg Value.bool (decide_eq_false (by omega))) ?_
      simp only [flat, List.cons_append, List.nil_append, List.append_nil]
      refine CWL.cons (CW.exit ?_)
      show CWL _ _ _ _ _ _
      refine CWL.reg (ops := []) (b := [(8, 22), (48, 22)]) (by kernel_rfl) ?_
      show CWL _ _ _ _ _ _
      refine CWL.ret ?_
      refine ⟨_, rfl, ?_⟩
      rw [List.take_of_length_le (by omega)] at hg
      exact hg
    | succ m =>
      refine CWL.condT (congrArg Value.bool (decide_eq_true (by omega))) ?_
      simp only [flat, List.cons_append, List.nil_append, List.append_nil]
      refine CWL.block ?_
      simp only [flat, List.cons_append, List.nil_append, List.append_nil]
      refine CWL.reg (ops := []) (b := [(12, 62), (33, 62)]) (by kernel_rfl) ?_
      show CWL _ _ _ _ _ _
      obtain ⟨x, hx⟩ : ∃ x, L[i]? = some x := ⟨_, List.getElem?_eq_getElem (by omega)⟩
      cases la with
      | none => rw [hL4 rfl] at hx; simp at hx
      | some la =>
      have hlab := hL.block hx
      obtain ⟨g1, g2⟩ := hL.tree hx
      have hxi : ∃ j, l[j]? = some x ∧ j = i := by
        rw [← hLd] at hx
        unfold thingsL at hx
        split at hx
        · simp at hx
        · rw [List.getElem?_take] at hx
          split at hx
          · rw [htl] at hx; exact ⟨i, hx, rfl⟩
          · cases hx
      obtain ⟨j, hxl, hji⟩ := hxi
      rw [hji] at hxl
      have hTx := hc _ x hxl
      have hsz5 := hcw3.size
      have hbl := hb3.ch hc5l
      have hgs := hb3.lt
      have hnb : ∀ k, k < w5.heap.size → ¬ d.ownBlock = some k := fun k hk e => by have := hdlo k e; omega
      have hkl : ∀ k, k < B → wl.drew.heap[k]? = w.heap[k]? := fun k hk => (hc5l.block k (by omega) fun h => h).trans (hk3 k hk)
      have hval : ((L.take (i + 1)).flatMap (valL pt f.of f.sub false fx)).length ≤ (L.flatMap (valL pt f.of f.sub false fx)).length := flat_take_le L (i + 1) _
      rw [flat_take _ hx, List.length_append] at hval
      refine CWL.regD mixed (fun w' => Ch (fun k => d.ownBlock = some k) wl w') [(0, true), (1, true), (2, true), (3, true), (4, true), (5, true), (6, true), (7, true), (8, true), (9, true), (10, true), (11, false), (12, false), (13, true)] (by decide +kernel) (Ch.drew _ _) ?_
      refine HW.early rfl rfl (Yi.move) ?_
      refine HW.early rfl rfl (Yi.fieldAddr (off := 6) (by kernel_rfl) rfl) ?_
      refine HW.early rfl rfl (Yi.load (by kernel_rfl) rfl (fun w' hw' => (hbl.chS hw' (hnb g hgs)).cell 6)) ?_
      refine HW.early rfl rfl (Yi.fieldAddr (off := 7) (by kernel_rfl) rfl) ?_
      refine HW.early rfl rfl (Yi.load (by kernel_rfl) rfl (fun w' hw' => (hbl.chS hw' (hnb g hgs)).cell 7)) ?_
      refine HW.early rfl rfl (Yi.move) ?_
      refine HW.early rfl rfl (Yi.move) ?_
      refine HW.early rfl rfl (Yi.move) ?_
      refine HW.early rfl rfl (Yi.move) ?_
      refine HW.early rfl rfl (Yi.indexAddr (s := 5) (by kernel_rfl) rfl rfl (by omega)) ?_
      refine HW.early rfl rfl (Yi.loadA (n := 5) (by kernel_rfl) rfl (fun w' hw' => (g1.ch (by rw [add_block]; omega) hc5l).keepS (by rw [add_block]; have := hc5l.size; omega) hw' (hnb _ (by rw [add_block]; omega))) g2) ?_
      refine HW.next rfl rfl ?_
      refine OpK.asCall rfl call47 rfl ((value _ B dd (by show B ≤ wl.heap.size; have := hc5l.size; omega) ver fx false pt f.of f.sub vsub (hF.keep hkl) x _ (hTx.keep hkl) (fun h10 => hP (by simp [Fld.parts, h11, h10])) (by omega)).mono ?_)
      rintro en w7 ⟨d7, he7, hg7⟩
      have hcl7 : Ch (fun _ => False) wl w7 := (Ch.drew _ _).trans' hg7.new_ch
      refine ⟨_, he7, hcl7.mono fun _ _ h => h.elim, ?_⟩
      have hgd7 := hg.later hcl7
      obtain ⟨a7, c7, rfl, hn7, ho7⟩ := hg7.own.slice
      obtain ⟨d8, w8, hr8, hg8⟩ := run_append_oct (P := Tryz.prog) (ty := 22) (t := 22) u8 und hgd7.own (a := a7) (l := valL pt f.of f.sub false fx x) (c := c7) hn7 (fun a' e => (ho7 a' e).1) (by rw [List.length_append]; simp only [Lim] at hl0 ⊢; omega)
      refine HW.next rfl rfl ?_
      refine OpK.run rfl hr8 ?_
      refine ⟨(hcl7.mono fun _ _ h => h.elim).trans hg8.ch fun k hk e => e, ?_⟩
      refine HW.early rfl rfl (Yi.assign) ?_
      refine HW.done ?_
      show CWL _ _ _ _ _ _
      try refine CWL.nil_ (P := Tryz.prog) (n := 0) ?_
      show CWL _ _ _ _ _ _
      have hi1 := i64_succ i (by omega)
      refine CWL.reg (ops := [(.binOp .add 3 (.tmp 62) (.const (Go.Value.int Go.IntKind.i64 1)) 3, 3)]) (b := [(31, 1), (47, 1)]) (by kernel_rfl) ?_
      refine OpK.arith (r := ((i + 1 : Nat) : Int)) (by rw [← hi1]; rfl) rfl rfl ?_
      show CWL _ _ _ _ _ _
      try refine CWL.nil_ (P := Tryz.prog) (n := 0) ?_
      refine ⟨m, Nat.lt_succ_self m, i + 1, d8, by omega, rfl, rfl, rfl, rfl, rfl, rfl, rfl, ?_, (hc5l.trans' hcl7).trans hg8.ch fun k hk e => by have := hdlo k e; omega, fun k hk => ?_⟩
      · rw [flat_take _ hx, ← List.append_assoc]
        exact hgd7.more hg8
      · rcases hg8.blk k hk with h' | h'
        · exact hdlo k h'
        · have := hcl7.size; have := hc5l.size; omega
  refine CWL.condF (congrArg Value.bool (beq_eq_false_iff_ne.2 h11)) ?_
  simp only [flat, List.cons_append, List.nil_append, List.append_nil]
  by_cases h10 : f.kind = 10
  · by_cases hnn : f.null ≥ 0
    · rw [fldL_opt h10 hnn] at hl0 ⊢
      refine CWL.cons (CW.region ?_)
      refine RW.want rfl ?_
      refine OpK.fieldAddr (off := 0) (by kernel_rfl) rfl ?_
      refine RW.want rfl ?_
      refine OpK.load (by kernel_rfl) rfl (hb3.cell 0) ?_
      refine RW.want rfl ?_
      refine OpK.cmp (r := true) (by show some (f.kind == 10) = _; rw [beq_iff_eq.2 h10]) rfl rfl ?_
      refine RW.want rfl ?_
      refine OpK.move ?_
      refine RW.want rfl ?_
      refine OpK.fieldAddr (off := 3) (by kernel_rfl) rfl ?_
      refine RW.want rfl ?_
      refine OpK.load (by kernel_rfl) rfl (hb3.cell 3) ?_
      refine RW.want rfl ?_
      refine OpK.cmp (r := true) (by rw [← decide_eq_true hnn]; rfl) rfl rfl ?_
      refine RW.want rfl ?_
      refine OpK.pick rfl ?_
      refine RW.z ?_
      show CWL _ _ _ _ _ _
      refine CWL.condT rfl ?_
      simp only [flat, List.cons_append, List.nil_append, List.append_nil]
      refine CWL.reg (ops := []) (b := [(57, 18)]) (by kernel_rfl) ?_
      show CWL _ _ _ _ _ _
      cases hnl : nullL f ver t with
      | true =>
        refine CWL.condT rfl ?_
        simp only [flat, List.cons_append, List.nil_append, List.append_nil]
        refine CWL.reg (ops := [(.call ⟨.value (.func 48), #[.const (Go.Value.int Go.IntKind.i64 (-1)), .const (Go.Value.int Go.IntKind.i64 1)], #[2, 3]⟩, 22)]) (b := [(8, 1), (58, 1)]) (by kernel_rfl) ?_
        refine OpK.asCall rfl call48 rfl ((fixed w3 (-1) 1 (by omega)).mono ?_)
        rintro en w4 ⟨d4, he4, hg4⟩
        refine ⟨_, he4, ?_⟩
        show CWL _ _ _ _ _ _
        refine CWL.ret ?_
        exact ⟨_, rfl, hg4.pre hcw3⟩
      | false =>
        refine CWL.condF rfl ?_
        simp only [flat, List.cons_append, List.nil_append, List.append_nil]
        try refine CWL.nil_ (P := Tryz.prog) (n := 0) ?_
        show CWL _ _ _ _ _ _
        rw [hnl] at hl0
        simp only [Bool.false_eq_true, if_false, List.length_cons] at hl0
        refine CWL.regD0 mixed [(1, true), (2, true), (3, true), (4, true), (5, true), (0, false), (6, false), (7, false), (8, true)] (by decide +kernel) ?_
        refine HW.early rfl rfl (Yi.fieldAddr (off := 7) (by kernel_rfl) rfl) ?_
        refine HW.early rfl rfl (Yi.load (by kernel_rfl) rfl (fun w' hw' => (hb3.ch hw').cell 7)) ?_
        refine HW.early rfl rfl (Yi.move) ?_
        refine HW.early rfl rfl (Yi.move) ?_
        refine HW.early rfl rfl (Yi.loadA (n := 5) (by kernel_rfl) rfl (fun w' hw' => (hbt3.ch hw').ata) rfl) ?_
        refine HW.next rfl rfl ?_
        refine OpK.asCall rfl call48 rfl ((fixed _ 1 1 (by omega)).mono ?_)
        rintro en w4 ⟨d4, he4, hg4⟩
        have hc34 : Ch (fun _ => False) w3 w4 := (Ch.drew _ _).trans' hg4.new_ch
        refine ⟨_, he4, hc34, ?_⟩
        have hk4 : ∀ k, k < B → w4.heap[k]? = w.heap[k]? := fun k hk => (hc34.block k (by have := hcw3.size; omega) fun h => h).trans (hk3 k hk)
        refine HW.next rfl rfl ?_
        refine OpK.asCall rfl call14 rfl ((hP (by simp [Fld.parts, h10]) w4 B dd vsub t _ (by have := hcw3.size; have := hc34.size; omega) (hF.keep hk4) (hT0.keep hk4) (by omega)).mono ?_)
        rintro en w5 ⟨d5, he5, hg5⟩
        refine ⟨_, he5, hc34.trans' hg5.new_ch, ?_⟩
        obtain ⟨a5, c5, rfl, hn5, ho5⟩ := hg5.own.slice
        have hg45 := hg4.later hg5.new_ch
        obtain ⟨d6, w6, hr6, hg6⟩ := run_append_oct (P := Tryz.prog) (ty := 22) (t := 22) u8 und hg45.own (a := a5) (l := pt f.sub t) (c := c5) hn5 (fun a' e => (ho5 a' e).1) (by rw [be_length]; omega)
        refine HW.next rfl rfl ?_
        refine OpK.run rfl hr6 ?_
        have hg36 := (hg45.more hg6).pre (Ch.drew (fun _ => False) w3)
        refine ⟨hg36.new_ch, ?_⟩
        refine HW.early rfl rfl (Yi.assign) ?_
        refine HW.done ?_
        show CWL _ _ _ _ _ _
        refine CWL.ret ?_
        exact ⟨_, rfl, hg36.pre hcw3⟩
    · have e : fldL pt f ver fx t = valL pt f.kind f.sub (nullL f ver t) fx t := by unfold fldL; rw [if_neg h11, if_neg (fun h => hnn h.2)]
      rw [e] at hl0 ⊢
      refine CWL.cons (CW.region ?_)
      refine RW.want rfl ?_
      refine OpK.fieldAddr (off := 0) (by kernel_rfl) rfl ?_
      refine RW.want rfl ?_
      refine OpK.load (by kernel_rfl) rfl (hb3.cell 0) ?_
      refine RW.want rfl ?_
      refine OpK.cmp (r := true) (by show some (f.kind == 10) = _; rw [beq_iff_eq.2 h10]) rfl rfl ?_
      refine RW.want rfl ?_
      refine OpK.move ?_
      refine RW.want rfl ?_
      refine OpK.fieldAddr (off := 3) (by kernel_rfl) rfl ?_
      refine RW.want rfl ?_
      refine OpK.load (by kernel_rfl) rfl (hb3.cell 3) ?_
      refine RW.want rfl ?_
      refine OpK.cmp (r := false) (by rw [← decide_eq_false hnn]; rfl) rfl rfl ?_
      refine RW.want rfl ?_
      refine OpK.pick rfl ?_
      refine RW.z ?_
      show CWL _ _ _ _ _ _
      refine CWL.condF rfl ?_
      simp only [flat, List.cons_append, List.nil_append, List.append_nil]
      try refine CWL.nil_ (P := Tryz.prog) (n := 0) ?_
      show CWL _ _ _ _ _ _
      refine CWL.reg (ops := [(.fieldAddr 46 (.tmp 8) 0, 0), (.load 3 (.tmp 1), 3), (.fieldAddr 46 (.tmp 8) 7, 0), (.load 30 (.tmp 5), 30), (.load 26 (.tmp 14), 26), (.call ⟨.value (.func 47), #[.tmp 3, .tmp 7, .tmp 18, .tmp 2, .tmp 4, .tmp 9], #[3, 30, 4, 3, 4, 26]⟩, 22)]) (b := [(8, 11), (75, 11), (74, 9), (73, 4), (72, 2), (71, 18), (70, 7), (69, 5), (68, 3), (67, 1)]) (by kernel_rfl) ?_
      refine OpK.fieldAddr (off := 0) (by kernel_rfl) rfl ?_
      refine OpK.load (by kernel_rfl) rfl (hb3.cell 0) ?_
      refine OpK.fieldAddr (off := 7) (by kernel_rfl) rfl ?_
      refine OpK.load (by kernel_rfl) rfl (hb3.cell 7) ?_
      refine OpK.loadA (n := 5) (by kernel_rfl) rfl hbt3.ata rfl ?_
      refine OpK.asCall rfl call47 rfl ((value w3 B dd (by have := hcw3.size; omega) ver fx (nullL f ver t) pt f.kind f.sub vsub hF3 t _ (hT0.keep hk3) (fun h => hP (by simp [Fld.parts, h])) hl0).mono ?_)
      rintro en w4 ⟨d4, he4, hg4⟩
      refine ⟨_, he4, ?_⟩
      show CWL _ _ _ _ _ _
      refine CWL.ret ?_
      exact ⟨_, rfl, hg4.pre hcw3⟩
  · have e : fldL pt f ver fx t = valL pt f.kind f.sub (nullL f ver t) fx t := by unfold fldL; rw [if_neg h11, if_neg (fun h => h10 h.1)]
    rw [e] at hl0 ⊢
    refine CWL.cons (CW.region ?_)
    refine RW.want rfl ?_
    refine OpK.fieldAddr (off := 0) (by kernel_rfl) rfl ?_
    refine RW.want rfl ?_
    refine OpK.load (by kernel_rfl) rfl (hb3.cell 0) ?_
    refine RW.want rfl ?_
    refine OpK.cmp (r := false) (by show some (f.kind == 10) = _; rw [beq_eq_false_iff_ne.2 h10]) rfl rfl ?_
    refine RW.want rfl ?_
    refine OpK.move ?_
    refine RW.skip rfl ?_
    refine RW.skip rfl ?_
    refine RW.skip rfl ?_
    refine RW.want rfl ?_
    refine OpK.pick rfl ?_
    refine RW.z ?_
    show CWL _ _ _ _ _ _
    refine CWL.condF rfl ?_
    simp only [flat, List.cons_append, List.nil_append, List.append_nil]
    try refine CWL.nil_ (P := Tryz.prog) (n := 0) ?_
    show CWL _ _ _ _ _ _
    refine CWL.reg (ops := [(.fieldAddr 46 (.tmp 8) 0, 0), (.load 3 (.tmp 1), 3), (.fieldAddr 46 (.tmp 8) 7, 0), (.load 30 (.tmp 5), 30), (.load 26 (.tmp 14), 26), (.call ⟨.value (.func 47), #[.tmp 3, .tmp 7, .tmp 18, .tmp 2, .tmp 4, .tmp 9], #[3, 30, 4, 3, 4, 26]⟩, 22)]) (b := [(8, 11), (75, 11), (74, 9), (73, 4), (72, 2), (71, 18), (70, 7), (69, 5), (68, 3), (67, 1)]) (by kernel_rfl) ?_
    refine OpK.fieldAddr (off := 0) (by kernel_rfl) rfl ?_
    refine OpK.load (by kernel_rfl) rfl (hb3.cell 0) ?_
    refine OpK.fieldAddr (off := 7) (by kernel_rfl) rfl ?_
    refine OpK.load (by kernel_rfl) rfl (hb3.cell 7) ?_
    refine OpK.loadA (n := 5) (by kernel_rfl) rfl hbt3.ata rfl ?_
    refine OpK.asCall rfl call47 rfl ((value w3 B dd (by have := hcw3.size; omega) ver fx (nullL f ver t) pt f.kind f.sub vsub hF3 t _ (hT0.keep hk3) (fun h => hP (by simp [Fld.parts, h])) hl0).mono ?_)
    rintro en w4 ⟨d4, he4, hg4⟩
    refine ⟨_, he4, ?_⟩
    show CWL _ _ _ _ _ _
    refine CWL.ret ?_
    exact ⟨_, rfl, hg4.pre hcw3⟩
end Go.Proofs.YthcpchmmpnakaaaGreatDoor.Sp
