/- What all messages of the seat share. -/
import Derived.Test.YthcpchmmpnakaaaGreatDoorKxSaid
import Derived.Test.YthcpchmmpnakaaaGreatDoorKxRdr
namespace Go.Proofs.YthcpchmmpnakaaaGreatDoor.Seat
open Go.Kx Go.RowKit Go.Proofs
set_option maxRecDepth 100000
set_option linter.unusedSimpArgs false
set_option linter.unusedVariables false

theorem rdT : RdT Tryz.prog 104 := ⟨fun a n c => by kernel_rfl, by kernel_rfl, ⟨_, _, rfl, rfl, rfl⟩⟩
def tabR : List (Nat × Rf) := [(68, .val false .bool), (62, .val false .i8), (57, .val false .i16), (51, .val false .i32), (66, .val false .str), (65, .val true .str), (61, .val false .nstr), (59, .val true .nstr), (53, .len false), (52, .len true), (54, .ok), (70, .tags), (55, .comp)]
theorem rdAll (eV : Value) : ∀ x ∈ tabR, Callable Tryz.prog x.1 ∧ RfOk Tryz.prog 1 eV x.1 x.2 := (all_cons ⟨Rd.call68, Rd.ok68 1 eV⟩ (all_cons ⟨Rd.call62, Rd.ok62 1 eV⟩ (all_cons ⟨Rd.call57, Rd.ok57 1 eV⟩ (all_cons ⟨Rd.call51, Rd.ok51 1 eV⟩ (all_cons ⟨Rd.call66, Rd.ok66 1 eV⟩ (all_cons ⟨Rd.call65, Rd.ok65 1 eV⟩ (all_cons ⟨Rd.call61, Rd.ok61 1 eV⟩ (all_cons ⟨Rd.call59, Rd.ok59 1 eV⟩ (all_cons ⟨Rd.call53, Rd.ok53 1 eV⟩ (all_cons ⟨Rd.call52, Rd.ok52 1 eV⟩ (all_cons ⟨Rd.call54, Rd.ok54 1 eV⟩ (all_cons ⟨Rd.call70, Rd.ok70 1 eV⟩ (all_cons ⟨Rd.call55, Rd.ok55 eV⟩ all_nil)))))))))))))

theorem verIs : VerIs Tryz.prog 8 := by
  refine ⟨⟨Tryz.f8, Tryz.func8, by kernel_rfl, by kernel_rfl⟩, fun w n k hn hk => ?_⟩
  refine Calls.of_CW Tryz.func8 rfl (by decide +kernel) (Nat.le_of_ble_eq_true (by kernel_rfl)) (CW.of_flat ?_)
  simp only [flat, List.cons_append, List.nil_append, List.append_nil]
  refine CWL.reg (ops := [(.assign (.const (Go.Value.int Go.IntKind.i64 0)), 3)]) (b := [(4, 1)]) (by kernel_rfl) ?_
  refine OpK.assign ?_
  refine CWL.reg (ops := [(.convert 5 3 (.tmp 0), 3), (.binOp .add 3 (.tmp 2) (.const (Go.Value.int Go.IntKind.i64 1)) 3, 3), (.binOp .rem 3 (.tmp 1) (.tmp 3) 3, 3)]) (b := [(4, 5), (9, 5), (8, 3), (7, 2), (6, 1), (5, 0)]) (by kernel_rfl) ?_
  refine OpK.convInt (k' := .i64) (by kernel_rfl) (by kernel_rfl) rfl ?_
  refine OpK.arith rfl rfl rfl ?_
  refine OpK.rem (a := (n : Int)) (b := ((k + 1 : Nat) : Int)) (by omega) (by omega) (congrArg (Value.int .i64) (i64_nat n (by omega))) (congrArg (Value.int .i64) (by rw [show ((k : Int) + 1) = ((k + 1 : Nat) : Int) by omega]; exact i64_nat _ (by omega))) ?_
  refine CWL.ret ?_
  exact ⟨_, rfl, rfl, rfl⟩

theorem call10 : Callable Tryz.prog 10 := ⟨Tryz.f10, Tryz.func10, by kernel_rfl, by kernel_rfl⟩
set_option maxHeartbeats 4000000 in
theorem sameIs : SameIs Tryz.prog 10 := by
  refine ⟨call10, fun w S l1 l2 v1 v2 h1 h2 hS hl1 hl2 => ?_⟩
  obtain ⟨a1, c1, rfl, hO1⟩ : ∃ a c, v1 = .slice a l1.length c ∧ ∀ i u, l1[i]? = some u → ∃ a', a = some a' ∧ S a'.block ∧ w.cell? (a'.add i) = some (bv u) := by
    rcases h1 with ⟨rfl, rfl⟩ | ⟨a, c, rfl, _, h3, h4⟩
    · exact ⟨none, 0, rfl, fun i u hu => by simp at hu⟩
    · exact ⟨some a, c, rfl, fun i u hu => ⟨a, rfl, h3, h4 i u hu⟩⟩
  obtain ⟨a2, c2, rfl, hO2⟩ : ∃ a c, v2 = .slice a l2.length c ∧ ∀ i u, l2[i]? = some u → ∃ a', a = some a' ∧ S a'.block ∧ w.cell? (a'.add i) = some (bv u) := by
    rcases h2 with ⟨rfl, rfl⟩ | ⟨a, c, rfl, _, h3, h4⟩
    · exact ⟨none, 0, rfl, fun i u hu => by simp at hu⟩
    · exact ⟨some a, c, rfl, fun i u hu => ⟨a, rfl, h3, h4 i u hu⟩⟩
  refine (Calls.of_CW (R := fun x w' => x = .bool (l1 == l2) ∧ Ch (fun _ => False) w w') Tryz.func10 rfl (by decide +kernel) (Nat.le_of_ble_eq_true (by kernel_rfl)) (CW.of_flat ?_)).mono fun en w' ⟨x, he, hx, hR⟩ => ⟨by rw [he, hx], hR⟩
  simp only [flat, List.cons_append, List.nil_append, List.append_nil]
  refine CWL.reg (ops := [(.assign (.const (Go.Value.bool false)), 4)]) (b := [(4, 1)]) (by kernel_rfl) ?_
  refine OpK.assign ?_
  refine CWL.reg (ops := [(.call ⟨.builtin .len, #[.tmp 0], #[22]⟩, 3), (.call ⟨.builtin .len, #[.tmp 2], #[22]⟩, 3), (.binOp .neq 3 (.tmp 1) (.tmp 3) 3, 4)]) (b := [(10, 5), (9, 3), (8, 2), (7, 1), (6, 0)]) (by kernel_rfl) ?_
  refine OpK.len (e := 5) (by kernel_rfl) rfl ?_
  refine OpK.len (e := 5) (by kernel_rfl) rfl ?_
  refine OpK.cmp rfl rfl rfl ?_
  by_cases hlen : l1.length = l2.length
  rotate_left
  · refine CWL.condT (congrArg Value.bool (by simpa using fun h => hlen (by omega))) ?_
    simp only [flat, List.cons_append, List.nil_append, List.append_nil]
    refine CWL.reg (ops := [(.assign (.const (Go.Value.bool false)), 4)]) (b := [(4, 1)]) (by kernel_rfl) ?_
    refine OpK.assign ?_
    refine CWL.ret ?_
    refine ⟨_, rfl, congrArg Value.bool ?_, Ch.refl _ _⟩
    symm
    rw [beq_eq_false_iff_ne]
    intro e
    exact hlen (by rw [e])
  refine CWL.condF (congrArg Value.bool (bne_eq_false_iff_eq.2 (congrArg (fun n : Nat => (n : Int)) hlen))) ?_
  simp only [flat, List.cons_append, List.nil_append, List.append_nil]
  refine CWL.reg (ops := [(.call ⟨.builtin .len, #[.tmp 0], #[22]⟩, 3), (.move (.const (Go.Value.int Go.IntKind.i64 0)), 3)]) (b := [(13, 3), (12, 1), (11, 0)]) (by kernel_rfl) ?_
  refine OpK.len (e := 5) (by kernel_rfl) rfl ?_
  refine OpK.move ?_
  refine CWL.cons (CW.block (CW.loop (fun m σ w1 => ∃ i : Nat, m = l1.length - i ∧ i ≤ l1.length ∧ σ 0 = .slice a1 l1.length c1 ∧ σ 1 = .slice a2 l2.length c2 ∧ σ 13 = .int .i64 (i : Int) ∧ σ 12 = .int .i64 (l1.length : Int) ∧ Ch (fun _ => False) w w1 ∧ (∀ j, j < i → l1[j]? = l2[j]?)) l1.length
    ⟨0, by omega, by omega, rfl, rfl, rfl, rfl, Ch.refl _ _, fun j hj => by omega⟩ ?_))
  rintro m σ w1 ⟨i, rfl, hi, hσ0, hσ1, hix, hln, hch, heq⟩
  refine CW.of_flat ?_
  simp only [flat, List.cons_append, List.nil_append, List.append_nil]
  refine CWL.regG (ops := [(.binOp .lss 3 (.tmp 26) (.tmp 24) 3, 0)]) (b := [(14, 1)]) (by kernel_rfl) ?_
  refine OpK.cmp (op := .lss) (k := .i64) (a := (i : Int)) (b := (l1.length : Int)) rfl ((enF_two σ 13).trans hix) ((enF_two σ 12).trans hln) ?_
  intro σ2 hσ2
  have htc : σ2 14 = .bool (decide ((i : Int) < l1.length)) := by rw [hσ2]; rfl
  have q0 : σ2 0 = .slice a1 l1.length c1 := by rw [hσ2]; exact (enF_two σ 0).trans hσ0
  have q1 : σ2 1 = .slice a2 l2.length c2 := by rw [hσ2]; exact (enF_two σ 1).trans hσ1
  have q13 : σ2 13 = .int .i64 (i : Int) := by rw [hσ2]; exact (enF_two σ 13).trans hix
  have q12 : σ2 12 = .int .i64 (l1.length : Int) := by rw [hσ2]; exact (enF_two σ 12).trans hln
  by_cases hlt : i < l1.length
  rotate_left
  · refine CWL.condF (htc.trans (congrArg Value.bool (decide_eq_false (by omega)))) ?_
    simp only [flat, List.cons_append, List.nil_append, List.append_nil]
    refine CWL.cons (CW.exit ?_)
    simp only [Then, InBlock, if_true]
    refine CWL.reg (ops := [(.assign (.const (Go.Value.bool true)), 4)]) (b := [(4, 1)]) (by kernel_rfl) ?_
    refine OpK.assign ?_
    refine CWL.ret ?_
    refine ⟨_, rfl, congrArg Value.bool ?_, hch⟩
    symm
    rw [beq_iff_eq]
    apply List.ext_getElem?
    intro j
    by_cases hj : j < i
    · exact heq j hj
    · rw [List.getElem?_eq_none (by omega), List.getElem?_eq_none (by omega)]
  refine CWL.condT (htc.trans (congrArg Value.bool (decide_eq_true (by omega)))) ?_
  simp only [flat, List.cons_append, List.nil_append, List.append_nil]
  refine CWL.block ?_
  simp only [flat, List.cons_append, List.nil_append, List.append_nil]
  refine CWL.regG (ops := []) (b := [(5, 26), (15, 26)]) (by kernel_rfl) ?_
  intro σ3 hσ3
  have r0 : σ3 0 = .slice a1 l1.length c1 := by rw [hσ3]; exact (enF_two σ2 0).trans q0
  have r1 : σ3 1 = .slice a2 l2.length c2 := by rw [hσ3]; exact (enF_two σ2 1).trans q1
  have r13 : σ3 13 = .int .i64 (i : Int) := by rw [hσ3]; exact (enF_two σ2 13).trans q13
  have r12 : σ3 12 = .int .i64 (l1.length : Int) := by rw [hσ3]; exact (enF_two σ2 12).trans q12
  have r5 : σ3 5 = .int .i64 (i : Int) := by rw [hσ3]; exact (enF_two σ2 13).trans q13
  have hi2 : i < l2.length := by omega
  obtain ⟨a1', rfl, hS1, hc1⟩ := hO1 i l1[i] (List.getElem?_eq_getElem hlt)
  obtain ⟨a2', rfl, hS2, hc2⟩ := hO2 i l2[i] (List.getElem?_eq_getElem hi2)
  have hcell : ∀ {a : Addr} {x : Value}, S a.block → w.cell? (a.add i) = some x → ∀ w', Ch (fun _ => False) w1 w' → w'.cell? (a.add (i * 1)) = some x := fun hs hx w' h => by
    rw [Nat.mul_one, World.cell?_of_block (w := w) (w' := w') ((hch.trans' h).block _ (by rw [block_add]; exact hS _ hs) (fun h => h))]; exact hx
  refine CWL.regD0 Rd.mixed [(0, true), (1, true), (2, true), (3, true), (4, true), (5, true), (6, true), (7, true), (8, true)] (by decide +kernel) ?_
  refine HW.early rfl rfl Yi.move ?_
  refine HW.early rfl rfl Yi.move ?_
  refine HW.early rfl rfl (Yi.indexAddr (s := 1) (j := i) (by kernel_rfl) (Eq.trans (b := σ3 0) (by simp [upd]) r0) (Eq.trans (b := σ3 5) (by simp [upd]) r5) (by omega)) ?_
  refine HW.early rfl rfl (Yi.load (by kernel_rfl) (by simp [upd]) (hcell hS1 hc1)) ?_
  refine HW.early rfl rfl Yi.move ?_
  refine HW.early rfl rfl Yi.move ?_
  refine HW.early rfl rfl (Yi.indexAddr (s := 1) (j := i) (by kernel_rfl) (Eq.trans (b := σ3 1) (by simp [upd]) r1) (Eq.trans (b := σ3 5) (by simp [upd]) r5) (by omega)) ?_
  refine HW.early rfl rfl (Yi.load (by kernel_rfl) (by simp [upd]) (hcell hS2 hc2)) ?_
  refine HW.early rfl rfl (Yi.cmp (op := .neq) (k := .u8) (a := (l1[i].toNat : Int)) (b := (l2[i].toNat : Int)) rfl (by simp [upd, bv]) (by simp [upd, bv])) ?_
  refine HW.done ?_
  refine CWL.gen ?_
  intro σ4 hσ4
  have ht4 : σ4 24 = .bool ((l1[i].toNat : Int) != (l2[i].toNat : Int)) := by rw [hσ4]; simp [upd]
  have s0 : σ4 0 = .slice (some a1') l1.length c1 := by rw [hσ4]; simp [upd, r0]
  have s1 : σ4 1 = .slice (some a2') l2.length c2 := by rw [hσ4]; simp [upd, r1]
  have s13 : σ4 13 = .int .i64 (i : Int) := by rw [hσ4]; simp [upd, r13]
  have s12 : σ4 12 = .int .i64 (l1.length : Int) := by rw [hσ4]; simp [upd, r12]
  by_cases hb : l1[i] = l2[i]
  rotate_left
  · refine CWL.condT (ht4.trans (congrArg Value.bool (by simpa using fun e => hb (UInt8.toNat_inj.1 (by omega))))) ?_
    simp only [flat, List.cons_append, List.nil_append, List.append_nil]
    refine CWL.reg (ops := [(.assign (.const (Go.Value.bool false)), 4)]) (b := [(4, 1)]) (by kernel_rfl) ?_
    refine OpK.assign ?_
    refine CWL.ret ?_
    refine ⟨_, rfl, congrArg Value.bool ?_, hch.trans' (Ch.drew _ _)⟩
    symm
    rw [beq_eq_false_iff_ne]
    intro e
    exact hb (by simp only [e])
  refine CWL.condF (ht4.trans (congrArg Value.bool (by simp [hb]))) ?_
  simp only [flat, List.cons_append, List.nil_append, List.append_nil]
  refine CWL.nil_ ?_
  simp only [Then, InBlock]
  refine CWL.reg (ops := [(.binOp .add 3 (.tmp 26) (.const (Go.Value.int Go.IntKind.i64 1)) 3, 3)]) (b := [(13, 1), (25, 1)]) (by kernel_rfl) ?_
  refine OpK.arith (op := .add) (k := .i64) (a := (i : Int)) (b := 1) rfl ((enF_two σ4 13).trans s13) rfl ?_
  simp only [RC]
  refine ⟨l1.length - (i + 1), by omega, i + 1, rfl, by omega, (enF_two σ4 0).trans s0, (enF_two σ4 1).trans s1, ?_, (enF_two σ4 12).trans s12, hch.trans' (Ch.drew _ _), fun j hj => ?_⟩
  · show Value.int .i64 (IntKind.i64.wrap ((i : Int) + 1)) = _
    congr 1
    rw [IntKind.wrap_i64]
    omega
  · rcases Nat.lt_or_eq_of_le (Nat.le_of_lt_succ hj) with h | rfl
    · exact heq j h
    · rw [List.getElem?_eq_getElem hlt, List.getElem?_eq_getElem hi2, hb]

end Go.Proofs.YthcpchmmpnakaaaGreatDoor.Seat
