/- What the reference's functions write of parts of which some fields are known tags (lists of values). -/
import Derived.Test.YtkgelojkhmjhkaaGreatDoorKxSpecY
import Derived.Test.YtkgelojkhmjhkaaGreatDoorKxRef
import Derived.Test.YtkgelojkhmjhkaaGreatDoorKxPre2
namespace Go.Proofs.YtkgelojkhmjhkaaGreatDoor.Sp
open Go.Kx Go.RowKit Go.Proofs
set_option maxRecDepth 100000
set_option linter.unusedSimpArgs false
set_option linter.unusedVariables false

set_option maxHeartbeats 4000000 in
theorem knownK (w : World) (B d : Nat) (hB : B ≤ w.heap.size) (flds : List Fld) (v : Value) (h : FldsIs w B d flds v) (htag : ∀ f ∈ flds, f.tag < 1000) (hlen : flds.length < 1000000) : Calls Tryz.prog 23 #[v] w fun en w' => ∃ x, en = .returned x ∧ x = .int .u32 (knownF flds : Int) ∧ Ch (fun _ => False) w w' := by
  obtain ⟨a, c, hv, hform⟩ := h.form
  subst hv
  refine Calls.of_CW Tryz.func23 rfl (by decide +kernel) (Nat.le_of_ble_eq_true (by kernel_rfl)) (CW.of_flat ?_)
  simp only [flat, List.cons_append, List.nil_append, List.append_nil]
  refine CWL.reg (ops := [(.assign (.const (Go.Value.int Go.IntKind.u32 0)), 52)]) (b := [(2, 1)]) (by kernel_rfl) ?_
  refine OpK.assign ?_
  show CWL _ _ _ _ _ _
  refine CWL.reg (ops := [(.assign (.const (Go.Value.int Go.IntKind.u32 0)), 52)]) (b := [(3, 1)]) (by kernel_rfl) ?_
  refine OpK.assign ?_
  show CWL _ _ _ _ _ _
  refine CWL.reg (ops := [(.call ⟨.builtin .len, #[.tmp 0], #[30]⟩, 3), (.move (.const (Go.Value.int Go.IntKind.i64 0)), 3)]) (b := [(8, 3), (7, 1), (6, 0)]) (by kernel_rfl) ?_
  refine OpK.len (e := 46) (by kernel_rfl) rfl ?_
  refine OpK.move ?_
  show CWL _ _ _ _ _ _
  refine CWL.cons (CW.block (CW.loop (fun m σ wl => ∃ i, i + m = flds.length ∧ σ 3 = .int .u32 (knownF (flds.take i) : Int) ∧ σ 6 = .slice a flds.length c ∧ σ 7 = .int .i64 (flds.length : Int) ∧ σ 8 = .int .i64 (i : Int) ∧ Ch (fun _ => False) w wl) flds.length
    ⟨0, by simp, rfl, rfl, rfl, rfl, Ch.refl _ _⟩ ?_))
  rintro m σ wl ⟨i, him, e3, e6, e7, e8, hcl⟩
  refine CW.pin [(3, .int .u32 (knownF (flds.take i) : Int)), (6, .slice a flds.length c), (7, .int .i64 (flds.length : Int)), (8, .int .i64 (i : Int))] (all_pin e3 (all_pin e6 (all_pin e7 (all_pin e8 (fun _ h => by cases h))))) fun σ => ?_
  simp only [flat, List.cons_append, List.nil_append, List.append_nil]
  refine CWL.reg (ops := [(.binOp .lss 3 (.tmp 16) (.tmp 14) 3, 0)]) (b := [(9, 1)]) (by kernel_rfl) ?_
  refine OpK.cmp rfl rfl rfl ?_
  show CWL _ _ _ _ _ _
  cases m with
  | zero =>
    refine CWL.condF (congrArg Value.bool (decide_eq_false (by omega))) ?_
    simp only [flat, List.cons_append, List.nil_append, List.append_nil]
    refine CWL.cons (CW.exit ?_)
    show CWL _ _ _ _ _ _
    refine CWL.reg (ops := []) (b := [(2, 6), (22, 6)]) (by kernel_rfl) ?_
    show CWL _ _ _ _ _ _
    refine CWL.ret ?_
    refine ⟨_, rfl, ?_, hcl⟩
    rw [List.take_of_length_le (by omega)]
    rfl
  | succ m =>
    refine CWL.condT (congrArg Value.bool (decide_eq_true (by omega))) ?_
    simp only [flat, List.cons_append, List.nil_append, List.append_nil]
    refine CWL.block ?_
    simp only [flat, List.cons_append, List.nil_append, List.append_nil]
    obtain ⟨f, hf⟩ : ∃ f, flds[i]? = some f := ⟨_, List.getElem?_eq_getElem (by omega)⟩
    obtain ⟨g, vs, d', rfl, hgB, rfl, hat, hsub⟩ := hform i f hf
    have hat' : At wl g (i * 8) (fldCells f vs) := fun j x hx => (cell_keep (w := w) (w' := wl) (hcl.block g (by omega) fun h => h)).trans (hat j x hx)
    refine CWL.reg (ops := [(.indexAddr 30 (.tmp 12) (.tmp 16), 0), (.load 46 (.tmp 1), 46), (.alloc 46, 0), (.store 46 (.tmp 5) (.tmp 3), 0)]) (b := [(5, 5), (11, 3), (10, 1)]) (by kernel_rfl) ?_
    refine OpK.indexAddr (s := 8) (by kernel_rfl) rfl rfl (by omega) ?_
    refine OpK.loadA (n := 8) (by kernel_rfl) rfl (hat'.mid) rfl ?_
    refine OpK.allocZ zeroF (by kernel_rfl) fun w2 r hr hc2 hr1 hs2 => ?_
    refine OpK.storeG (cs := zeroF) (us := fldCells f vs) (by kernel_rfl) rfl rfl (fldCells_one hsub.one) hr rfl fun w3 hr3 hc3 hs3 => ?_
    show CWL _ _ _ _ _ _
    refine CWL.reg (ops := [(.fieldAddr 46 (.tmp 10) 4, 0), (.load 3 (.tmp 1), 3), (.binOp .geq 3 (.tmp 3) (.const (Go.Value.int Go.IntKind.i64 0)) 3, 4)]) (b := [(14, 5), (13, 3), (12, 1)]) (by kernel_rfl) ?_
    refine OpK.fieldAddr (off := 4) (by kernel_rfl) rfl ?_
    refine OpK.load (by kernel_rfl) rfl (hr3.cell 4) ?_
    refine OpK.cmp rfl rfl rfl ?_
    show CWL _ _ _ _ _ _
    have ht := htag f (List.mem_of_getElem? hf)
    have hkt := known_take hf
    have hch3 : Ch (fun _ => False) w w3 := (hcl.trans' hc2).trans hc3 fun k hk e => by have := hcl.size; omega
    have hi1 := i64_succ i (by omega)
    by_cases hpos : f.tag ≥ 0
    · refine CWL.condT (congrArg Value.bool (decide_eq_true hpos)) ?_
      simp only [flat, List.cons_append, List.nil_append, List.append_nil]
      have hw1 : IntKind.u32.wrap f.tag = f.tag := by rw [IntKind.wrap_u32]; omega
      have hw2 : IntKind.u32.wrap (f.tag + 1) = ((f.tag.toNat + 1 : Nat) : Int) := by rw [IntKind.wrap_u32]; omega
      refine CWL.reg (ops := [(.fieldAddr 46 (.tmp 10) 4, 0), (.load 3 (.tmp 1), 3), (.convert 3 52 (.tmp 3), 52), (.binOp .add 52 (.tmp 5) (.const (Go.Value.int Go.IntKind.u32 1)) 52, 52), (.call ⟨.builtin .max, #[.tmp 6, .tmp 7], #[52, 52]⟩, 52)]) (b := [(3, 9), (20, 9), (19, 7), (18, 5), (17, 3), (16, 1), (15, 6)]) (by kernel_rfl) ?_
      refine OpK.fieldAddr (off := 4) (by kernel_rfl) rfl ?_
      refine OpK.load (by kernel_rfl) rfl (hr3.cell 4) ?_
      refine OpK.convInt (k' := .u32) (by kernel_rfl) (by kernel_rfl) rfl ?_
      rw [hw1]
      refine OpK.arith (r := ((f.tag.toNat + 1 : Nat) : Int)) (by rw [← hw2]; rfl) rfl rfl ?_
      refine OpK.maxN (a := knownF (flds.take i)) (b := f.tag.toNat + 1) rfl rfl ?_
      show CWL _ _ _ _ _ _
      try refine CWL.nil_ (P := Tryz.prog) (n := 0) ?_
      show CWL _ _ _ _ _ _
      refine CWL.reg (ops := [(.binOp .add 3 (.tmp 16) (.const (Go.Value.int Go.IntKind.i64 1)) 3, 3)]) (b := [(8, 1), (21, 1)]) (by kernel_rfl) ?_
      refine OpK.arith (r := ((i + 1 : Nat) : Int)) (by rw [← hi1]; rfl) rfl rfl ?_
      show CWL _ _ _ _ _ _
      try refine CWL.nil_ (P := Tryz.prog) (n := 0) ?_
      refine ⟨m, Nat.lt_succ_self m, i + 1, by omega, ?_, rfl, rfl, rfl, hch3⟩
      rw [hkt, knStep, if_pos hpos]
      rfl
    · refine CWL.condF (congrArg Value.bool (decide_eq_false hpos)) ?_
      simp only [flat, List.cons_append, List.nil_append, List.append_nil]
      try refine CWL.nil_ (P := Tryz.prog) (n := 0) ?_
      show CWL _ _ _ _ _ _
      refine CWL.reg (ops := [(.binOp .add 3 (.tmp 16) (.const (Go.Value.int Go.IntKind.i64 1)) 3, 3)]) (b := [(8, 1), (21, 1)]) (by kernel_rfl) ?_
      refine OpK.arith (r := ((i + 1 : Nat) : Int)) (by rw [← hi1]; rfl) rfl rfl ?_
      show CWL _ _ _ _ _ _
      try refine CWL.nil_ (P := Tryz.prog) (n := 0) ?_
      refine ⟨m, Nat.lt_succ_self m, i + 1, by omega, ?_, rfl, rfl, rfl, hch3⟩
      rw [hkt, knStep, if_neg hpos]
      rfl

set_option maxHeartbeats 8000000 in
theorem unknownK (w : World) (B d : Nat) (hB : B ≤ w.heap.size) (flds : List Fld) (vF : Value) (h : FldsIs w B d flds vF) (htag : ∀ f ∈ flds, f.tag < 1000) (K : Nat) (hK : knownF flds = K) (hlen : flds.length < 1000000) (u : List (UInt32 × List UInt8)) (vu : Value) (hu : TgIs w B u vu) :
    Calls Tryz.prog 26 #[vF, vu] w fun en w' => ∃ x, en = .returned x ∧ ∃ us, TOwn 54 w' x us ∧ All2 (TgR w' B) us (unkK K u) ∧ Ch (fun _ => False) w w' ∧ ∀ k, x.ownBlock = some k → w.heap.size ≤ k := by
  have hu' := hu
  obtain ⟨a, c, rfl, h2, h3, h4, h5⟩ := hu'
  have hU := hu.take 32767
  generalize hnU : min 32767 u.length = nU at hU
  have hUl : (u.take 32767).length = nU := by rw [List.length_take]; exact hnU
  generalize hUd : u.take 32767 = U at hU hUl
  have hsmall : nU ≤ 32767 := by omega
  refine Calls.of_CW Tryz.func26 rfl (by decide +kernel) (Nat.le_of_ble_eq_true (by kernel_rfl)) (CW.of_flat ?_)
  simp only [flat, List.cons_append, List.nil_append, List.append_nil]
  refine CWL.reg (ops := [(.assign (.const (Go.Value.slice none 0 0)), 24)]) (b := [(4, 1)]) (by kernel_rfl) ?_
  refine OpK.assign ?_
  show CWL _ _ _ _ _ _
  refine CWL.reg (ops := [(.call ⟨.value (.func 23), #[.tmp 0], #[30]⟩, 52)]) (b := [(5, 1), (12, 1), (11, 0)]) (by kernel_rfl) ?_
  refine OpK.asCall rfl call23 rfl ((knownK w B d hB flds vF h htag hlen).mono ?_)
  rintro en w1 ⟨x1, he1, rfl, hc1⟩
  rw [hK] at he1
  refine ⟨_, he1, ?_⟩
  show CWL _ _ _ _ _ _
  refine CWL.reg (ops := [(.assign (.const (Go.Value.slice none 0 0)), 24)]) (b := [(6, 1)]) (by kernel_rfl) ?_
  refine OpK.assign ?_
  show CWL _ _ _ _ _ _
  refine CWL.reg (ops := [(.call ⟨.builtin .len, #[.tmp 2], #[24]⟩, 3), (.call ⟨.builtin .min, #[.tmp 1, .const (Go.Value.int Go.IntKind.i64 32767)], #[3, 3]⟩, 3), (.slice 24 (.tmp 2) none (some (.tmp 3)) none, 24), (.call ⟨.builtin .len, #[.tmp 5], #[24]⟩, 3), (.move (.const (Go.Value.int Go.IntKind.i64 0)), 3)]) (b := [(19, 9), (18, 7), (17, 5), (16, 3), (15, 1), (14, 2), (13, 2)]) (by kernel_rfl) ?_
  refine OpK.len (e := 54) (by kernel_rfl) rfl ?_
  refine OpK.minN (b := 32767) rfl rfl ?_
  rw [hnU]
  refine OpK.sliceTo (e := 54) (s := 2) (by kernel_rfl) (by kernel_rfl) rfl rfl (by omega) ?_
  refine OpK.len (e := 54) (by kernel_rfl) rfl ?_
  refine OpK.move ?_
  show CWL _ _ _ _ _ _
  refine CWL.cons (CW.block (CW.loop (fun m σ wl => ∃ i v us, i + m = nU ∧ σ 5 = .int .u32 (K : Int) ∧ σ 6 = v ∧ σ 17 = .slice a nU c ∧ σ 18 = .int .i64 (nU : Int) ∧ σ 19 = .int .i64 (i : Int) ∧ TOwn 54 wl v us ∧
      All2 (TgR w B) us ((((U.take i).map fun x => (x.1.toNat, x.2)).filter fun x => decide (K ≤ x.1)).foldl insU []) ∧ Ch (fun _ => False) w wl ∧ ∀ k, v.ownBlock = some k → w.heap.size ≤ k) nU
    ⟨0, .slice none 0 0, [], by simp, rfl, rfl, rfl, rfl, rfl, TOwn.nil _ _, by simpa using All2.nil, hc1, fun k hk => by cases hk⟩ ?_))
  rintro m σ wl ⟨i, v, us, him, e5, e6, e17, e18, e19, hown, hall, hcw, hvlo⟩
  refine CW.pin [(5, .int .u32 (K : Int)), (6, v), (17, .slice a nU c), (18, .int .i64 (nU : Int)), (19, .int .i64 (i : Int))] (all_pin e5 (all_pin e6 (all_pin e17 (all_pin e18 (all_pin e19 (fun _ h => by cases h)))))) fun σ => ?_
  simp only [flat, List.cons_append, List.nil_append, List.append_nil]
  refine CWL.reg (ops := [(.binOp .lss 3 (.tmp 38) (.tmp 36) 3, 0)]) (b := [(20, 1)]) (by kernel_rfl) ?_
  refine OpK.cmp rfl rfl rfl ?_
  show CWL _ _ _ _ _ _
  obtain ⟨hrise, _, hfew⟩ := unk_fold (N := 4294967296) (((U.take i).map fun x => (x.1.toNat, x.2)).filter fun x => decide (K ≤ x.1)) (out := []) (fun y hy => by
    obtain ⟨q, _, rfl⟩ := List.mem_map.1 (List.mem_filter.1 hy).1
    exact q.1.toNat_lt) trivial (fun _ h => by cases h)
  have husl : us.length ≤ i := by rw [hall.size]; have hfl := List.length_filter_le (fun x : Nat × List UInt8 => decide (K ≤ x.1)) ((U.take i).map fun x => (x.1.toNat, x.2)); rw [List.length_map, List.length_take] at hfl; rw [List.length_nil] at hfew; omega
  cases m with
  | zero =>
    refine CWL.condF (congrArg Value.bool (decide_eq_false (by omega))) ?_
    simp only [flat, List.cons_append, List.nil_append, List.append_nil]
    refine CWL.cons (CW.exit ?_)
    show CWL _ _ _ _ _ _
    refine CWL.reg (ops := []) (b := [(4, 12), (84, 12)]) (by kernel_rfl) ?_
    show CWL _ _ _ _ _ _
    refine CWL.ret ?_
    refine ⟨_, rfl, us, hown, ?_, hcw, hvlo⟩
    rw [List.take_of_length_le (by omega)] at hall
    unfold unkK
    rw [hUd]
    exact hall.imp fun _ _ hR => ⟨hR.1, hR.2.keep fun k hk => hcw.block k (by omega) fun h => h⟩
  | succ m =>
    refine CWL.condT (congrArg Value.bool (decide_eq_true (by omega))) ?_
    simp only [flat, List.cons_append, List.nil_append, List.append_nil]
    refine CWL.block ?_
    simp only [flat, List.cons_append, List.nil_append, List.append_nil]
    obtain ⟨x, hx⟩ : ∃ x, U[i]? = some x := ⟨_, List.getElem?_eq_getElem (by omega)⟩
    obtain ⟨a', c', eU, _, _, hU4, hU5⟩ := hU
    simp only [Value.slice.injEq] at eU
    obtain ⟨rfl, _, rfl⟩ := eU
    cases a with
    | none => rw [hU4 rfl] at hx; simp at hx
    | some a =>
    obtain ⟨hUb, hU6⟩ := hU5 a rfl
    obtain ⟨vv, hk0, hk1, hvv⟩ := hU6 i x hx
    have hab := hUb (nil_of_get hx)
    have hat : AtA wl (a.add (i * 2)) [.int .u32 (x.1.toNat : Int), vv] := (two_at hk0 hk1).ch (by rw [add_block]; omega) hcw
    have hnext : (((U.take (i + 1)).map fun x => (x.1.toNat, x.2)).filter fun x => decide (K ≤ x.1)).foldl insU [] = if K ≤ x.1.toNat then insU ((((U.take i).map fun x => (x.1.toNat, x.2)).filter fun x => decide (K ≤ x.1)).foldl insU []) (x.1.toNat, x.2) else (((U.take i).map fun x => (x.1.toNat, x.2)).filter fun x => decide (K ≤ x.1)).foldl insU [] := by
      rw [List.take_add_one, hx]
      simp only [Option.toList_some, List.map_append, List.map_cons, List.map_nil, List.filter_append]
      split
      · rename_i hle
        rw [List.filter_cons_of_pos (by simpa using hle)]
        simp
      · rename_i hle
        rw [List.filter_cons_of_neg (by simpa using hle)]
        simp
    refine CWL.reg (ops := [(.indexAddr 24 (.tmp 34) (.tmp 38), 0), (.load 54 (.tmp 1), 54), (.alloc 54, 0), (.store 54 (.tmp 5) (.tmp 3), 0)]) (b := [(8, 5), (22, 3), (21, 1)]) (by kernel_rfl) ?_
    refine OpK.indexAddr (s := 2) (by kernel_rfl) rfl rfl (by omega) ?_
    refine OpK.loadA (n := 2) (by kernel_rfl) rfl (hat) rfl ?_
    refine OpK.allocZ zeroG (by kernel_rfl) fun w2 r hr hc2 hr1 hs2 => ?_
    refine OpK.storeG (cs := zeroG) (us := [.int .u32 (x.1.toNat : Int), vv]) (by kernel_rfl) rfl rfl (by intro q hq; simp only [List.mem_cons, List.not_mem_nil, or_false] at hq; rcases hq with rfl | rfl; rfl; exact hvv.form) hr rfl fun w3 hbt3 hc3 hs3 => ?_
    show CWL _ _ _ _ _ _
    have hcl3 : Ch (fun _ => False) wl w3 := hc2.trans hc3 fun k hk e => by omega
    have hown3 := hown.ch hcl3
    have hvr : ¬ v.ownBlock = some r := fun e => by have := hown.lt e; omega
    have hrl : r < w3.heap.size := hbt3.lt
    refine CWL.reg (ops := [(.assign (.const (Go.Value.int Go.IntKind.i64 0)), 3)]) (b := [(9, 1)]) (by kernel_rfl) ?_
    refine OpK.assign ?_
    show CWL _ _ _ _ _ _
    refine CWL.loopJ (fun m σ w' => ∃ p, p + m = us.length ∧ (∀ j y, j < p → us[j]? = some y → y.1 < x.1.toNat) ∧ σ 5 = .int .u32 (K : Int) ∧ σ 6 = v ∧ σ 8 = .pointer (some ⟨r, 0, none⟩) ∧ σ 9 = .int .i64 (p : Int) ∧ σ 17 = .slice (some a) nU c ∧ σ 18 = .int .i64 (nU : Int) ∧ σ 19 = .int .i64 (i : Int) ∧ Ch (fun _ => False) w3 w')
      (fun σ w' => ∃ p, p ≤ us.length ∧ (∀ j y, j < p → us[j]? = some y → y.1 < x.1.toNat) ∧ (∀ y, us[p]? = some y → ¬ y.1 < x.1.toNat) ∧ σ 5 = .int .u32 (K : Int) ∧ σ 6 = v ∧ σ 8 = .pointer (some ⟨r, 0, none⟩) ∧ σ 9 = .int .i64 (p : Int) ∧ σ 17 = .slice (some a) nU c ∧ σ 18 = .int .i64 (nU : Int) ∧ σ 19 = .int .i64 (i : Int) ∧ Ch (fun _ => False) w3 w') us.length
      ⟨0, by simp, fun j y hj => absurd hj (by omega), rfl, rfl, rfl, rfl, rfl, rfl, rfl, Ch.refl _ _⟩ ?_ ?_
    · rintro q σ w4 ⟨p, hpq, hlow, e5, e6, e8, e9, e17, e18, e19, hc4⟩
      refine CW.pin [(5, .int .u32 (K : Int)), (6, v), (8, .pointer (some ⟨r, 0, none⟩)), (9, .int .i64 (p : Int)), (17, .slice (some a) nU c), (18, .int .i64 (nU : Int)), (19, .int .i64 (i : Int))] (all_pin e5 (all_pin e6 (all_pin e8 (all_pin e9 (all_pin e17 (all_pin e18 (all_pin e19 (fun _ h => by cases h)))))))) fun σ => ?_
      simp only [flat, List.cons_append, List.nil_append, List.append_nil]
      have hown4 := hown3.ch hc4
      have hbt4 := hbt3.ch hc4
      obtain ⟨av, cv, hv, hvf⟩ := hown4.form
      subst hv
      cases q with
      | zero =>
        refine CWL.regD0 mixed [(0, true), (1, true), (2, false), (3, true), (4, true), (5, true), (6, true), (7, true), (8, true), (9, true), (10, true), (11, true), (12, true), (13, true)] (by decide +kernel) ?_
        refine HW.early rfl rfl (Yi.move) ?_
        refine HW.early rfl rfl (Yi.move) ?_
        refine HW.step (Ch.drew _ _) rfl rfl (OpK.len (e := 54) (by kernel_rfl) rfl ⟨rfl, rfl⟩) ?_
        refine HW.early rfl rfl (Yi.cmp (r := false) (by rw [← decide_eq_false (show ¬ (p : Int) < (us.length : Int) by omega)]; rfl) rfl rfl) ?_
        refine HW.early rfl rfl (Yi.move) ?_
        refine HW.none_ rfl rfl ?_
        refine HW.none_ rfl rfl ?_
        refine HW.none_ rfl rfl ?_
        refine HW.none_ rfl rfl ?_
        refine HW.none_ rfl rfl ?_
        refine HW.none_ rfl rfl ?_
        refine HW.none_ rfl rfl ?_
        refine HW.none_ rfl rfl ?_
        refine HW.early rfl rfl (Yi.pick rfl) ?_
        refine HW.done ?_
        refine CWL.condF rfl ?_
        simp only [flat, List.cons_append, List.nil_append, List.append_nil]
        refine CWL.cons (CW.exit ?_)
        exact ⟨p, by omega, hlow, fun y hy => by rw [List.getElem?_eq_none (by omega)] at hy; (cases hy), rfl, rfl, rfl, rfl, rfl, rfl, rfl, hc4.trans' (Ch.drew _ _)⟩
      | succ q =>
        obtain ⟨y, hy⟩ : ∃ y, us[p]? = some y := ⟨_, List.getElem?_eq_getElem (by omega)⟩
        obtain ⟨gv, rfl, hgv, _, haty⟩ := hvf p y hy
        by_cases hlt : y.1 < x.1.toNat
        · skip
          refine CWL.regD0 mixed [(0, true), (1, true), (2, false), (3, true), (4, true), (5, true), (6, true), (7, true), (8, true), (9, true), (10, true), (11, true), (12, true), (13, true)] (by decide +kernel) ?_
          refine HW.early rfl rfl (Yi.move) ?_
          refine HW.early rfl rfl (Yi.move) ?_
          refine HW.step (Ch.drew _ _) rfl rfl (OpK.len (e := 54) (by kernel_rfl) rfl ⟨rfl, rfl⟩) ?_
          refine HW.early rfl rfl (Yi.cmp (r := true) (by rw [← decide_eq_true (show (p : Int) < (us.length : Int) by omega)]; rfl) rfl rfl) ?_
          refine HW.early rfl rfl (Yi.move) ?_
          refine HW.early rfl rfl (Yi.move) ?_
          refine HW.early rfl rfl (Yi.move) ?_
          refine HW.early rfl rfl (Yi.indexAddr (s := 2) (by kernel_rfl) rfl rfl (by omega)) ?_
          refine HW.early rfl rfl (Yi.fieldAddr (off := 0) (by kernel_rfl) rfl) ?_
          refine HW.early rfl rfl (Yi.load (by kernel_rfl) rfl (fun w' hw' => haty.ch (by rw [add_block]; exact hgv) hw' 0 _ rfl)) ?_
          refine HW.early rfl rfl (Yi.fieldAddr (off := 0) (by kernel_rfl) rfl) ?_
          refine HW.early rfl rfl (Yi.load (by kernel_rfl) rfl (fun w' hw' => (hbt4.ch hw').cell 0)) ?_
          refine HW.early rfl rfl (Yi.cmp (r := true) (by rw [← decide_eq_true (show (y.1 : Int) < (x.1.toNat : Int) by omega)]; rfl) rfl rfl) ?_
          refine HW.early rfl rfl (Yi.pick rfl) ?_
          refine HW.done ?_
          refine CWL.condT rfl ?_
          simp only [flat, List.cons_append, List.nil_append, List.append_nil]
          refine CWL.block ?_
          simp only [flat, List.cons_append, List.nil_append, List.append_nil]
          have hp1 := i64_succ p (by omega)
          refine CWL.reg (ops := [(.binOp .add 3 (.tmp 18) (.const (Go.Value.int Go.IntKind.i64 1)) 3, 3)]) (b := [(9, 1), (38, 1), (37, 18)]) (by kernel_rfl) ?_
          refine OpK.arith (r := ((p + 1 : Nat) : Int)) (by rw [← hp1]; rfl) rfl rfl ?_
          show CWL _ _ _ _ _ _
          try refine CWL.nil_ (P := Tryz.prog) (n := 0) ?_
          refine ⟨q, Nat.lt_succ_self q, p + 1, by omega, fun j z hj hz => ?_, rfl, rfl, rfl, rfl, rfl, rfl, rfl, hc4.trans' (Ch.drew _ _)⟩
          by_cases hjp : j = p
          · subst hjp; rw [hy] at hz; cases hz; exact hlt
          · exact hlow j z (by omega) hz
        · skip
          refine CWL.regD0 mixed [(0, true), (1, true), (2, false), (3, true), (4, true), (5, true), (6, true), (7, true), (8, true), (9, true), (10, true), (11, true), (12, true), (13, true)] (by decide +kernel) ?_
          refine HW.early rfl rfl (Yi.move) ?_
          refine HW.early rfl rfl (Yi.move) ?_
          refine HW.step (Ch.drew _ _) rfl rfl (OpK.len (e := 54) (by kernel_rfl) rfl ⟨rfl, rfl⟩) ?_
          refine HW.early rfl rfl (Yi.cmp (r := true) (by rw [← decide_eq_true (show (p : Int) < (us.length : Int) by omega)]; rfl) rfl rfl) ?_
          refine HW.early rfl rfl (Yi.move) ?_
          refine HW.early rfl rfl (Yi.move) ?_
          refine HW.early rfl rfl (Yi.move) ?_
          refine HW.early rfl rfl (Yi.indexAddr (s := 2) (by kernel_rfl) rfl rfl (by omega)) ?_
          refine HW.early rfl rfl (Yi.fieldAddr (off := 0) (by kernel_rfl) rfl) ?_
          refine HW.early rfl rfl (Yi.load (by kernel_rfl) rfl (fun w' hw' => haty.ch (by rw [add_block]; exact hgv) hw' 0 _ rfl)) ?_
          refine HW.early rfl rfl (Yi.fieldAddr (off := 0) (by kernel_rfl) rfl) ?_
          refine HW.early rfl rfl (Yi.load (by kernel_rfl) rfl (fun w' hw' => (hbt4.ch hw').cell 0)) ?_
          refine HW.early rfl rfl (Yi.cmp (r := false) (by rw [← decide_eq_false (show ¬ (y.1 : Int) < (x.1.toNat : Int) by omega)]; rfl) rfl rfl) ?_
          refine HW.early rfl rfl (Yi.pick rfl) ?_
          refine HW.done ?_
          refine CWL.condF rfl ?_
          simp only [flat, List.cons_append, List.nil_append, List.append_nil]
          refine CWL.cons (CW.exit ?_)
          exact ⟨p, by omega, hlow, fun z hz => by rw [hy] at hz; (cases hz); exact hlt, rfl, rfl, rfl, rfl, rfl, rfl, rfl, hc4.trans' (Ch.drew _ _)⟩
    rintro σ w4 ⟨p, hp, hlow, hhigh, e5, e6, e8, e9, e17, e18, e19, hc4⟩
    rw [pin_eq (σ := σ) (l := [(5, .int .u32 (K : Int)), (6, v), (8, .pointer (some ⟨r, 0, none⟩)), (9, .int .i64 (p : Int)), (17, .slice (some a) nU c), (18, .int .i64 (nU : Int)), (19, .int .i64 (i : Int))]) (all_pin e5 (all_pin e6 (all_pin e8 (all_pin e9 (all_pin e17 (all_pin e18 (all_pin e19 (fun _ h => by cases h))))))))]
    have hpos := posOf_eq hlow hp hhigh
    have hins := ins_two (k := x.1.toNat) (v := vv) (bs := x.2) hall hrise hvv hpos
    have hown4' := hown3.ch hc4
    have hbt4' := hbt3.ch hc4
    have hcw5 : Ch (fun _ => False) w w4.drew := ((hcw.trans' hcl3).trans' hc4).trans' (Ch.drew _ _)
    have hown4 : TOwn 54 w4.drew v us := hown4'.ch (Ch.drew _ _)
    have hbt4 : Blk w4.drew r 54 [.int .u32 (x.1.toNat : Int), vv] := hbt4'.ch (Ch.drew _ _)
    have hs4 := hc4.size
    have hsz : w3.heap.size ≤ w4.drew.heap.size := hs4
    obtain ⟨av, cv, hv, hvf⟩ := hown4'.form
    by_cases hkK : x.1.toNat < K
    · skip
      refine CWL.regT mixed (fun w' => Ch (fun _ => False) w4 w') (.early 0 (.early 1 (.early 2 (.early 3 (.early 4 (.early 5 (.early 6 (.one 7 (.early 8 (.early 9 (.early 10 (.early 11 (.early 12 (.early 13 (.early 14 (.early 15 (.early 16 (.early 17 (.early 18 (.early 19 .done)))))))))))))))))))) (by decide +kernel) (Ch.drew _ _) ?_
      refine HT.early_ rfl rfl (Yi.fieldAddr (off := 0) (by kernel_rfl) rfl) ?_
      refine HT.early_ rfl rfl (Yi.load (by kernel_rfl) rfl (fun w' hw' => (hbt4'.ch hw').cell 0)) ?_
      refine HT.early_ rfl rfl (Yi.move) ?_
      refine HT.early_ rfl rfl (Yi.cmp (r := true) (by rw [← decide_eq_true (show (x.1.toNat : Int) < (K : Int) by omega)]; rfl) rfl rfl) ?_
      refine HT.early_ rfl rfl (Yi.move) ?_
      refine HT.none_ rfl rfl ?_
      refine HT.none_ rfl rfl ?_
      refine oneK.no rfl rfl (Ch.drew _ _) ?_
      refine HT.none_ rfl rfl ?_
      refine HT.none_ rfl rfl ?_
      refine HT.none_ rfl rfl ?_
      refine HT.none_ rfl rfl ?_
      refine HT.none_ rfl rfl ?_
      refine HT.none_ rfl rfl ?_
      refine HT.none_ rfl rfl ?_
      refine HT.none_ rfl rfl ?_
      refine HT.none_ rfl rfl ?_
      refine HT.none_ rfl rfl ?_
      refine HT.none_ rfl rfl ?_
      refine HT.early_ rfl rfl (Yi.pick rfl) ?_
      refine CWL.condT rfl ?_
      simp only [flat, List.cons_append, List.nil_append, List.append_nil]
      refine CWL.cons (CW.exit ?_)
      show CWL _ _ _ _ _ _
      have hi1 := i64_succ i (by omega)
      refine CWL.reg (ops := [(.binOp .add 3 (.tmp 38) (.const (Go.Value.int Go.IntKind.i64 1)) 3, 3)]) (b := [(19, 1), (83, 1)]) (by kernel_rfl) ?_
      refine OpK.arith (r := ((i + 1 : Nat) : Int)) (by rw [← hi1]; rfl) rfl rfl ?_
      show CWL _ _ _ _ _ _
      try refine CWL.nil_ (P := Tryz.prog) (n := 0) ?_
      exact ⟨m, Nat.lt_succ_self m, i + 1, _, _, by omega, rfl, rfl, rfl, rfl, rfl, hown4, by rw [hnext, if_neg (by omega)]; exact hall, hcw5, hvlo⟩
    rw [if_pos (by omega)] at hnext
    have hkey0 : decide ((x.1.toNat : Int) < (K : Int)) = false := decide_eq_false (by omega)
    by_cases hex : ∃ y, us[p]? = some y ∧ y.1 = x.1.toNat
    · obtain ⟨y, hy, hyk⟩ := hex
      subst hv
      obtain ⟨gv, rfl, hgv, _, haty⟩ := hvf p y hy
      have hpl := (List.getElem?_eq_some_iff.1 hy).1
      refine CWL.regD0 mixed [(0, true), (1, true), (2, true), (3, true), (4, true), (5, true), (6, true), (7, false), (8, true), (9, true), (10, true), (11, true), (12, true), (13, true), (14, true), (15, true), (16, true), (17, true), (18, true), (19, true)] (by decide +kernel) ?_
      refine HW.early rfl rfl (Yi.fieldAddr (off := 0) (by kernel_rfl) rfl) ?_
      refine HW.early rfl rfl (Yi.load (by kernel_rfl) rfl (fun w' hw' => (hbt4'.ch hw').cell 0)) ?_
      refine HW.early rfl rfl (Yi.move) ?_
      refine HW.early rfl rfl (Yi.cmp (r := false) (by rw [← hkey0]; rfl) rfl rfl) ?_
      refine HW.early rfl rfl (Yi.move) ?_
      refine HW.early rfl rfl (Yi.move) ?_
      refine HW.early rfl rfl (Yi.move) ?_
      refine HW.step (Ch.drew _ _) rfl rfl (OpK.len (e := 54) (by kernel_rfl) rfl ⟨rfl, rfl⟩) ?_
      refine HW.early rfl rfl (Yi.cmp (r := true) (by rw [← decide_eq_true (show (p : Int) < (us.length : Int) by omega)]; rfl) rfl rfl) ?_
      refine HW.early rfl rfl (Yi.move) ?_
      refine HW.early rfl rfl (Yi.move) ?_
      refine HW.early rfl rfl (Yi.move) ?_
      refine HW.early rfl rfl (Yi.indexAddr (s := 2) (by kernel_rfl) rfl rfl (by omega)) ?_
      refine HW.early rfl rfl (Yi.fieldAddr (off := 0) (by kernel_rfl) rfl) ?_
      refine HW.early rfl rfl (Yi.load (by kernel_rfl) rfl (fun w' hw' => haty.ch (by rw [add_block]; exact hgv) hw' 0 _ rfl)) ?_
      refine HW.early rfl rfl (Yi.fieldAddr (off := 0) (by kernel_rfl) rfl) ?_
      refine HW.early rfl rfl (Yi.load (by kernel_rfl) rfl (fun w' hw' => (hbt4'.ch hw').cell 0)) ?_
      refine HW.early rfl rfl (Yi.cmp (r := true) (by rw [hyk]; simp [cmpB]) rfl rfl) ?_
      refine HW.early rfl rfl (Yi.pick rfl) ?_
      refine HW.early rfl rfl (Yi.pick rfl) ?_
      refine HW.done ?_
      refine CWL.condT rfl ?_
      simp only [flat, List.cons_append, List.nil_append, List.append_nil]
      refine CWL.cons (CW.exit ?_)
      show CWL _ _ _ _ _ _
      have hi1 := i64_succ i (by omega)
      refine CWL.reg (ops := [(.binOp .add 3 (.tmp 38) (.const (Go.Value.int Go.IntKind.i64 1)) 3, 3)]) (b := [(19, 1), (83, 1)]) (by kernel_rfl) ?_
      refine OpK.arith (r := ((i + 1 : Nat) : Int)) (by rw [← hi1]; rfl) rfl rfl ?_
      show CWL _ _ _ _ _ _
      try refine CWL.nil_ (P := Tryz.prog) (n := 0) ?_
      exact ⟨m, Nat.lt_succ_self m, i + 1, _, _, by omega, rfl, rfl, rfl, rfl, rfl, hown4, by rw [hnext]; exact hins.1 ⟨y, hy, hyk⟩, hcw5, hvlo⟩
    · by_cases hpl : p < us.length
      · obtain ⟨y, hy⟩ : ∃ y, us[p]? = some y := ⟨_, List.getElem?_eq_getElem (by omega)⟩
        have hyk : ¬ y.1 = x.1.toNat := fun e => hex ⟨y, hy, e⟩
        obtain ⟨gv, rfl, hgv, _, haty⟩ := hvf p y hy
        subst hv
        refine CWL.regD0 mixed [(0, true), (1, true), (2, true), (3, true), (4, true), (5, true), (6, true), (7, false), (8, true), (9, true), (10, true), (11, true), (12, true), (13, true), (14, true), (15, true), (16, true), (17, true), (18, true), (19, true)] (by decide +kernel) ?_
        refine HW.early rfl rfl (Yi.fieldAddr (off := 0) (by kernel_rfl) rfl) ?_
        refine HW.early rfl rfl (Yi.load (by kernel_rfl) rfl (fun w' hw' => (hbt4'.ch hw').cell 0)) ?_
        refine HW.early rfl rfl (Yi.move) ?_
        refine HW.early rfl rfl (Yi.cmp (r := false) (by rw [← hkey0]; rfl) rfl rfl) ?_
        refine HW.early rfl rfl (Yi.move) ?_
        refine HW.early rfl rfl (Yi.move) ?_
        refine HW.early rfl rfl (Yi.move) ?_
        refine HW.step (Ch.drew _ _) rfl rfl (OpK.len (e := 54) (by kernel_rfl) rfl ⟨rfl, rfl⟩) ?_
        refine HW.early rfl rfl (Yi.cmp (r := true) (by rw [← decide_eq_true (show (p : Int) < (us.length : Int) by omega)]; rfl) rfl rfl) ?_
        refine HW.early rfl rfl (Yi.move) ?_
        refine HW.early rfl rfl (Yi.move) ?_
        refine HW.early rfl rfl (Yi.move) ?_
        refine HW.early rfl rfl (Yi.indexAddr (s := 2) (by kernel_rfl) rfl rfl (by omega)) ?_
        refine HW.early rfl rfl (Yi.fieldAddr (off := 0) (by kernel_rfl) rfl) ?_
        refine HW.early rfl rfl (Yi.load (by kernel_rfl) rfl (fun w' hw' => haty.ch (by rw [add_block]; exact hgv) hw' 0 _ rfl)) ?_
        refine HW.early rfl rfl (Yi.fieldAddr (off := 0) (by kernel_rfl) rfl) ?_
        refine HW.early rfl rfl (Yi.load (by kernel_rfl) rfl (fun w' hw' => (hbt4'.ch hw').cell 0)) ?_
        refine HW.early rfl rfl (Yi.cmp (r := false) (by simp [cmpB]; omega) rfl rfl) ?_
        refine HW.early rfl rfl (Yi.pick rfl) ?_
        refine HW.early rfl rfl (Yi.pick rfl) ?_
        refine HW.done ?_
        refine CWL.condF rfl ?_
        simp only [flat, List.cons_append, List.nil_append, List.append_nil]
        generalize w4.drew = w5 at hcw5 hown4 hbt4 hsz ⊢
        have hz := run_bsTag (P := Tryz.prog) (t := 24) (e := 54) (by kernel_rfl)
        have hown5 : TOwn 54 (w5.alloc (.cells zeroG.toArray 54)) (.slice (some ⟨gv, 0, none⟩) us.length cv) us := hown4.keep fun k hk => alloc_old _ _ _ (hown4.lt hk)
        obtain ⟨v6, w6, hr6, hown6, hc6, hb6⟩ := append_tag (P := Tryz.prog) (t := 24) (ty := 24) (by kernel_rfl) (by kernel_rfl) hown5 (by omega) (a := ⟨w5.heap.size, 0, none⟩) (Blk.new w5 54 zeroG).ata
        have hc56 : Ch (fun i => (Value.slice (some ⟨gv, 0, none⟩) us.length cv).ownBlock = some i) w5 w6 := (Ch.alloc _ w5 _).trans hc6 fun i _ h => h
        refine CWL.reg (ops := [(.build 54 #[], 54), (.buildSlice 24 1 #[(0, .tmp 1)], 24), (.call ⟨.builtin .append, #[.tmp 12, .tmp 3], #[24, 24]⟩, 24)]) (b := [(6, 5), (62, 5), (61, 3), (60, 1), (59, 12)]) (by kernel_rfl) ?_
        refine OpK.build (cells := zeroG.toArray) (by kernel_rfl) ?_
        refine OpK.buildS (by simp only [List.map_toArray, List.map_cons, List.map_nil]; exact hz w5) ?_
        refine OpK.run rfl hr6 ?_
        show CWL _ _ _ _ _ _
        obtain ⟨a6, c6, hv6, hf6⟩ := hown6.form
        have hv6' : v6 = .slice a6 (us.length + 1) c6 := by rw [hv6]; simp
        subst hv6'
        have hsub : IntKind.i64.wrap (((us.length + 1 : Nat) : Int) - 1) = (us.length : Int) := by rw [IntKind.wrap_i64]; omega
        refine CWL.reg (ops := [(.call ⟨.builtin .len, #[.tmp 12], #[24]⟩, 3), (.binOp .sub 3 (.tmp 1) (.const (Go.Value.int Go.IntKind.i64 1)) 3, 3)]) (b := [(10, 3), (65, 3), (64, 1), (63, 12)]) (by kernel_rfl) ?_
        refine OpK.len (e := 54) (by kernel_rfl) rfl ?_
        refine OpK.arith (r := (us.length : Int)) (by rw [← hsub]; rfl) rfl rfl ?_
        show CWL _ _ _ _ _ _
        have hbt6 : Blk w6 r 54 [.int .u32 (x.1.toNat : Int), vv] := hbt4.keep (hc56.block r (by omega) hvr)
        have hv6lo : ∀ k, (Value.slice a6 (us.length + 1) c6).ownBlock = some k → w.heap.size ≤ k ∧ k ≠ r := fun k hk => by
          rcases hb6 k hk with h | h
          · exact ⟨hvlo k h, fun e => hvr (e ▸ h)⟩
          · have h0 := hcw5.size
            have e5 : (w5.alloc (.cells zeroG.toArray 54)).heap.size = w5.heap.size + 1 := by simp
            exact ⟨by omega, by omega⟩
        have hcw6 : Ch (fun _ => False) w w6 := hcw5.trans hc56 fun k hk e => by have := hvlo k e; omega
        refine CWL.loopJ (fun m σ w' => ∃ k y, k = p + m ∧ k ≤ us.length ∧ σ 5 = .int .u32 (K : Int) ∧ σ 6 = .slice a6 (us.length + 1) c6 ∧ σ 8 = .pointer (some ⟨r, 0, none⟩) ∧ σ 9 = .int .i64 (p : Int) ∧ σ 10 = .int .i64 (k : Int) ∧ σ 17 = .slice (some a) nU c ∧ σ 18 = .int .i64 (nU : Int) ∧ σ 19 = .int .i64 (i : Int) ∧
            TOwn 54 w' (.slice a6 (us.length + 1) c6) (us.take k ++ y :: us.drop k) ∧ Blk w' r 54 [.int .u32 (x.1.toNat : Int), vv] ∧ Ch (fun _ => False) w w')
          (fun σ w' => ∃ y, σ 5 = .int .u32 (K : Int) ∧ σ 6 = .slice a6 (us.length + 1) c6 ∧ σ 8 = .pointer (some ⟨r, 0, none⟩) ∧ σ 9 = .int .i64 (p : Int) ∧ σ 17 = .slice (some a) nU c ∧ σ 18 = .int .i64 (nU : Int) ∧ σ 19 = .int .i64 (i : Int) ∧
            TOwn 54 w' (.slice a6 (us.length + 1) c6) (us.take p ++ y :: us.drop p) ∧ Blk w' r 54 [.int .u32 (x.1.toNat : Int), vv] ∧ Ch (fun _ => False) w w') (us.length - p)
          ⟨us.length, (0, .slice none 0 0), by omega, Nat.le_refl _, rfl, rfl, rfl, rfl, rfl, rfl, rfl, rfl, by rw [List.take_of_length_le (Nat.le_refl _), List.drop_of_length_le (Nat.le_refl _)]; exact hown6, hbt6, hcw6⟩ ?_ ?_
        · rintro m σ w7 ⟨k, y, hk, hkl, e5, e6, e8, e9, e10, e17, e18, e19, hown7, hbt7, hcw7⟩
          refine CW.pin [(5, .int .u32 (K : Int)), (6, .slice a6 (us.length + 1) c6), (8, .pointer (some ⟨r, 0, none⟩)), (9, .int .i64 (p : Int)), (10, .int .i64 (k : Int)), (17, .slice (some a) nU c), (18, .int .i64 (nU : Int)), (19, .int .i64 (i : Int))] (all_pin e5 (all_pin e6 (all_pin e8 (all_pin e9 (all_pin e10 (all_pin e17 (all_pin e18 (all_pin e19 (fun _ h => by cases h))))))))) fun σ => ?_
          simp only [flat, List.cons_append, List.nil_append, List.append_nil]
          refine CWL.reg (ops := [(.binOp .gtr 3 (.tmp 20) (.tmp 18) 3, 4)]) (b := [(68, 1), (67, 18), (66, 20)]) (by kernel_rfl) ?_
          refine OpK.cmp rfl rfl rfl ?_
          show CWL _ _ _ _ _ _
          cases m with
          | zero =>
            refine CWL.condF (congrArg Value.bool (decide_eq_false (by omega))) ?_
            simp only [flat, List.cons_append, List.nil_append, List.append_nil]
            refine CWL.cons (CW.exit ?_)
            obtain rfl : k = p := by omega
            exact ⟨y, rfl, rfl, rfl, rfl, rfl, rfl, rfl, hown7, hbt7, hcw7⟩
          | succ m =>
            refine CWL.condT (congrArg Value.bool (decide_eq_true (by omega))) ?_
            simp only [flat, List.cons_append, List.nil_append, List.append_nil]
            refine CWL.block ?_
            simp only [flat, List.cons_append, List.nil_append, List.append_nil]
            obtain ⟨z, hz⟩ : ∃ z, us[k - 1]? = some z := ⟨_, List.getElem?_eq_getElem (by omega)⟩
            have hget := (shift_get (us := us) (y := y) (k := k) (by omega) hkl).trans hz
            obtain ⟨a7, c7, hv7, hf7⟩ := hown7.form
            obtain ⟨g7, rfl, hg7, hob7, hat7⟩ := hf7 (k - 1) z hget
            have hl7 : (us.take k ++ y :: us.drop k).length = us.length + 1 := by rw [List.length_append, List.length_take, List.length_cons, List.length_drop]; omega
            rw [hl7] at hv7
            cases hv7
            have hown7' : TOwn 54 w7 (.slice (some ⟨g7, 0, none⟩) (us.take k ++ y :: us.drop k).length c6) (us.take k ++ y :: us.drop k) := by rw [hl7]; exact hown7
            have hk1 : IntKind.i64.wrap ((k : Int) - 1) = ((k - 1 : Nat) : Int) := by rw [IntKind.wrap_i64]; omega
            have hz1 : z.2.oneCell' = true := by
              obtain ⟨z', _, hzr⟩ := hall.at1 hz
              exact hzr.2.form
            have hv6 := hv6lo g7 rfl
            refine CWL.reg (ops := [(.binOp .sub 3 (.tmp 20) (.const (Go.Value.int Go.IntKind.i64 1)) 3, 3), (.indexAddr 24 (.tmp 12) (.tmp 1), 0), (.load 54 (.tmp 3), 54), (.indexAddr 24 (.tmp 12) (.tmp 20), 0), (.store 54 (.tmp 7) (.tmp 5), 0)]) (b := [(78, 7), (77, 5), (76, 3), (75, 1), (74, 20), (73, 12), (72, 20), (71, 12)]) (by kernel_rfl) ?_
            refine OpK.arith (r := ((k - 1 : Nat) : Int)) (by rw [← hk1]; rfl) rfl rfl ?_
            refine OpK.indexAddr (s := 2) (by kernel_rfl) rfl rfl (by omega) ?_
            refine OpK.loadA (n := 2) (by kernel_rfl) rfl (hat7) rfl ?_
            refine OpK.indexAddr (s := 2) (by kernel_rfl) rfl rfl (by omega) ?_
            refine OpK.storeT (z := z) (k := k) (by kernel_rfl) rfl rfl hz1 hown7' (by omega) fun w8 hown8 hc8 hs8 => ?_
            show CWL _ _ _ _ _ _
            try refine CWL.nil_ (P := Tryz.prog) (n := 0) ?_
            show CWL _ _ _ _ _ _
            refine CWL.reg (ops := [(.binOp .sub 3 (.tmp 20) (.const (Go.Value.int Go.IntKind.i64 1)) 3, 3)]) (b := [(10, 1), (70, 1), (69, 20)]) (by kernel_rfl) ?_
            refine OpK.arith (r := ((k - 1 : Nat) : Int)) (by rw [← hk1]; rfl) rfl rfl ?_
            show CWL _ _ _ _ _ _
            try refine CWL.nil_ (P := Tryz.prog) (n := 0) ?_
            have hset : (us.take k ++ y :: us.drop k).set k z = us.take (k - 1) ++ z :: us.drop (k - 1) := shift_step (by omega) hkl hz
            refine ⟨m, Nat.lt_succ_self m, k - 1, z, by omega, by omega, rfl, rfl, rfl, rfl, rfl, rfl, rfl, rfl, ?_, hbt7.keep (hc8.block r (by have := hbt7.lt; omega) (fun e => hv6.2 e.symm)), hcw7.trans hc8 fun i hi e => by omega⟩
            rw [hset] at hown8
            have hl8 : (us.take (k - 1) ++ z :: us.drop (k - 1)).length = us.length + 1 := by rw [List.length_append, List.length_take, List.length_cons, List.length_drop]; omega
            rw [hl8] at hown8
            exact hown8
        rintro σ w7 ⟨y, e5, e6, e8, e9, e17, e18, e19, hown7, hbt7, hcw7⟩
        rw [pin_eq (σ := σ) (l := [(5, .int .u32 (K : Int)), (6, .slice a6 (us.length + 1) c6), (8, .pointer (some ⟨r, 0, none⟩)), (9, .int .i64 (p : Int)), (17, .slice (some a) nU c), (18, .int .i64 (nU : Int)), (19, .int .i64 (i : Int))]) (all_pin e5 (all_pin e6 (all_pin e8 (all_pin e9 (all_pin e17 (all_pin e18 (all_pin e19 (fun _ h => by cases h))))))))]
        have hl7 : (us.take p ++ y :: us.drop p).length = us.length + 1 := by rw [List.length_append, List.length_take, List.length_cons, List.length_drop]; omega
        obtain ⟨g7, rfl⟩ : ∃ g, a6 = some ⟨g, 0, none⟩ := by
          obtain ⟨a7, c7, hv7, hf7⟩ := hown7.form
          obtain ⟨g7, h1, _⟩ := hf7 p y (by rw [List.getElem?_append_right (by rw [List.length_take]; omega), show p - (us.take p).length = 0 by rw [List.length_take]; omega]; rfl)
          rw [hl7] at hv7
          cases hv7
          exact ⟨g7, h1⟩
        have hown7' : TOwn 54 w7 (.slice (some ⟨g7, 0, none⟩) (us.take p ++ y :: us.drop p).length c6) (us.take p ++ y :: us.drop p) := by rw [hl7]; exact hown7
        have hv6 := hv6lo g7 rfl
        refine CWL.reg (ops := [(.load 54 (.tmp 16), 54), (.indexAddr 24 (.tmp 12) (.tmp 18), 0), (.store 54 (.tmp 3) (.tmp 1), 0)]) (b := [(82, 3), (81, 1), (80, 18), (79, 12)]) (by kernel_rfl) ?_
        refine OpK.loadA (n := 2) (by kernel_rfl) rfl (hbt7.ata) rfl ?_
        refine OpK.indexAddr (s := 2) (by kernel_rfl) rfl rfl (by omega) ?_
        refine OpK.storeT (z := (x.1.toNat, vv)) (k := p) (by kernel_rfl) rfl rfl hvv.form hown7' (by omega) fun w8 hown8 hc8 hs8 => ?_
        show CWL _ _ _ _ _ _
        try refine CWL.nil_ (P := Tryz.prog) (n := 0) ?_
        show CWL _ _ _ _ _ _
        have hi1 := i64_succ i (by omega)
        refine CWL.reg (ops := [(.binOp .add 3 (.tmp 38) (.const (Go.Value.int Go.IntKind.i64 1)) 3, 3)]) (b := [(19, 1), (83, 1)]) (by kernel_rfl) ?_
        refine OpK.arith (r := ((i + 1 : Nat) : Int)) (by rw [← hi1]; rfl) rfl rfl ?_
        show CWL _ _ _ _ _ _
        try refine CWL.nil_ (P := Tryz.prog) (n := 0) ?_
        rw [shift_end (by omega)] at hown8
        have hl8 : (us.take p ++ (x.1.toNat, vv) :: us.drop p).length = us.length + 1 := by rw [List.length_append, List.length_take, List.length_cons, List.length_drop]; omega
        rw [hl8] at hown8
        exact ⟨m, Nat.lt_succ_self m, i + 1, _, _, by omega, rfl, rfl, rfl, rfl, rfl, hown8, by rw [hnext]; exact hins.2 hex, hcw7.trans hc8 fun i hi e => by omega, fun k hk => by cases hk; exact hv6.1⟩
      · have hpe : p = us.length := by omega
        subst hv
        refine CWL.regD0 mixed [(0, true), (1, true), (2, true), (3, true), (4, true), (5, true), (6, true), (7, false), (8, true), (9, true), (10, true), (11, true), (12, true), (13, true), (14, true), (15, true), (16, true), (17, true), (18, true), (19, true)] (by decide +kernel) ?_
        refine HW.early rfl rfl (Yi.fieldAddr (off := 0) (by kernel_rfl) rfl) ?_
        refine HW.early rfl rfl (Yi.load (by kernel_rfl) rfl (fun w' hw' => (hbt4'.ch hw').cell 0)) ?_
        refine HW.early rfl rfl (Yi.move) ?_
        refine HW.early rfl rfl (Yi.cmp (r := false) (by rw [← hkey0]; rfl) rfl rfl) ?_
        refine HW.early rfl rfl (Yi.move) ?_
        refine HW.early rfl rfl (Yi.move) ?_
        refine HW.early rfl rfl (Yi.move) ?_
        refine HW.step (Ch.drew _ _) rfl rfl (OpK.len (e := 54) (by kernel_rfl) rfl ⟨rfl, rfl⟩) ?_
        refine HW.early rfl rfl (Yi.cmp (r := false) (by rw [← decide_eq_false (show ¬ (p : Int) < (us.length : Int) by omega)]; rfl) rfl rfl) ?_
        refine HW.early rfl rfl (Yi.move) ?_
        refine HW.none_ rfl rfl ?_
        refine HW.none_ rfl rfl ?_
        refine HW.none_ rfl rfl ?_
        refine HW.none_ rfl rfl ?_
        refine HW.none_ rfl rfl ?_
        refine HW.none_ rfl rfl ?_
        refine HW.none_ rfl rfl ?_
        refine HW.none_ rfl rfl ?_
        refine HW.early rfl rfl (Yi.pick rfl) ?_
        refine HW.early rfl rfl (Yi.pick rfl) ?_
        refine HW.done ?_
        refine CWL.condF rfl ?_
        simp only [flat, List.cons_append, List.nil_append, List.append_nil]
        generalize w4.drew = w5 at hcw5 hown4 hbt4 hsz ⊢
        have hz := run_bsTag (P := Tryz.prog) (t := 24) (e := 54) (by kernel_rfl)
        have hown5 : TOwn 54 (w5.alloc (.cells zeroG.toArray 54)) (.slice av us.length cv) us := hown4.keep fun k hk => alloc_old _ _ _ (hown4.lt hk)
        obtain ⟨v6, w6, hr6, hown6, hc6, hb6⟩ := append_tag (P := Tryz.prog) (t := 24) (ty := 24) (by kernel_rfl) (by kernel_rfl) hown5 (by omega) (a := ⟨w5.heap.size, 0, none⟩) (Blk.new w5 54 zeroG).ata
        have hc56 : Ch (fun i => (Value.slice av us.length cv).ownBlock = some i) w5 w6 := (Ch.alloc _ w5 _).trans hc6 fun i _ h => h
        refine CWL.reg (ops := [(.build 54 #[], 54), (.buildSlice 24 1 #[(0, .tmp 1)], 24), (.call ⟨.builtin .append, #[.tmp 12, .tmp 3], #[24, 24]⟩, 24)]) (b := [(6, 5), (62, 5), (61, 3), (60, 1), (59, 12)]) (by kernel_rfl) ?_
        refine OpK.build (cells := zeroG.toArray) (by kernel_rfl) ?_
        refine OpK.buildS (by simp only [List.map_toArray, List.map_cons, List.map_nil]; exact hz w5) ?_
        refine OpK.run rfl hr6 ?_
        show CWL _ _ _ _ _ _
        obtain ⟨a6, c6, hv6, hf6⟩ := hown6.form
        have hv6' : v6 = .slice a6 (us.length + 1) c6 := by rw [hv6]; simp
        subst hv6'
        have hsub : IntKind.i64.wrap (((us.length + 1 : Nat) : Int) - 1) = (us.length : Int) := by rw [IntKind.wrap_i64]; omega
        refine CWL.reg (ops := [(.call ⟨.builtin .len, #[.tmp 12], #[24]⟩, 3), (.binOp .sub 3 (.tmp 1) (.const (Go.Value.int Go.IntKind.i64 1)) 3, 3)]) (b := [(10, 3), (65, 3), (64, 1), (63, 12)]) (by kernel_rfl) ?_
        refine OpK.len (e := 54) (by kernel_rfl) rfl ?_
        refine OpK.arith (r := (us.length : Int)) (by rw [← hsub]; rfl) rfl rfl ?_
        show CWL _ _ _ _ _ _
        have hbt6 : Blk w6 r 54 [.int .u32 (x.1.toNat : Int), vv] := hbt4.keep (hc56.block r (by omega) hvr)
        have hv6lo : ∀ k, (Value.slice a6 (us.length + 1) c6).ownBlock = some k → w.heap.size ≤ k ∧ k ≠ r := fun k hk => by
          rcases hb6 k hk with h | h
          · exact ⟨hvlo k h, fun e => hvr (e ▸ h)⟩
          · have h0 := hcw5.size
            have e5 : (w5.alloc (.cells zeroG.toArray 54)).heap.size = w5.heap.size + 1 := by simp
            exact ⟨by omega, by omega⟩
        have hcw6 : Ch (fun _ => False) w w6 := hcw5.trans hc56 fun k hk e => by have := hvlo k e; omega
        refine CWL.loopJ (fun m σ w' => ∃ k y, k = p + m ∧ k ≤ us.length ∧ σ 5 = .int .u32 (K : Int) ∧ σ 6 = .slice a6 (us.length + 1) c6 ∧ σ 8 = .pointer (some ⟨r, 0, none⟩) ∧ σ 9 = .int .i64 (p : Int) ∧ σ 10 = .int .i64 (k : Int) ∧ σ 17 = .slice (some a) nU c ∧ σ 18 = .int .i64 (nU : Int) ∧ σ 19 = .int .i64 (i : Int) ∧
            TOwn 54 w' (.slice a6 (us.length + 1) c6) (us.take k ++ y :: us.drop k) ∧ Blk w' r 54 [.int .u32 (x.1.toNat : Int), vv] ∧ Ch (fun _ => False) w w')
          (fun σ w' => ∃ y, σ 5 = .int .u32 (K : Int) ∧ σ 6 = .slice a6 (us.length + 1) c6 ∧ σ 8 = .pointer (some ⟨r, 0, none⟩) ∧ σ 9 = .int .i64 (p : Int) ∧ σ 17 = .slice (some a) nU c ∧ σ 18 = .int .i64 (nU : Int) ∧ σ 19 = .int .i64 (i : Int) ∧
            TOwn 54 w' (.slice a6 (us.length + 1) c6) (us.take p ++ y :: us.drop p) ∧ Blk w' r 54 [.int .u32 (x.1.toNat : Int), vv] ∧ Ch (fun _ => False) w w') (us.length - p)
          ⟨us.length, (0, .slice none 0 0), by omega, Nat.le_refl _, rfl, rfl, rfl, rfl, rfl, rfl, rfl, rfl, by rw [List.take_of_length_le (Nat.le_refl _), List.drop_of_length_le (Nat.le_refl _)]; exact hown6, hbt6, hcw6⟩ ?_ ?_
        · rintro m σ w7 ⟨k, y, hk, hkl, e5, e6, e8, e9, e10, e17, e18, e19, hown7, hbt7, hcw7⟩
          refine CW.pin [(5, .int .u32 (K : Int)), (6, .slice a6 (us.length + 1) c6), (8, .pointer (some ⟨r, 0, none⟩)), (9, .int .i64 (p : Int)), (10, .int .i64 (k : Int)), (17, .slice (some a) nU c), (18, .int .i64 (nU : Int)), (19, .int .i64 (i : Int))] (all_pin e5 (all_pin e6 (all_pin e8 (all_pin e9 (all_pin e10 (all_pin e17 (all_pin e18 (all_pin e19 (fun _ h => by cases h))))))))) fun σ => ?_
          simp only [flat, List.cons_append, List.nil_append, List.append_nil]
          refine CWL.reg (ops := [(.binOp .gtr 3 (.tmp 20) (.tmp 18) 3, 4)]) (b := [(68, 1), (67, 18), (66, 20)]) (by kernel_rfl) ?_
          refine OpK.cmp rfl rfl rfl ?_
          show CWL _ _ _ _ _ _
          cases m with
          | zero =>
            refine CWL.condF (congrArg Value.bool (decide_eq_false (by omega))) ?_
            simp only [flat, List.cons_append, List.nil_append, List.append_nil]
            refine CWL.cons (CW.exit ?_)
            obtain rfl : k = p := by omega
            exact ⟨y, rfl, rfl, rfl, rfl, rfl, rfl, rfl, hown7, hbt7, hcw7⟩
          | succ m =>
            refine CWL.condT (congrArg Value.bool (decide_eq_true (by omega))) ?_
            simp only [flat, List.cons_append, List.nil_append, List.append_nil]
            refine CWL.block ?_
            simp only [flat, List.cons_append, List.nil_append, List.append_nil]
            obtain ⟨z, hz⟩ : ∃ z, us[k - 1]? = some z := ⟨_, List.getElem?_eq_getElem (by omega)⟩
            have hget := (shift_get (us := us) (y := y) (k := k) (by omega) hkl).trans hz
            obtain ⟨a7, c7, hv7, hf7⟩ := hown7.form
            obtain ⟨g7, rfl, hg7, hob7, hat7⟩ := hf7 (k - 1) z hget
            have hl7 : (us.take k ++ y :: us.drop k).length = us.length + 1 := by rw [List.length_append, List.length_take, List.length_cons, List.length_drop]; omega
            rw [hl7] at hv7
            cases hv7
            have hown7' : TOwn 54 w7 (.slice (some ⟨g7, 0, none⟩) (us.take k ++ y :: us.drop k).length c6) (us.take k ++ y :: us.drop k) := by rw [hl7]; exact hown7
            have hk1 : IntKind.i64.wrap ((k : Int) - 1) = ((k - 1 : Nat) : Int) := by rw [IntKind.wrap_i64]; omega
            have hz1 : z.2.oneCell' = true := by
              obtain ⟨z', _, hzr⟩ := hall.at1 hz
              exact hzr.2.form
            have hv6 := hv6lo g7 rfl
            refine CWL.reg (ops := [(.binOp .sub 3 (.tmp 20) (.const (Go.Value.int Go.IntKind.i64 1)) 3, 3), (.indexAddr 24 (.tmp 12) (.tmp 1), 0), (.load 54 (.tmp 3), 54), (.indexAddr 24 (.tmp 12) (.tmp 20), 0), (.store 54 (.tmp 7) (.tmp 5), 0)]) (b := [(78, 7), (77, 5), (76, 3), (75, 1), (74, 20), (73, 12), (72, 20), (71, 12)]) (by kernel_rfl) ?_
            refine OpK.arith (r := ((k - 1 : Nat) : Int)) (by rw [← hk1]; rfl) rfl rfl ?_
            refine OpK.indexAddr (s := 2) (by kernel_rfl) rfl rfl (by omega) ?_
            refine OpK.loadA (n := 2) (by kernel_rfl) rfl (hat7) rfl ?_
            refine OpK.indexAddr (s := 2) (by kernel_rfl) rfl rfl (by omega) ?_
            refine OpK.storeT (z := z) (k := k) (by kernel_rfl) rfl rfl hz1 hown7' (by omega) fun w8 hown8 hc8 hs8 => ?_
            show CWL _ _ _ _ _ _
            try refine CWL.nil_ (P := Tryz.prog) (n := 0) ?_
            show CWL _ _ _ _ _ _
            refine CWL.reg (ops := [(.binOp .sub 3 (.tmp 20) (.const (Go.Value.int Go.IntKind.i64 1)) 3, 3)]) (b := [(10, 1), (70, 1), (69, 20)]) (by kernel_rfl) ?_
            refine OpK.arith (r := ((k - 1 : Nat) : Int)) (by rw [← hk1]; rfl) rfl rfl ?_
            show CWL _ _ _ _ _ _
            try refine CWL.nil_ (P := Tryz.prog) (n := 0) ?_
            have hset : (us.take k ++ y :: us.drop k).set k z = us.take (k - 1) ++ z :: us.drop (k - 1) := shift_step (by omega) hkl hz
            refine ⟨m, Nat.lt_succ_self m, k - 1, z, by omega, by omega, rfl, rfl, rfl, rfl, rfl, rfl, rfl, rfl, ?_, hbt7.keep (hc8.block r (by have := hbt7.lt; omega) (fun e => hv6.2 e.symm)), hcw7.trans hc8 fun i hi e => by omega⟩
            rw [hset] at hown8
            have hl8 : (us.take (k - 1) ++ z :: us.drop (k - 1)).length = us.length + 1 := by rw [List.length_append, List.length_take, List.length_cons, List.length_drop]; omega
            rw [hl8] at hown8
            exact hown8
        rintro σ w7 ⟨y, e5, e6, e8, e9, e17, e18, e19, hown7, hbt7, hcw7⟩
        rw [pin_eq (σ := σ) (l := [(5, .int .u32 (K : Int)), (6, .slice a6 (us.length + 1) c6), (8, .pointer (some ⟨r, 0, none⟩)), (9, .int .i64 (p : Int)), (17, .slice (some a) nU c), (18, .int .i64 (nU : Int)), (19, .int .i64 (i : Int))]) (all_pin e5 (all_pin e6 (all_pin e8 (all_pin e9 (all_pin e17 (all_pin e18 (all_pin e19 (fun _ h => by cases h))))))))]
        have hl7 : (us.take p ++ y :: us.drop p).length = us.length + 1 := by rw [List.length_append, List.length_take, List.length_cons, List.length_drop]; omega
        obtain ⟨g7, rfl⟩ : ∃ g, a6 = some ⟨g, 0, none⟩ := by
          obtain ⟨a7, c7, hv7, hf7⟩ := hown7.form
          obtain ⟨g7, h1, _⟩ := hf7 p y (by rw [List.getElem?_append_right (by rw [List.length_take]; omega), show p - (us.take p).length = 0 by rw [List.length_take]; omega]; rfl)
          rw [hl7] at hv7
          cases hv7
          exact ⟨g7, h1⟩
        have hown7' : TOwn 54 w7 (.slice (some ⟨g7, 0, none⟩) (us.take p ++ y :: us.drop p).length c6) (us.take p ++ y :: us.drop p) := by rw [hl7]; exact hown7
        have hv6 := hv6lo g7 rfl
        refine CWL.reg (ops := [(.load 54 (.tmp 16), 54), (.indexAddr 24 (.tmp 12) (.tmp 18), 0), (.store 54 (.tmp 3) (.tmp 1), 0)]) (b := [(82, 3), (81, 1), (80, 18), (79, 12)]) (by kernel_rfl) ?_
        refine OpK.loadA (n := 2) (by kernel_rfl) rfl (hbt7.ata) rfl ?_
        refine OpK.indexAddr (s := 2) (by kernel_rfl) rfl rfl (by omega) ?_
        refine OpK.storeT (z := (x.1.toNat, vv)) (k := p) (by kernel_rfl) rfl rfl hvv.form hown7' (by omega) fun w8 hown8 hc8 hs8 => ?_
        show CWL _ _ _ _ _ _
        try refine CWL.nil_ (P := Tryz.prog) (n := 0) ?_
        show CWL _ _ _ _ _ _
        have hi1 := i64_succ i (by omega)
        refine CWL.reg (ops := [(.binOp .add 3 (.tmp 38) (.const (Go.Value.int Go.IntKind.i64 1)) 3, 3)]) (b := [(19, 1), (83, 1)]) (by kernel_rfl) ?_
        refine OpK.arith (r := ((i + 1 : Nat) : Int)) (by rw [← hi1]; rfl) rfl rfl ?_
        show CWL _ _ _ _ _ _
        try refine CWL.nil_ (P := Tryz.prog) (n := 0) ?_
        rw [shift_end (by omega)] at hown8
        have hl8 : (us.take p ++ (x.1.toNat, vv) :: us.drop p).length = us.length + 1 := by rw [List.length_append, List.length_take, List.length_cons, List.length_drop]; omega
        rw [hl8] at hown8
        exact ⟨m, Nat.lt_succ_self m, i + 1, _, _, by omega, rfl, rfl, rfl, rfl, rfl, hown8, by rw [hnext]; exact hins.2 hex, hcw7.trans hc8 fun i hi e => by omega, fun k hk => by cases hk; exact hv6.1⟩

theorem call24 : Callable Tryz.prog 24 := ⟨Tryz.f24, Tryz.func24, by kernel_rfl, by kernel_rfl⟩
set_option maxHeartbeats 4000000 in
theorem usual (w : World) (B : Nat) (f : Fld) (vsub : Value) (hk : f.kind = 11) (t : Tr) (cs : List Value) (hT : TrIs w B t cs) : Calls Tryz.prog 24 #[.agg (fldCells f vsub).toArray, .agg cs.toArray] w fun en w' => ∃ x, en = .returned x ∧ x = .bool ((t.l.length : Int) == 0) ∧ Ch (fun _ => False) w w' := by
  cases hT with
  | @mk n s tn l u vs vl vu cells hn hs hl hc hu =>
  obtain ⟨a, c, rfl, _⟩ := hl
  cases f with
  | mk kind lo hi null tag dflt of sub =>
  obtain rfl : kind = 11 := hk
  refine Calls.of_CW Tryz.func24 rfl (by decide +kernel) (Nat.le_of_ble_eq_true (by kernel_rfl)) (CW.of_flat ?_)
  simp only [flat, List.cons_append, List.nil_append, List.append_nil]
  refine CWL.reg (ops := [(.box 46 (.tmp 0), 0), (.box 26 (.tmp 2), 0), (.assign (.const (Go.Value.bool false)), 4)]) (b := [(4, 5), (3, 3), (2, 1)]) (by kernel_rfl) ?_
  refine OpK.boxG (cs := fldCells (.mk 11 lo hi null tag dflt of sub) vsub) rfl fun w1 g hb1 hc1 hg1 hs1 => ?_
  refine OpK.boxG (cs := [.int .i64 n, vs, .bool tn, .slice a l.length c, vu]) rfl fun w2 gt hbt2 hc2 hg2 hs2 => ?_
  refine OpK.assign ?_
  show CWL _ _ _ _ _ _
  have hb2 := hb1.ch hc2
  have hc12 : Ch (fun _ => False) w w2 := hc1.trans' hc2
  refine CWL.reg (ops := [(.fieldAddr 46 (.tmp 4) 0, 0), (.load 3 (.tmp 1), 3)]) (b := [(10, 3), (9, 1)]) (by kernel_rfl) ?_
  refine OpK.fieldAddr (off := 0) (by kernel_rfl) rfl ?_
  refine OpK.load (by kernel_rfl) rfl (hb2.cell 0) ?_
  show CWL _ _ _ _ _ _
  refine CWL.block ?_
  simp only [flat, List.cons_append, List.nil_append, List.append_nil]
  refine CWL.reg (ops := [(.binOp .eql 3 (.tmp 20) (.const (Go.Value.int Go.IntKind.i64 0)) 3, 4)]) (b := [(11, 1), (12, 1)]) (by kernel_rfl) ?_
  refine OpK.cmp rfl rfl rfl ?_
  show CWL _ _ _ _ _ _
  refine CWL.condF rfl ?_
  simp only [flat, List.cons_append, List.nil_append, List.append_nil]
  refine CWL.reg (ops := [(.binOp .eql 3 (.tmp 20) (.const (Go.Value.int Go.IntKind.i64 7)) 3, 4)]) (b := [(19, 1), (20, 1)]) (by kernel_rfl) ?_
  refine OpK.cmp rfl rfl rfl ?_
  show CWL _ _ _ _ _ _
  refine CWL.condF rfl ?_
  simp only [flat, List.cons_append, List.nil_append, List.append_nil]
  refine CWL.reg (ops := [(.binOp .eql 3 (.tmp 20) (.const (Go.Value.int Go.IntKind.i64 8)) 3, 4)]) (b := [(36, 1), (37, 1)]) (by kernel_rfl) ?_
  refine OpK.cmp rfl rfl rfl ?_
  show CWL _ _ _ _ _ _
  refine CWL.condF rfl ?_
  simp only [flat, List.cons_append, List.nil_append, List.append_nil]
  refine CWL.reg (ops := [(.binOp .eql 3 (.tmp 20) (.const (Go.Value.int Go.IntKind.i64 9)) 3, 4)]) (b := [(36, 1), (38, 1)]) (by kernel_rfl) ?_
  refine OpK.cmp rfl rfl rfl ?_
  show CWL _ _ _ _ _ _
  refine CWL.condF rfl ?_
  simp only [flat, List.cons_append, List.nil_append, List.append_nil]
  refine CWL.reg (ops := [(.binOp .eql 3 (.tmp 20) (.const (Go.Value.int Go.IntKind.i64 11)) 3, 4)]) (b := [(48, 1), (49, 1)]) (by kernel_rfl) ?_
  refine OpK.cmp rfl rfl rfl ?_
  show CWL _ _ _ _ _ _
  refine CWL.condT rfl ?_
  simp only [flat, List.cons_append, List.nil_append, List.append_nil]
  refine CWL.reg (ops := [(.fieldAddr 26 (.tmp 6) 3, 0), (.load 23 (.tmp 1), 23), (.call ⟨.builtin .len, #[.tmp 3], #[23]⟩, 3), (.binOp .eql 3 (.tmp 5) (.const (Go.Value.int Go.IntKind.i64 0)) 3, 4)]) (b := [(4, 7), (53, 7), (52, 5), (51, 3), (50, 1)]) (by kernel_rfl) ?_
  refine OpK.fieldAddr (off := 3) (by kernel_rfl) rfl ?_
  refine OpK.load (by kernel_rfl) rfl (hbt2.cell 3) ?_
  refine OpK.len (e := 26) (by kernel_rfl) rfl ?_
  refine OpK.cmp rfl rfl rfl ?_
  show CWL _ _ _ _ _ _
  refine CWL.ret ?_
  exact ⟨_, rfl, rfl, hc12⟩

set_option maxHeartbeats 16000000 in
theorem partK_is (ver : Int) (flds : List Fld) (htg : ∀ f ∈ flds, f.tag < 1000) (hkd : ∀ f ∈ flds, f.tag ≥ 0 → f.kind = 11) (hpt : ∀ f ∈ flds, f.parts = false) (w : World) (B dd : Nat) (v : Value) (t : Tr) (cs : List Value) (hB : B ≤ w.heap.size) (hF : FldsIs w B dd flds v) (hT : TrIs w B t cs) (hlim0 : (partK ver flds t).length < 1073741824) :
    Calls Tryz.prog 14 #[v, .int .i64 ver, .bool true, .agg cs.toArray] w fun en w' => ∃ x, en = .returned x ∧ New w w' x (partK ver flds t) := by
  have hfew := hF.few
  have hT0 := hT
  cases hT with
  | @mk n s tn l u vs vl vu cells hn hs hl hc hu =>
  generalize htd : Tr.mk n s tn l u = t at hT0 hlim0 ⊢
  have htu : t.u = u := by rw [← htd]; rfl
  obtain ⟨a, c, hv, hform⟩ := hF.form
  subst hv
  have hlim : (partK ver flds t).length ≤ Lim := by simp only [Lim]; omega
  unfold partK at hlim hlim0 ⊢
  generalize hgd : (fun x : Fld × Nat => fldL (fun _ _ => []) x.1 ver true (t.at x.2)) = gf at hlim hlim0 ⊢
  generalize hKd : knownF flds = K at hlim hlim0 ⊢
  generalize hknd : knL ver flds t K = kn at hlim hlim0 ⊢
  simp only [List.length_append] at hlim hlim0
  refine Calls.of_CW Tryz.func14 rfl (by decide +kernel) (Nat.le_of_ble_eq_true (by kernel_rfl)) (CW.of_flat ?_)
  simp only [flat, List.cons_append, List.nil_append, List.append_nil]
  refine CWL.reg (ops := [(.box 26 (.tmp 6), 0), (.assign (.const (Go.Value.slice none 0 0)), 22)]) (b := [(8, 3), (7, 1)]) (by kernel_rfl) ?_
  refine OpK.boxG (cs := [.int .i64 n, vs, .bool tn, vl, vu]) rfl fun w1 gt hbt1 hc1 hg1 hs1 => ?_
  refine OpK.assign ?_
  show CWL _ _ _ _ _ _
  refine CWL.reg (ops := [(.assign (.const (Go.Value.slice none 0 0)), 22), (.assign (.const (Go.Value.slice none 0 0)), 22)]) (b := [(10, 3), (9, 1)]) (by kernel_rfl) ?_
  refine OpK.assign ?_
  refine OpK.assign ?_
  show CWL _ _ _ _ _ _
  refine CWL.reg (ops := [(.assign (.const (Go.Value.int Go.IntKind.i64 0)), 3)]) (b := [(11, 1)]) (by kernel_rfl) ?_
  refine OpK.assign ?_
  show CWL _ _ _ _ _ _
  refine CWL.reg (ops := [(.call ⟨.builtin .len, #[.tmp 0], #[30]⟩, 3), (.move (.const (Go.Value.int Go.IntKind.i64 0)), 3)]) (b := [(23, 3), (22, 1), (21, 0)]) (by kernel_rfl) ?_
  refine OpK.len (e := 46) (by kernel_rfl) rfl ?_
  refine OpK.move ?_
  show CWL _ _ _ _ _ _
  refine CWL.loopJ (fun m σ wl => ∃ i d, i + m = flds.length ∧ σ 0 = .slice a flds.length c ∧ σ 1 = .int .i64 ver ∧ σ 2 = .bool true ∧ σ 7 = .pointer (some ⟨gt, 0, none⟩) ∧ σ 9 = d ∧ σ 10 = .slice none 0 0 ∧ σ 11 = .int .i64 0 ∧ σ 21 = .slice a flds.length c ∧ σ 22 = .int .i64 (flds.length : Int) ∧ σ 23 = .int .i64 (i : Int) ∧
      New w wl d ((acts ver (flds.take i)).flatMap gf) ∧ Ch (fun _ => False) w1 wl ∧ ∀ k, d.ownBlock = some k → w1.heap.size ≤ k)
    (fun σ wl => ∃ d, σ 0 = .slice a flds.length c ∧ σ 1 = .int .i64 ver ∧ σ 2 = .bool true ∧ σ 7 = .pointer (some ⟨gt, 0, none⟩) ∧ σ 9 = d ∧ σ 10 = .slice none 0 0 ∧ σ 11 = .int .i64 0 ∧
      New w wl d ((acts ver flds).flatMap gf) ∧ Ch (fun _ => False) w1 wl ∧ ∀ k, d.ownBlock = some k → w1.heap.size ≤ k) flds.length
    ⟨0, .slice none 0 0, by simp, rfl, rfl, rfl, rfl, rfl, rfl, rfl, rfl, rfl, rfl, (Grew.refl (Own.nil _ _)).later hc1, Ch.refl _ _, fun k hk => by cases hk⟩ ?_ ?_
  · rintro m σ wl ⟨i, d0, him, e0, e1, e2, e7, e9, e10, e11, e21, e22, e23, hg, hcl, hdlo⟩
    refine CW.pin [(0, .slice a flds.length c), (1, .int .i64 ver), (2, .bool true), (7, .pointer (some ⟨gt, 0, none⟩)), (9, d0), (10, .slice none 0 0), (11, .int .i64 0), (21, .slice a flds.length c), (22, .int .i64 (flds.length : Int)), (23, .int .i64 (i : Int))]
      (all_pin e0 (all_pin e1 (all_pin e2 (all_pin e7 (all_pin e9 (all_pin e10 (all_pin e11 (all_pin e21 (all_pin e22 (all_pin e23 (fun _ h => by cases h))))))))))) fun σ => ?_
    simp only [flat, List.cons_append, List.nil_append, List.append_nil]
    refine CWL.reg (ops := [(.binOp .lss 3 (.tmp 46) (.tmp 44) 3, 0)]) (b := [(24, 1)]) (by kernel_rfl) ?_
    refine OpK.cmp rfl rfl rfl ?_
    show CWL _ _ _ _ _ _
    cases m with
    | zero =>
      refine CWL.condF (congrArg Value.bool (decide_eq_false (by omega))) ?_
      simp only [flat, List.cons_append, List.nil_append, List.append_nil]
      refine CWL.cons (CW.exit ?_)
      rw [List.take_of_length_le (by omega)] at hg
      exact ⟨d0, rfl, rfl, rfl, rfl, rfl, rfl, rfl, hg, hcl, hdlo⟩
    | succ m =>
      refine CWL.condT (congrArg Value.bool (decide_eq_true (by omega))) ?_
      simp only [flat, List.cons_append, List.nil_append, List.append_nil]
      refine CWL.block ?_
      simp only [flat, List.cons_append, List.nil_append, List.append_nil]
      obtain ⟨f, hf⟩ : ∃ f, flds[i]? = some f := ⟨_, List.getElem?_eq_getElem (by omega)⟩
      obtain ⟨g, vsub, d', rfl, hgB, rfl, hat, hsub⟩ := hform i f hf
      have hcwl : Ch (fun _ => False) w wl := hc1.trans' hcl
      have hat' : At wl g (i * 8) (fldCells f vsub) := fun j x hx => (cell_keep (w := w) (w' := wl) (hcwl.block g (by omega) fun h => h)).trans (hat j x hx)
      refine CWL.reg (ops := [(.indexAddr 30 (.tmp 42) (.tmp 46), 0), (.load 46 (.tmp 1), 46), (.alloc 46, 0), (.store 46 (.tmp 5) (.tmp 3), 0)]) (b := [(12, 46), (13, 5), (27, 3), (26, 1), (25, 46)]) (by kernel_rfl) ?_
      refine OpK.indexAddr (s := 8) (by kernel_rfl) rfl rfl (by omega) ?_
      refine OpK.loadA (n := 8) (by kernel_rfl) rfl (hat'.mid) rfl ?_
      refine OpK.allocZ zeroF (by kernel_rfl) fun w2 r hr hc2 hr1 hs2 => ?_
      refine OpK.storeG (cs := zeroF) (us := fldCells f vsub) (by kernel_rfl) rfl rfl (fldCells_one hsub.one) hr rfl fun w3 hr3 hc3 hs3 => ?_
      show CWL _ _ _ _ _ _
      have hcl3 : Ch (fun _ => False) wl w3 := hc2.trans hc3 fun k hk e => by omega
      by_cases htag : f.tag < 0
      · skip
        refine CWL.cons (CW.region ?_)
        refine RW.want rfl ?_
        refine OpK.fieldAddr (off := 4) (by kernel_rfl) rfl ?_
        refine RW.want rfl ?_
        refine OpK.load (by kernel_rfl) rfl (hr3.cell 4) ?_
        refine RW.want rfl ?_
        refine OpK.cmp (r := true) (by rw [← decide_eq_true htag]; rfl) rfl rfl ?_
        refine RW.want rfl ?_
        refine OpK.move ?_
        refine RW.want rfl ?_
        refine OpK.loadA (n := 8) (by kernel_rfl) rfl hr3.ata rfl ?_
        refine RW.want rfl ?_
        refine OpK.move ?_
        refine RW.want rfl ?_
        refine OpK.asCall rfl call20 rfl ((has w3 f vsub ver).mono ?_)
        rintro en w4 ⟨v4, he4, rfl, hc4⟩
        refine ⟨_, he4, ?_⟩
        refine RW.want rfl ?_
        refine OpK.pick rfl ?_
        refine RW.z ?_
        show CWL _ _ _ _ _ _
        have hcl4 : Ch (fun _ => False) wl w4 := hcl3.trans' hc4
        have hr4 := hr3.ch hc4
        have hacts := acts_take (ver := ver) hf
        rw [decide_eq_true htag, Bool.true_and] at hacts
        have hi1 := i64_succ i (by omega)
        by_cases hh : hasL f ver = true
        · refine CWL.condT (congrArg Value.bool hh) ?_
          simp only [flat, List.cons_append, List.nil_append, List.append_nil]
          rw [if_pos hh] at hacts
          have hle := acts_take_le ver flds (i + 1) gf
          rw [hacts, List.flatMap_append, List.length_append] at hle
          simp only [List.flatMap_cons, List.flatMap_nil, List.append_nil] at hle
          have hgf : gf (f, i) = fldL (fun _ _ => []) f ver true (t.at i) := by rw [← hgd]
          have hbl := (hbt1.ch hcl).ch hcl4
          have hcw4 : Ch (fun _ => False) w w4 := hcwl.trans' hcl4
          have hk4 : ∀ w' : World, Ch (fun _ => False) w4 w' → ∀ k, k < B → w'.heap[k]? = w.heap[k]? := fun w' hw k hk => (hw.block k (by have := hcw4.size; omega) fun h => h).trans (hcw4.block k (by omega) fun h => h)
          have hg4 := hg.later hcl4
          refine CWL.regD mixed (fun w' => Ch (fun k => d0.ownBlock = some k) w4 w') [(0, true), (1, true), (2, true), (3, true), (4, true), (5, true), (6, false), (7, false), (8, false), (9, true)] (by decide +kernel) (Ch.drew _ _) ?_
          refine HW.early rfl rfl (Yi.move) ?_
          refine HW.early rfl rfl (Yi.loadA (n := 8) (by kernel_rfl) rfl (fun w' hw' => (hr4.chS hw' (fun e => by have := hg.own.lt e; have := hc2.size; omega)).ata) rfl) ?_
          refine HW.early rfl rfl (Yi.move) ?_
          refine HW.early rfl rfl (Yi.move) ?_
          refine HW.early rfl rfl (Yi.loadA (n := 5) (by kernel_rfl) rfl (fun w' hw' => (hbl.chS hw' (fun e => by have := hdlo gt e; have := hbt1.lt; omega)).ata) rfl) ?_
          refine HW.early rfl rfl (Yi.move) ?_
          refine HW.next rfl rfl ?_
          refine OpK.asCall rfl call22 rfl ((at_ _ B (by show B ≤ w4.heap.size; have := hcw4.size; omega) t _ (hT0.keep (hk4 _ (Ch.drew _ _))) i).mono ?_)
          rintro en w5 ⟨v5, he5, cs5, rfl, hT5, hc5⟩
          have hc45 : Ch (fun _ => False) w4 w5 := (Ch.drew _ _).trans' hc5
          refine ⟨_, he5, hc45.mono fun _ _ h => h.elim, ?_⟩
          refine HW.next rfl rfl ?_
          refine OpK.asCall rfl call21 rfl ((field w5 B d' (by have := hcw4.size; have := hc45.size; omega) ver true (fun _ _ => []) f vsub (hsub.keep (hk4 _ hc45)) (t.at i) cs5 hT5 (fun h => by rw [hpt f (List.mem_of_getElem? hf)] at h; cases h) (by rw [← hgf]; omega)).mono ?_)
          rintro en w6 ⟨d6, he6, hg6⟩
          rw [← hgf] at hg6
          have hc46 : Ch (fun _ => False) w4 w6 := hc45.trans' hg6.new_ch
          refine ⟨_, he6, hc46.mono fun _ _ h => h.elim, ?_⟩
          have hgd6 := hg4.later hc46
          obtain ⟨a6, c6, rfl, hn6, ho6⟩ := hg6.own.slice
          obtain ⟨d8, w8, hr8, hg8⟩ := run_append_oct (P := Tryz.prog) (ty := 22) (t := 22) u8 und hgd6.own (a := a6) (l := gf (f, i)) (c := c6) hn6 (fun a' e => (ho6 a' e).1) (by omega)
          refine HW.next rfl rfl ?_
          refine OpK.run rfl hr8 ?_
          refine ⟨(hc46.mono fun _ _ h => h.elim).trans hg8.ch fun k hk e => e, ?_⟩
          refine HW.early rfl rfl (Yi.assign) ?_
          refine HW.done ?_
          show CWL _ _ _ _ _ _
          try refine CWL.nil_ (P := Tryz.prog) (n := 0) ?_
          show CWL _ _ _ _ _ _
          refine CWL.reg (ops := [(.binOp .add 3 (.tmp 46) (.const (Go.Value.int Go.IntKind.i64 1)) 3, 3)]) (b := [(23, 1), (45, 1)]) (by kernel_rfl) ?_
          refine OpK.arith (r := ((i + 1 : Nat) : Int)) (by rw [← hi1]; rfl) rfl rfl ?_
          show CWL _ _ _ _ _ _
          try refine CWL.nil_ (P := Tryz.prog) (n := 0) ?_
          refine ⟨m, Nat.lt_succ_self m, i + 1, d8, by omega, rfl, rfl, rfl, rfl, rfl, rfl, rfl, rfl, rfl, rfl, ?_, ((hcl.trans' hcl4).trans' hc46).trans hg8.ch fun k hk e => by have := hdlo k e; omega, fun k hk => ?_⟩
          · rw [hacts, List.flatMap_append]
            simp only [List.flatMap_cons, List.flatMap_nil, List.append_nil]
            exact hgd6.more hg8
          · rcases hg8.blk k hk with h' | h'
            · exact hdlo k h'
            · have := hcl4.size; have := hc46.size; have := hcl.size; omega
        · refine CWL.condF (congrArg Value.bool (by simpa using hh)) ?_
          simp only [flat, List.cons_append, List.nil_append, List.append_nil]
          rw [if_neg hh, List.append_nil] at hacts
          try refine CWL.nil_ (P := Tryz.prog) (n := 0) ?_
          show CWL _ _ _ _ _ _
          refine CWL.reg (ops := [(.binOp .add 3 (.tmp 46) (.const (Go.Value.int Go.IntKind.i64 1)) 3, 3)]) (b := [(23, 1), (45, 1)]) (by kernel_rfl) ?_
          refine OpK.arith (r := ((i + 1 : Nat) : Int)) (by rw [← hi1]; rfl) rfl rfl ?_
          show CWL _ _ _ _ _ _
          try refine CWL.nil_ (P := Tryz.prog) (n := 0) ?_
          exact ⟨m, Nat.lt_succ_self m, i + 1, d0, by omega, rfl, rfl, rfl, rfl, rfl, rfl, rfl, rfl, rfl, rfl, by rw [hacts]; exact hg.later hcl4, hcl.trans' hcl4, hdlo⟩
      · -- a tag: not here
        have hacts := acts_take (ver := ver) hf
        rw [decide_eq_false htag, Bool.false_and, if_neg (by decide), List.append_nil] at hacts
        have hi1 := i64_succ i (by omega)
        refine CWL.cons (CW.region ?_)
        refine RW.want rfl ?_
        refine OpK.fieldAddr (off := 4) (by kernel_rfl) rfl ?_
        refine RW.want rfl ?_
        refine OpK.load (by kernel_rfl) rfl (hr3.cell 4) ?_
        refine RW.want rfl ?_
        refine OpK.cmp (r := false) (by rw [← decide_eq_false htag]; rfl) rfl rfl ?_
        refine RW.want rfl ?_
        refine OpK.move ?_
        refine RW.skip rfl ?_
        refine RW.skip rfl ?_
        refine RW.skip rfl ?_
        refine RW.want rfl ?_
        refine OpK.pick rfl ?_
        refine RW.z ?_
        show CWL _ _ _ _ _ _
        refine CWL.condF rfl ?_
        simp only [flat, List.cons_append, List.nil_append, List.append_nil]
        try refine CWL.nil_ (P := Tryz.prog) (n := 0) ?_
        show CWL _ _ _ _ _ _
        refine CWL.reg (ops := [(.binOp .add 3 (.tmp 46) (.const (Go.Value.int Go.IntKind.i64 1)) 3, 3)]) (b := [(23, 1), (45, 1)]) (by kernel_rfl) ?_
        refine OpK.arith (r := ((i + 1 : Nat) : Int)) (by rw [← hi1]; rfl) rfl rfl ?_
        show CWL _ _ _ _ _ _
        try refine CWL.nil_ (P := Tryz.prog) (n := 0) ?_
        exact ⟨m, Nat.lt_succ_self m, i + 1, d0, by omega, rfl, rfl, rfl, rfl, rfl, rfl, rfl, rfl, rfl, rfl, by rw [hacts]; exact hg.later hcl3, hcl.trans' hcl3, hdlo⟩
  rintro σ wl ⟨d0, e0, e1, e2, e7, e9, e10, e11, hg, hcl, hdlo⟩
  rw [pin_eq (σ := σ) (l := [(0, .slice a flds.length c), (1, .int .i64 ver), (2, .bool true), (7, .pointer (some ⟨gt, 0, none⟩)), (9, d0), (10, .slice none 0 0), (11, .int .i64 0)]) (all_pin e0 (all_pin e1 (all_pin e2 (all_pin e7 (all_pin e9 (all_pin e10 (all_pin e11 (fun _ h => by cases h))))))))]
  have hcwl : Ch (fun _ => False) w wl := hc1.trans' hcl
  have hkl : ∀ k, k < B → wl.heap[k]? = w.heap[k]? := fun k hk => hcwl.block k (by omega) fun h => h
  refine CWL.reg (ops := [(.unOp .not 4 (.tmp 4), 4)]) (b := [(47, 1), (46, 4)]) (by kernel_rfl) ?_
  refine OpK.not rfl ?_
  show CWL _ _ _ _ _ _
  refine CWL.condF rfl ?_
  simp only [flat, List.cons_append, List.nil_append, List.append_nil]
  try refine CWL.nil_ (P := Tryz.prog) (n := 0) ?_
  show CWL _ _ _ _ _ _
  have hKs : K < 100000 := by
    rw [← hKd]
    have : ∀ (l : List Fld) (n : Nat), (∀ f ∈ l, f.tag < 1000) → n < 100000 → l.foldl knStep n < 100000 := by
      intro l
      induction l with
      | nil => intro n _ h; exact h
      | cons x l ih =>
        intro n h hn
        refine ih _ (fun f hf => h f (by simp [hf])) ?_
        have hx := h x (by simp)
        unfold knStep
        split <;> omega
    exact this flds 0 htg (by omega)
  refine CWL.reg (ops := [(.call ⟨.value (.func 23), #[.tmp 0], #[30]⟩, 52), (.convert 52 3 (.tmp 1), 3), (.move (.const (Go.Value.int Go.IntKind.i64 0)), 3)]) (b := [(52, 5), (51, 3), (50, 1), (49, 0)]) (by kernel_rfl) ?_
  refine OpK.asCall rfl call23 rfl ((knownK wl B dd (by have := hcwl.size; omega) flds _ (hF.keep hkl) htg hfew).mono ?_)
  rintro en w2 ⟨x2, he2, rfl, hc2⟩
  rw [hKd] at he2
  refine ⟨_, he2, ?_⟩
  refine OpK.convInt (k' := .i64) (by kernel_rfl) (by kernel_rfl) rfl ?_
  rw [show IntKind.i64.wrap (K : Int) = (K : Int) by rw [IntKind.wrap_i64]; omega]
  refine OpK.move ?_
  show CWL _ _ _ _ _ _
  have hcw2 : Ch (fun _ => False) w w2 := hcwl.trans' hc2
  have hs2 := hcw2.size
  have hg2 := hg.later hc2
  have hbt2 := (hbt1.ch hcl).ch hc2
  have hknb : kn.length ≤ (kn.flatMap tagN).length := by
    have : ∀ l : List (Nat × List UInt8), l.length ≤ (l.flatMap tagN).length := by
      intro l
      induction l with
      | nil => simp
      | cons x l ih =>
        rw [List.flatMap_cons, List.length_append, List.length_cons]
        have := uvar_pos x.1
        have h2 : (tagN x).length = (uvar x.1).length + (uvar x.2.length).length + x.2.length := by unfold tagN; rw [List.length_append, List.length_append]
        omega
    exact this kn
  have hsub : ∀ j, j ≤ K → ∀ i, (((List.range j).flatMap (knJ ver flds t)).flatMap tagN).length ≤ (kn.flatMap tagN).length ∧ (j < K → (((List.range j).flatMap (knJ ver flds t) ++ (flds.zipIdx.take i).flatMap (knT ver t j)).flatMap tagN).length ≤ (kn.flatMap tagN).length ∧ ((List.range j).flatMap (knJ ver flds t) ++ (flds.zipIdx.take i).flatMap (knT ver t j)).length ≤ kn.length) := by
    intro j hj i
    have e1 : ∀ j, j ≤ K → ∃ r, kn = (List.range j).flatMap (knJ ver flds t) ++ r := by
      intro j hj
      obtain ⟨q, rfl⟩ : ∃ q, K = j + q := ⟨K - j, by omega⟩
      rw [← hknd]
      unfold knL
      rw [List.range_add, List.flatMap_append]
      exact ⟨_, rfl⟩
    obtain ⟨r1, h1⟩ := e1 j hj
    refine ⟨by rw [h1, List.flatMap_append, List.length_append]; omega, fun hlt => ?_⟩
    obtain ⟨r2, h2⟩ := e1 (j + 1) hlt
    rw [List.range_succ, List.flatMap_append] at h2
    simp only [List.flatMap_cons, List.flatMap_nil, List.append_nil] at h2
    have h3 : knJ ver flds t j = (flds.zipIdx.take i).flatMap (knT ver t j) ++ (flds.zipIdx.drop i).flatMap (knT ver t j) := by
      unfold knJ
      rw [← List.flatMap_append, List.take_append_drop]
    rw [h2, h3]
    simp only [List.flatMap_append, List.length_append]
    omega
  refine CWL.loopJ (fun mm σ w' => ∃ j dt, j + mm = K ∧ σ 0 = .slice a flds.length c ∧ σ 1 = .int .i64 ver ∧ σ 2 = .bool true ∧ σ 7 = .pointer (some ⟨gt, 0, none⟩) ∧ σ 9 = d0 ∧ σ 10 = dt ∧ σ 11 = .int .i64 (((List.range j).flatMap (knJ ver flds t)).length : Int) ∧ σ 51 = .int .i64 (K : Int) ∧ σ 52 = .int .i64 (j : Int) ∧ New w2 w' dt (((List.range j).flatMap (knJ ver flds t)).flatMap tagN))
    (fun σ w' => ∃ dt, σ 0 = .slice a flds.length c ∧ σ 7 = .pointer (some ⟨gt, 0, none⟩) ∧ σ 9 = d0 ∧ σ 10 = dt ∧ σ 11 = .int .i64 (kn.length : Int) ∧ New w2 w' dt (kn.flatMap tagN)) K
    ⟨0, .slice none 0 0, by omega, rfl, rfl, rfl, rfl, rfl, rfl, rfl, rfl, rfl, Grew.refl (Own.nil _ _)⟩ ?_ ?_
  · rintro mm σ w3 ⟨j, dt, hjm, e0, e1, e2, e7, e9, e10, e11, e51, e52, hgt⟩
    refine CW.pin [(0, .slice a flds.length c), (1, .int .i64 ver), (2, .bool true), (7, .pointer (some ⟨gt, 0, none⟩)), (9, d0), (10, dt), (11, .int .i64 (((List.range j).flatMap (knJ ver flds t)).length : Int)), (51, .int .i64 (K : Int)), (52, .int .i64 (j : Int))] (all_pinE e0 (all_pinE e1 (all_pinE e2 (all_pinE e7 (all_pinE e9 (all_pinE e10 (all_pinE e11 (all_pinE e51 (all_pinE e52 (fun _ h => by cases h)))))))))) fun σ => ?_
    simp only [flat, List.cons_append, List.nil_append, List.append_nil]
    refine CWL.reg (ops := [(.binOp .lss 3 (.tmp 104) (.tmp 102) 3, 4)]) (b := [(53, 1)]) (by kernel_rfl) ?_
    refine OpK.cmp rfl rfl rfl ?_
    show CWL _ _ _ _ _ _
    cases mm with
    | zero =>
      refine CWL.condF (congrArg Value.bool (decide_eq_false (by omega))) ?_
      simp only [flat, List.cons_append, List.nil_append, List.append_nil]
      refine CWL.cons (CW.exit ?_)
      obtain rfl : j = K := by omega
      rw [show (List.range j).flatMap (knJ ver flds t) = kn from hknd] at hgt ⊢
      exact ⟨dt, rfl, rfl, rfl, rfl, rfl, hgt⟩
    | succ mm =>
      refine CWL.condT (congrArg Value.bool (decide_eq_true (by omega))) ?_
      simp only [flat, List.cons_append, List.nil_append, List.append_nil]
      refine CWL.block ?_
      simp only [flat, List.cons_append, List.nil_append, List.append_nil]
      refine CWL.reg (ops := []) (b := [(14, 104), (54, 104)]) (by kernel_rfl) ?_
      show CWL _ _ _ _ _ _
      refine CWL.reg (ops := [(.call ⟨.builtin .len, #[.tmp 0], #[30]⟩, 3), (.move (.const (Go.Value.int Go.IntKind.i64 0)), 3)]) (b := [(57, 3), (56, 1), (55, 0)]) (by kernel_rfl) ?_
      refine OpK.len (e := 46) (by kernel_rfl) rfl ?_
      refine OpK.move ?_
      show CWL _ _ _ _ _ _
      have hj1 := i64_succ j (by omega)
      refine CWL.loopJ (fun mi σ w' => ∃ i dt, i + mi = flds.length ∧ σ 0 = .slice a flds.length c ∧ σ 1 = .int .i64 ver ∧ σ 2 = .bool true ∧ σ 7 = .pointer (some ⟨gt, 0, none⟩) ∧ σ 9 = d0 ∧ σ 10 = dt ∧ σ 11 = .int .i64 (((List.range j).flatMap (knJ ver flds t) ++ (flds.zipIdx.take i).flatMap (knT ver t j)).length : Int) ∧ σ 14 = .int .i64 (j : Int) ∧ σ 51 = .int .i64 (K : Int) ∧ σ 52 = .int .i64 (j : Int) ∧ σ 55 = .slice a flds.length c ∧ σ 56 = .int .i64 (flds.length : Int) ∧ σ 57 = .int .i64 (i : Int) ∧
          New w2 w' dt (((List.range j).flatMap (knJ ver flds t) ++ (flds.zipIdx.take i).flatMap (knT ver t j)).flatMap tagN))
        (fun σ w' => ∃ dt, σ 0 = .slice a flds.length c ∧ σ 1 = .int .i64 ver ∧ σ 2 = .bool true ∧ σ 7 = .pointer (some ⟨gt, 0, none⟩) ∧ σ 9 = d0 ∧ σ 10 = dt ∧ σ 11 = .int .i64 (((List.range (j + 1)).flatMap (knJ ver flds t)).length : Int) ∧ σ 51 = .int .i64 (K : Int) ∧ σ 52 = .int .i64 (j : Int) ∧ New w2 w' dt (((List.range (j + 1)).flatMap (knJ ver flds t)).flatMap tagN)) flds.length
        ⟨0, dt, by simp, rfl, rfl, rfl, rfl, rfl, rfl, by simp only [List.take_zero, List.flatMap_nil, List.append_nil]; rfl, rfl, rfl, rfl, rfl, rfl, rfl, by simpa using hgt⟩ ?_ ?_
      · rintro mi σ w4 ⟨i, dt, him, e0, e1, e2, e7, e9, e10, e11, e14, e51, e52, e55, e56, e57, hgt⟩
        refine CW.pin [(0, .slice a flds.length c), (1, .int .i64 ver), (2, .bool true), (7, .pointer (some ⟨gt, 0, none⟩)), (9, d0), (10, dt), (11, .int .i64 (((List.range j).flatMap (knJ ver flds t) ++ (flds.zipIdx.take i).flatMap (knT ver t j)).length : Int)), (14, .int .i64 (j : Int)), (51, .int .i64 (K : Int)), (52, .int .i64 (j : Int)), (55, .slice a flds.length c), (56, .int .i64 (flds.length : Int)), (57, .int .i64 (i : Int))] (all_pinE e0 (all_pinE e1 (all_pinE e2 (all_pinE e7 (all_pinE e9 (all_pinE e10 (all_pinE e11 (all_pinE e14 (all_pinE e51 (all_pinE e52 (all_pinE e55 (all_pinE e56 (all_pinE e57 (fun _ h => by cases h)))))))))))))) fun σ => ?_
        simp only [flat, List.cons_append, List.nil_append, List.append_nil]
        obtain ⟨_, hsj⟩ := hsub j (by omega) i
        obtain ⟨hsb, hsl⟩ := hsj (by omega)
        refine CWL.reg (ops := [(.binOp .lss 3 (.tmp 114) (.tmp 112) 3, 0)]) (b := [(58, 1)]) (by kernel_rfl) ?_
        refine OpK.cmp rfl rfl rfl ?_
        show CWL _ _ _ _ _ _
        cases mi with
        | zero =>
          refine CWL.condF (congrArg Value.bool (decide_eq_false (by omega))) ?_
          simp only [flat, List.cons_append, List.nil_append, List.append_nil]
          refine CWL.cons (CW.exit ?_)
          have hend : (List.range j).flatMap (knJ ver flds t) ++ (flds.zipIdx.take i).flatMap (knT ver t j) = (List.range (j + 1)).flatMap (knJ ver flds t) := by
            rw [List.take_of_length_le (by rw [List.length_zipIdx]; omega), List.range_succ, List.flatMap_append]
            simp only [List.flatMap_cons, List.flatMap_nil, List.append_nil]
            rfl
          rw [hend] at hgt ⊢
          exact ⟨dt, rfl, rfl, rfl, rfl, rfl, rfl, rfl, rfl, rfl, hgt⟩
        | succ mi =>
          refine CWL.condT (congrArg Value.bool (decide_eq_true (by omega))) ?_
          simp only [flat, List.cons_append, List.nil_append, List.append_nil]
          refine CWL.block ?_
          simp only [flat, List.cons_append, List.nil_append, List.append_nil]
          obtain ⟨f, hf⟩ : ∃ f, flds[i]? = some f := ⟨_, List.getElem?_eq_getElem (by omega)⟩
          obtain ⟨g, vsub, d', rfl, hgB, rfl, hat, hsub'⟩ := hform i f hf
          have hc24 := hgt.new_ch
          have hcw4 : Ch (fun _ => False) w w4 := hcw2.trans' hc24
          have hs4 := hc24.size
          have hat' : At w4 g (i * 8) (fldCells f vsub) := fun j x hx => (cell_keep (w := w) (w' := w4) (hcw4.block g (by omega) fun h => h)).trans (hat j x hx)
          have hi1 := i64_succ i (by omega)
          refine CWL.reg (ops := [(.indexAddr 30 (.tmp 110) (.tmp 114), 0), (.load 46 (.tmp 1), 46), (.alloc 46, 0), (.store 46 (.tmp 5) (.tmp 3), 0)]) (b := [(15, 114), (16, 5), (61, 3), (60, 1), (59, 114)]) (by kernel_rfl) ?_
          refine OpK.indexAddr (s := 8) (by kernel_rfl) rfl rfl (by omega) ?_
          refine OpK.loadA (n := 8) (by kernel_rfl) rfl (hat'.mid) rfl ?_
          refine OpK.allocZ zeroF (by kernel_rfl) fun w5 r hr hc5 hr1 hs5 => ?_
          refine OpK.storeG (cs := zeroF) (us := fldCells f vsub) (by kernel_rfl) rfl rfl (fldCells_one hsub'.one) hr rfl fun w6 hr6 hc6 hs6 => ?_
          show CWL _ _ _ _ _ _
          have hc46 : Ch (fun _ => False) w4 w6 := hc5.trans hc6 fun k hk e => by omega
          have hbt6 := (hbt2.ch hc24).ch hc46
          have hgt6 := hgt.later hc46
          have hcw6 : Ch (fun _ => False) w w6 := hcw4.trans' hc46
          have hk6 : ∀ w' : World, Ch (fun _ => False) w6 w' → ∀ k, k < B → w'.heap[k]? = w.heap[k]? := fun w' hw k hk => (hw.block k (by have := hcw6.size; omega) fun h => h).trans (hcw6.block k (by omega) fun h => h)
          have hzt := zip_take hf (knT ver t j)
          by_cases htj : f.tag = (j : Int)
          · have hk11 := hkd f (List.mem_of_getElem? hf) (by omega)
            by_cases hne : 0 < (t.at i).l.length
            · have hkt : knT ver t j (f, i) = [(j, gf (f, i))] := by rw [← hgd]; unfold knT; rw [if_pos ⟨htj, hne⟩]
              rw [hkt] at hzt
              have hnx := (hsub j (by omega) (i + 1)).2 (by omega)
              rw [hzt, ← List.append_assoc, List.flatMap_append, List.length_append, List.length_append] at hnx
              simp only [List.flatMap_cons, List.flatMap_nil, List.append_nil, List.length_cons, List.length_nil, tagN, List.length_append] at hnx
              have hgf : gf (f, i) = fldL (fun _ _ => []) f ver true (t.at i) := by rw [← hgd]
              refine CWL.regD0 mixed [(0, true), (1, true), (2, true), (3, true), (4, true), (5, true), (6, true), (7, true), (8, false), (9, false), (10, true), (11, true)] (by decide +kernel) ?_
              refine HW.early rfl rfl (Yi.fieldAddr (off := 4) (by kernel_rfl) rfl) ?_
              refine HW.early rfl rfl (Yi.load (by kernel_rfl) rfl (fun w' hw' => (hr6.ch hw').cell 4)) ?_
              refine HW.early rfl rfl (Yi.move) ?_
              refine HW.early rfl rfl (Yi.cmp (r := true) (by simp [cmpB]; exact htj) rfl rfl) ?_
              refine HW.early rfl rfl (Yi.move) ?_
              refine HW.early rfl rfl (Yi.loadA (n := 8) (by kernel_rfl) rfl (fun w' hw' => (hr6.ch hw').ata) rfl) ?_
              refine HW.early rfl rfl (Yi.loadA (n := 5) (by kernel_rfl) rfl (fun w' hw' => (hbt6.ch hw').ata) rfl) ?_
              refine HW.early rfl rfl (Yi.move) ?_
              refine HW.next rfl rfl ?_
              refine OpK.asCall rfl call22 rfl ((at_ _ B (by show B ≤ w6.heap.size; have := hcw6.size; omega) t _ (hT0.keep (hk6 _ (Ch.drew _ _))) i).mono ?_)
              rintro en w7 ⟨v7, he7, cs7, rfl, hT7, hc7⟩
              have hc67 : Ch (fun _ => False) w6 w7 := (Ch.drew _ _).trans' hc7
              refine ⟨_, he7, hc67, ?_⟩
              refine HW.next rfl rfl ?_
              refine OpK.asCall rfl call24 rfl ((usual w7 B f vsub hk11 (t.at i) cs7 hT7).mono ?_)
              rintro en w8 ⟨v8, he8, rfl, hc8⟩
              rw [show (((t.at i).l.length : Int) == 0) = false by simp; intro e; rw [e] at hne; simp at hne] at he8
              have hc68 : Ch (fun _ => False) w6 w8 := hc67.trans' hc8
              refine ⟨_, he8, hc68, ?_⟩
              refine HW.early rfl rfl (Yi.not rfl) ?_
              refine HW.early rfl rfl (Yi.pick rfl) ?_
              refine HW.done ?_
              refine CWL.condT rfl ?_
              simp only [flat, List.cons_append, List.nil_append, List.append_nil]
              have hr8 := hr6.ch hc68
              have hbt8 := hbt6.ch hc68
              have hgt8 := hgt6.later hc68
              have hcw8 : Ch (fun _ => False) w w8 := hcw6.trans' hc68
              have hk8 : ∀ w' : World, Ch (fun _ => False) w8 w' → ∀ k, k < B → w'.heap[k]? = w.heap[k]? := fun w' hw k hk => (hw.block k (by have := hcw8.size; omega) fun h => h).trans (hcw8.block k (by omega) fun h => h)
              refine CWL.regD0 mixed [(0, true), (1, true), (2, true), (3, true), (4, true), (5, false), (6, false), (7, true)] (by decide +kernel) ?_
              refine HW.early rfl rfl (Yi.loadA (n := 8) (by kernel_rfl) rfl (fun w' hw' => (hr8.ch hw').ata) rfl) ?_
              refine HW.early rfl rfl (Yi.move) ?_
              refine HW.early rfl rfl (Yi.move) ?_
              refine HW.early rfl rfl (Yi.loadA (n := 5) (by kernel_rfl) rfl (fun w' hw' => (hbt8.ch hw').ata) rfl) ?_
              refine HW.early rfl rfl (Yi.move) ?_
              refine HW.next rfl rfl ?_
              refine OpK.asCall rfl call22 rfl ((at_ _ B (by show B ≤ w8.heap.size; have := hcw8.size; omega) t _ (hT0.keep (hk8 _ (Ch.drew _ _))) i).mono ?_)
              rintro en w9 ⟨v9, he9, cs9, rfl, hT9, hc9⟩
              have hc89 : Ch (fun _ => False) w8 w9 := (Ch.drew _ _).trans' hc9
              refine ⟨_, he9, hc89, ?_⟩
              refine HW.next rfl rfl ?_
              refine OpK.asCall rfl call21 rfl ((field w9 B d' (by have := hcw8.size; have := hc89.size; omega) ver true (fun _ _ => []) f vsub (hsub'.keep (hk8 _ hc89)) (t.at i) cs9 hT9 (fun h => by rw [hpt f (List.mem_of_getElem? hf)] at h; cases h) (by rw [← hgf]; omega)).mono ?_)
              rintro en wa ⟨da, hea, hga⟩
              rw [← hgf] at hga
              refine ⟨_, hea, hc89.trans' hga.new_ch, ?_⟩
              refine HW.early rfl rfl (Yi.assign) ?_
              refine HW.done ?_
              have hc8a : Ch (fun _ => False) w8 wa := hc89.trans' hga.new_ch
              have hgta := hgt8.later hc8a
              obtain ⟨aa, ca, rfl, hna, hoa⟩ := hga.own.slice
              have hblen : (gf (f, i)).length < 4294967296 := by omega
              refine CWL.reg (ops := [(.convert 3 68 (.tmp 28), 68), (.call ⟨.value (.func 25), #[.tmp 1], #[68]⟩, 22), (.call ⟨.builtin .append, #[.tmp 20, .tmp 3], #[22, 22]⟩, 22), (.call ⟨.builtin .len, #[.tmp 34], #[22]⟩, 3), (.convert 3 68 (.tmp 7), 68), (.call ⟨.value (.func 25), #[.tmp 9], #[68]⟩, 22), (.call ⟨.builtin .append, #[.tmp 5, .tmp 11], #[22, 22]⟩, 22), (.call ⟨.builtin .append, #[.tmp 13, .tmp 34], #[22, 22]⟩, 22)]) (b := [(10, 15), (92, 15), (91, 34), (90, 13), (89, 11), (88, 9), (87, 7), (86, 34), (85, 5), (84, 3), (83, 1), (82, 28), (81, 20)]) (by kernel_rfl) ?_
              refine OpK.convInt (k' := .u64) (by kernel_rfl) (by kernel_rfl) rfl ?_
              rw [u64_nat (by omega)]
              refine OpK.asCall rfl call25 rfl ((uvarint wa j (by omega)).mono ?_)
              rintro en wb ⟨db, heb, hgb⟩
              refine ⟨_, heb, ?_⟩
              have hgtb := hgta.later hgb.new_ch
              obtain ⟨ab, cb, rfl, hnb, hob⟩ := hgb.own.slice
              obtain ⟨dc, wc, hrc, hgc⟩ := run_append_oct (P := Tryz.prog) (ty := 22) (t := 22) u8 und hgtb.own (a := ab) (l := uvar j) (c := cb) hnb (fun a' e => (hob a' e).1) (by omega)
              have hgtc := hgtb.more hgc
              refine OpK.run rfl hrc ?_
              refine OpK.len (e := 5) (by kernel_rfl) rfl ?_
              refine OpK.convInt (k' := .u64) (by kernel_rfl) (by kernel_rfl) rfl ?_
              rw [u64_nat (by omega)]
              refine OpK.asCall rfl call25 rfl ((uvarint wc (gf (f, i)).length (by omega)).mono ?_)
              rintro en wd ⟨dd', hed, hgd'⟩
              refine ⟨_, hed, ?_⟩
              have hgtd := hgtc.later hgd'.new_ch
              obtain ⟨ad, cd, rfl, hnd, hod⟩ := hgd'.own.slice
              obtain ⟨de, we, hre, hge⟩ := run_append_oct (P := Tryz.prog) (ty := 22) (t := 22) u8 und hgtd.own (a := ad) (l := uvar (gf (f, i)).length) (c := cd) hnd (fun a' e => (hod a' e).1) (by simp only [List.length_append]; omega)
              have hgte := hgtd.more hge
              have hdane : ∀ k, (Value.slice aa (gf (f, i)).length ca).ownBlock = some k → wa.heap[k]? = we.heap[k]? := fun k hk => by
                have hkl := hga.own.lt hk
                have hkn := hga.new_lo hk
                have hdl : ∀ {ww : World} {dd : Value} {bb : List UInt8}, New w2 ww dd bb → True := fun _ => trivial
                have h1 : wb.heap[k]? = wa.heap[k]? := hgb.new_ch.block k hkl fun h => h
                have h2 : wc.heap[k]? = wb.heap[k]? := hgc.ch.block k (by have := hgb.new_ch.size; omega) fun e => by have := hgt8.own.lt e; have := hc89.size; omega
                have h3 : wd.heap[k]? = wc.heap[k]? := hgd'.new_ch.block k (by have := hgb.new_ch.size; have := hgc.ch.size; omega) fun h => h
                have h4 : we.heap[k]? = wd.heap[k]? := hge.ch.block k (by have := hgb.new_ch.size; have := hgc.ch.size; have := hgd'.new_ch.size; omega) fun e => by
                  rcases hgc.blk k e with h5 | h5
                  · have := hgt8.own.lt h5; have := hc89.size; omega
                  · have := hgb.new_ch.size; omega
                exact (h4.trans (h3.trans (h2.trans h1))).symm
              have hdae : Own 5 we (.slice aa (gf (f, i)).length ca) (gf (f, i)) := hga.own.keep fun k hk => (hdane k hk).symm
              obtain ⟨ae, ce, hae, hne', hoe⟩ := hdae.slice
              obtain ⟨df, wf, hrf, hgf'⟩ := run_append_oct (P := Tryz.prog) (ty := 22) (t := 22) u8 und hgte.own (a := ae) (l := gf (f, i)) (c := ce) hne' (fun a' e => (hoe a' e).1) (by simp only [List.length_append]; omega)
              rw [← hae] at hrf
              have hgtf := hgte.more hgf'
              refine OpK.run rfl hre ?_
              refine OpK.run rfl hrf ?_
              show CWL _ _ _ _ _ _
              have hcnt : IntKind.i64.wrap ((((List.range j).flatMap (knJ ver flds t) ++ (flds.zipIdx.take i).flatMap (knT ver t j)).length : Int) + 1) = ((((List.range j).flatMap (knJ ver flds t) ++ (flds.zipIdx.take i).flatMap (knT ver t j)).length + 1 : Nat) : Int) := i64_succ _ (by omega)
              refine CWL.reg (ops := [(.binOp .add 3 (.tmp 22) (.const (Go.Value.int Go.IntKind.i64 1)) 3, 3)]) (b := [(11, 1), (94, 1), (93, 22)]) (by kernel_rfl) ?_
              refine OpK.arith (r := ((((List.range j).flatMap (knJ ver flds t) ++ (flds.zipIdx.take i).flatMap (knT ver t j)).length + 1 : Nat) : Int)) (by rw [← hcnt]; rfl) rfl rfl ?_
              show CWL _ _ _ _ _ _
              try refine CWL.nil_ (P := Tryz.prog) (n := 0) ?_
              show CWL _ _ _ _ _ _
              refine CWL.reg (ops := [(.binOp .add 3 (.tmp 114) (.const (Go.Value.int Go.IntKind.i64 1)) 3, 3)]) (b := [(57, 1), (95, 1)]) (by kernel_rfl) ?_
              refine OpK.arith (r := ((i + 1 : Nat) : Int)) (by rw [← hi1]; rfl) rfl rfl ?_
              show CWL _ _ _ _ _ _
              try refine CWL.nil_ (P := Tryz.prog) (n := 0) ?_
              refine ⟨mi, Nat.lt_succ_self mi, i + 1, df, by omega, rfl, rfl, rfl, rfl, rfl, rfl, ?_, rfl, rfl, rfl, rfl, rfl, rfl, ?_⟩
              · have he : ((List.range j).flatMap (knJ ver flds t) ++ (flds.zipIdx.take (i + 1)).flatMap (knT ver t j)).length = ((List.range j).flatMap (knJ ver flds t) ++ (flds.zipIdx.take i).flatMap (knT ver t j)).length + 1 := by
                  rw [hzt, ← List.append_assoc, List.length_append]
                  rfl
                rw [he]
                rfl
              · rw [hzt, ← List.append_assoc, List.flatMap_append]
                simp only [List.flatMap_cons, List.flatMap_nil, List.append_nil, tagN]
                simpa only [List.append_assoc] using hgtf
            · have hkt : knT ver t j (f, i) = [] := by unfold knT; rw [if_neg (fun h => hne h.2)]
              rw [hkt, List.append_nil] at hzt
              have hl0 : (t.at i).l.length = 0 := by omega
              refine CWL.regD0 mixed [(0, true), (1, true), (2, true), (3, true), (4, true), (5, true), (6, true), (7, true), (8, false), (9, false), (10, true), (11, true)] (by decide +kernel) ?_
              refine HW.early rfl rfl (Yi.fieldAddr (off := 4) (by kernel_rfl) rfl) ?_
              refine HW.early rfl rfl (Yi.load (by kernel_rfl) rfl (fun w' hw' => (hr6.ch hw').cell 4)) ?_
              refine HW.early rfl rfl (Yi.move) ?_
              refine HW.early rfl rfl (Yi.cmp (r := true) (by simp [cmpB]; exact htj) rfl rfl) ?_
              refine HW.early rfl rfl (Yi.move) ?_
              refine HW.early rfl rfl (Yi.loadA (n := 8) (by kernel_rfl) rfl (fun w' hw' => (hr6.ch hw').ata) rfl) ?_
              refine HW.early rfl rfl (Yi.loadA (n := 5) (by kernel_rfl) rfl (fun w' hw' => (hbt6.ch hw').ata) rfl) ?_
              refine HW.early rfl rfl (Yi.move) ?_
              refine HW.next rfl rfl ?_
              refine OpK.asCall rfl call22 rfl ((at_ _ B (by show B ≤ w6.heap.size; have := hcw6.size; omega) t _ (hT0.keep (hk6 _ (Ch.drew _ _))) i).mono ?_)
              rintro en w7 ⟨v7, he7, cs7, rfl, hT7, hc7⟩
              have hc67 : Ch (fun _ => False) w6 w7 := (Ch.drew _ _).trans' hc7
              refine ⟨_, he7, hc67, ?_⟩
              refine HW.next rfl rfl ?_
              refine OpK.asCall rfl call24 rfl ((usual w7 B f vsub hk11 (t.at i) cs7 hT7).mono ?_)
              rintro en w8 ⟨v8, he8, rfl, hc8⟩
              rw [hl0] at he8
              have hc68 : Ch (fun _ => False) w6 w8 := hc67.trans' hc8
              refine ⟨_, he8, hc68, ?_⟩
              refine HW.early rfl rfl (Yi.not rfl) ?_
              refine HW.early rfl rfl (Yi.pick rfl) ?_
              refine HW.done ?_
              refine CWL.condF rfl ?_
              simp only [flat, List.cons_append, List.nil_append, List.append_nil]
              try refine CWL.nil_ (P := Tryz.prog) (n := 0) ?_
              show CWL _ _ _ _ _ _
              refine CWL.reg (ops := [(.binOp .add 3 (.tmp 114) (.const (Go.Value.int Go.IntKind.i64 1)) 3, 3)]) (b := [(57, 1), (95, 1)]) (by kernel_rfl) ?_
              refine OpK.arith (r := ((i + 1 : Nat) : Int)) (by rw [← hi1]; rfl) rfl rfl ?_
              show CWL _ _ _ _ _ _
              try refine CWL.nil_ (P := Tryz.prog) (n := 0) ?_
              exact ⟨mi, Nat.lt_succ_self mi, i + 1, dt, by omega, rfl, rfl, rfl, rfl, rfl, rfl, by rw [hzt]; rfl, rfl, rfl, rfl, rfl, rfl, rfl, by rw [hzt]; exact hgt6.later hc68⟩
          · have hkt : knT ver t j (f, i) = [] := by unfold knT; rw [if_neg (fun h => htj h.1)]
            rw [hkt, List.append_nil] at hzt
            refine CWL.regT mixed (fun w' => Ch (fun _ => False) w6 w') (.early 0 (.early 1 (.early 2 (.early 3 (.early 4 (.early 5 (.early 6 (.early 7 (.one 8 (.one 9 (.early 10 (.early 11 .done)))))))))))) (by decide +kernel) (Ch.drew _ _) ?_
            refine HT.early_ rfl rfl (Yi.fieldAddr (off := 4) (by kernel_rfl) rfl) ?_
            refine HT.early_ rfl rfl (Yi.load (by kernel_rfl) rfl (fun w' hw' => (hr6.ch hw').cell 4)) ?_
            refine HT.early_ rfl rfl (Yi.move) ?_
            refine HT.early_ rfl rfl (Yi.cmp (r := false) (by simp [cmpB]; exact htj) rfl rfl) ?_
            refine HT.early_ rfl rfl (Yi.move) ?_
            refine HT.none_ rfl rfl ?_
            refine HT.none_ rfl rfl ?_
            refine HT.none_ rfl rfl ?_
            refine oneK.no rfl rfl (Ch.drew _ _) ?_
            refine oneK.no rfl rfl (Ch.drew _ _) ?_
            refine HT.none_ rfl rfl ?_
            refine HT.early_ rfl rfl (Yi.pick rfl) ?_
            refine CWL.condF rfl ?_
            simp only [flat, List.cons_append, List.nil_append, List.append_nil]
            try refine CWL.nil_ (P := Tryz.prog) (n := 0) ?_
            show CWL _ _ _ _ _ _
            refine CWL.reg (ops := [(.binOp .add 3 (.tmp 114) (.const (Go.Value.int Go.IntKind.i64 1)) 3, 3)]) (b := [(57, 1), (95, 1)]) (by kernel_rfl) ?_
            refine OpK.arith (r := ((i + 1 : Nat) : Int)) (by rw [← hi1]; rfl) rfl rfl ?_
            show CWL _ _ _ _ _ _
            try refine CWL.nil_ (P := Tryz.prog) (n := 0) ?_
            exact ⟨mi, Nat.lt_succ_self mi, i + 1, dt, by omega, rfl, rfl, rfl, rfl, rfl, rfl, by rw [hzt]; rfl, rfl, rfl, rfl, rfl, rfl, rfl, by rw [hzt]; exact (hgt6.later (Ch.drew _ _))⟩
      rintro σ w4 ⟨dt, e0, e1, e2, e7, e9, e10, e11, e51, e52, hgt⟩
      rw [pin_eq (σ := σ) (l := [(0, .slice a flds.length c), (1, .int .i64 ver), (2, .bool true), (7, .pointer (some ⟨gt, 0, none⟩)), (9, d0), (10, dt), (11, .int .i64 (((List.range (j + 1)).flatMap (knJ ver flds t)).length : Int)), (51, .int .i64 (K : Int)), (52, .int .i64 (j : Int))]) (all_pinE e0 (all_pinE e1 (all_pinE e2 (all_pinE e7 (all_pinE e9 (all_pinE e10 (all_pinE e11 (all_pinE e51 (all_pinE e52 (fun _ h => by cases h))))))))))]
      try refine CWL.nil_ (P := Tryz.prog) (n := 0) ?_
      show CWL _ _ _ _ _ _
      refine CWL.reg (ops := [(.binOp .add 3 (.tmp 104) (.const (Go.Value.int Go.IntKind.i64 1)) 3, 3)]) (b := [(52, 1), (96, 1)]) (by kernel_rfl) ?_
      refine OpK.arith (r := ((j + 1 : Nat) : Int)) (by rw [← hj1]; rfl) rfl rfl ?_
      show CWL _ _ _ _ _ _
      try refine CWL.nil_ (P := Tryz.prog) (n := 0) ?_
      exact ⟨mm, Nat.lt_succ_self mm, j + 1, dt, by omega, rfl, rfl, rfl, rfl, rfl, rfl, rfl, rfl, rfl, hgt⟩
  rintro σ w3 ⟨dk, e0, e7, e9, e10, e11, hgk⟩
  rw [pin_eq (σ := σ) (l := [(0, .slice a flds.length c), (7, .pointer (some ⟨gt, 0, none⟩)), (9, d0), (10, dk), (11, .int .i64 (kn.length : Int))]) (all_pinE e0 (all_pinE e7 (all_pinE e9 (all_pinE e10 (all_pinE e11 (fun _ h => by cases h))))))]
  have hcw3 : Ch (fun _ => False) w w3 := hcw2.trans' hgk.new_ch
  have hk3 : ∀ k, k < B → w3.heap[k]? = w.heap[k]? := fun k hk => hcw3.block k (by omega) fun h => h
  have hbt3 := hbt2.ch hgk.new_ch
  have hg3 := hg2.later hgk.new_ch
  have hs3 := hcw3.size
  refine CWL.reg (ops := [(.fieldAddr 26 (.tmp 14) 4, 0), (.load 24 (.tmp 1), 24), (.call ⟨.value (.func 26), #[.tmp 0, .tmp 3], #[30, 24]⟩, 24), (.call ⟨.builtin .len, #[.tmp 5], #[24]⟩, 3), (.move (.const (Go.Value.int Go.IntKind.i64 0)), 3)]) (b := [(102, 9), (101, 7), (100, 5), (99, 3), (98, 1), (97, 0)]) (by kernel_rfl) ?_
  refine OpK.fieldAddr (off := 4) (by kernel_rfl) rfl ?_
  refine OpK.load (by kernel_rfl) rfl (hbt3.cell 4) ?_
  refine OpK.asCall rfl call26 rfl ((unknownK w3 B dd (by omega) flds _ (hF.keep hk3) htg K hKd hfew u vu (hu.keep hk3)).mono ?_)
  rintro en w4 ⟨x4, he4, us, hown4, hall4, hc4, hlo4⟩
  refine ⟨_, he4, ?_⟩
  obtain ⟨a4, c4, rfl, hf4⟩ := hown4.form
  refine OpK.len (e := 54) (by kernel_rfl) rfl ?_
  refine OpK.move ?_
  show CWL _ _ _ _ _ _
  obtain ⟨_, hkeys', hfewU⟩ := unkK_props K u
  have hkeys : ∀ y ∈ unkK K u, y.1 < 4294967296 := fun y hy => (hkeys' y hy).2
  clear hkeys'
  have husl := hall4.size
  rw [htu] at hlim hlim0 ⊢
  generalize unkK K u = un at hall4 hkeys hfewU husl hlim hlim0 ⊢
  have hgk4 := hgk.later hc4
  have hg4 := hg3.later hc4
  refine CWL.loopJ (fun m σ w' => ∃ j dt, j + m = us.length ∧ σ 9 = d0 ∧ σ 10 = dt ∧ σ 11 = .int .i64 ((kn.length + j : Nat) : Int) ∧ σ 100 = .slice a4 us.length c4 ∧ σ 101 = .int .i64 (us.length : Int) ∧ σ 102 = .int .i64 (j : Int) ∧ Grew 5 w4 dk w' dt (kn.flatMap tagN ++ (un.take j).flatMap tagL))
    (fun σ w' => ∃ dt, σ 9 = d0 ∧ σ 10 = dt ∧ σ 11 = .int .i64 ((kn.length + us.length : Nat) : Int) ∧ Grew 5 w4 dk w' dt (kn.flatMap tagN ++ un.flatMap tagL)) us.length
    ⟨0, dk, by simp, rfl, rfl, rfl, rfl, rfl, rfl, by simpa using Grew.refl hgk4.own⟩ ?_ ?_
  · rintro m σ w5 ⟨j, dt, hjm, e9, e10, e11, e100, e101, e102, hgt⟩
    refine CW.pin [(9, d0), (10, dt), (11, .int .i64 ((kn.length + j : Nat) : Int)), (100, .slice a4 us.length c4), (101, .int .i64 (us.length : Int)), (102, .int .i64 (j : Int))] (all_pin e9 (all_pin e10 (all_pin e11 (all_pin e100 (all_pin e101 (all_pin e102 (fun _ h => by cases h))))))) fun σ => ?_
    simp only [flat, List.cons_append, List.nil_append, List.append_nil]
    refine CWL.reg (ops := [(.binOp .lss 3 (.tmp 204) (.tmp 202) 3, 0)]) (b := [(103, 1)]) (by kernel_rfl) ?_
    refine OpK.cmp rfl rfl rfl ?_
    show CWL _ _ _ _ _ _
    cases m with
    | zero =>
      refine CWL.condF (congrArg Value.bool (decide_eq_false (by omega))) ?_
      simp only [flat, List.cons_append, List.nil_append, List.append_nil]
      refine CWL.cons (CW.exit ?_)
      rw [List.take_of_length_le (by omega)] at hgt
      obtain rfl : j = us.length := by omega
      exact ⟨dt, rfl, rfl, rfl, hgt⟩
    | succ m =>
      refine CWL.condT (congrArg Value.bool (decide_eq_true (by omega))) ?_
      simp only [flat, List.cons_append, List.nil_append, List.append_nil]
      refine CWL.block ?_
      simp only [flat, List.cons_append, List.nil_append, List.append_nil]
      obtain ⟨y, hy⟩ : ∃ y, us[j]? = some y := ⟨_, List.getElem?_eq_getElem (by omega)⟩
      obtain ⟨z, hz, hyz⟩ := hall4.at1 hy
      obtain ⟨g4, rfl, hg4l, hob, hat4⟩ := hf4 j y hy
      have hc45 := hgt.ch
      have hdk4 : ∀ k, dk.ownBlock = some k → k < w3.heap.size := fun k hk => hgk.own.lt hk
      have hat5 : AtA w5 _ _ := fun jj xx hx => (World.cell?_of_block (by rw [add_block, add_block]; exact hc45.block g4 hg4l fun e => by have := hdk4 _ e; have := hlo4 _ hob; omega)).trans (hat4 jj xx hx)
      refine CWL.reg (ops := [(.indexAddr 24 (.tmp 200) (.tmp 204), 0), (.load 54 (.tmp 1), 54), (.alloc 54, 0), (.store 54 (.tmp 5) (.tmp 3), 0)]) (b := [(19, 5), (105, 3), (104, 1)]) (by kernel_rfl) ?_
      refine OpK.indexAddr (s := 2) (by kernel_rfl) rfl rfl (by omega) ?_
      refine OpK.loadA (n := 2) (by kernel_rfl) rfl (hat5) rfl ?_
      refine OpK.allocZ zeroG (by kernel_rfl) fun w6 r hr hc6 hr1 hs6 => ?_
      refine OpK.storeG (cs := zeroG) (us := [.int .u32 (y.1 : Int), y.2]) (by kernel_rfl) rfl rfl (by intro q hq; simp only [List.mem_cons, List.not_mem_nil, or_false] at hq; rcases hq with rfl | rfl; rfl; exact hyz.2.form) hr rfl fun w7 hr7 hc7 hs7 => ?_
      show CWL _ _ _ _ _ _
      have hc57 : Ch (fun _ => False) w5 w7 := hc6.trans hc7 fun k hk e => by omega
      have hsl7 : SlIs w7 B z.2 y.2 := hyz.2.keep fun k hk => (hc57.block k (by have := hc4.size; have := hc45.size; omega) fun h => h).trans (hc45.block k (by have := hc4.size; omega) fun e => by have := hgk.new_lo e; omega)
      refine CWL.reg (ops := [(.fieldAddr 54 (.tmp 38) 1, 0), (.load 22 (.tmp 1), 22), (.call ⟨.value (.func 27), #[.tmp 3], #[22]⟩, 22)]) (b := [(20, 5), (108, 5), (107, 3), (106, 1)]) (by kernel_rfl) ?_
      refine OpK.fieldAddr (off := 1) (by kernel_rfl) rfl ?_
      refine OpK.load (by kernel_rfl) rfl (hr7.cell 1) ?_
      refine OpK.asCall rfl call27 rfl ((whole w7 B z.2 y.2 hsl7).mono ?_)
      rintro en w8 ⟨v8, he8, hv8, rfl⟩
      refine ⟨_, he8, ?_⟩
      obtain ⟨a8, c8, rfl, hw3, hw4, hw5, hw6⟩ := hv8
      show CWL _ _ _ _ _ _
      have hwl := wholeL_len z.2
      have hkz := hkeys z (List.mem_of_getElem? hz)
      have hle : ((un.take (j + 1)).flatMap tagL).length ≤ (un.flatMap tagL).length := flat_take_le un (j + 1) _
      rw [flat_take _ hz, List.length_append] at hle
      simp only [tagL, List.length_append] at hle
      have hgt8 := hgt.laterG hc57
      have ey : (y.1 : Int) = (z.1 : Int) := by rw [hyz.1]
      have hj1 := i64_succ j (by omega)
      have hjk : IntKind.i64.wrap (((kn.length + j : Nat) : Int) + 1) = ((kn.length + (j + 1) : Nat) : Int) := i64_succ (kn.length + j) (by omega)
      refine CWL.reg (ops := [(.fieldAddr 54 (.tmp 38) 0, 0), (.load 52 (.tmp 1), 52), (.convert 52 68 (.tmp 3), 68), (.call ⟨.value (.func 25), #[.tmp 5], #[68]⟩, 22), (.call ⟨.builtin .append, #[.tmp 20, .tmp 7], #[22, 22]⟩, 22), (.call ⟨.builtin .len, #[.tmp 40], #[22]⟩, 3), (.convert 3 68 (.tmp 11), 68), (.call ⟨.value (.func 25), #[.tmp 13], #[68]⟩, 22), (.call ⟨.builtin .append, #[.tmp 9, .tmp 15], #[22, 22]⟩, 22), (.call ⟨.builtin .append, #[.tmp 17, .tmp 40], #[22, 22]⟩, 22)]) (b := [(10, 19), (121, 19), (120, 40), (119, 17), (118, 15), (117, 13), (116, 11), (115, 40), (114, 9), (113, 7), (112, 5), (111, 3), (110, 1), (109, 20)]) (by kernel_rfl) ?_
      refine OpK.fieldAddr (off := 0) (by kernel_rfl) rfl ?_
      refine OpK.load (by kernel_rfl) rfl (hr7.cell 0) ?_
      refine OpK.convInt (k' := .u64) (by kernel_rfl) (by kernel_rfl) rfl ?_
      rw [ey, u64_nat (by omega)]
      refine OpK.asCall rfl call25 rfl ((uvarint w8 z.1 (by omega)).mono ?_)
      rintro en w9 ⟨d9, he9, hg9⟩
      refine ⟨_, he9, ?_⟩
      have hgt9 := hgt8.laterG hg9.new_ch
      obtain ⟨a9, c9, rfl, hn9, ho9⟩ := hg9.own.slice
      obtain ⟨da, wa, hra, hga⟩ := run_append_oct (P := Tryz.prog) (ty := 22) (t := 22) u8 und hgt9.own (a := a9) (l := uvar z.1) (c := c9) hn9 (fun a' e => (ho9 a' e).1) (by simp only [List.length_append]; omega)
      have hgta := hgt9.trans hga
      refine OpK.run rfl hra ?_
      refine OpK.len (e := 5) (by kernel_rfl) rfl ?_
      refine OpK.convInt (k' := .u64) (by kernel_rfl) (by kernel_rfl) rfl ?_
      rw [u64_nat (by omega)]
      refine OpK.asCall rfl call25 rfl ((uvarint wa (wholeL z.2).length (by omega)).mono ?_)
      rintro en wb ⟨db, heb, hgb⟩
      refine ⟨_, heb, ?_⟩
      have hgtb := hgta.laterG hgb.new_ch
      obtain ⟨ab, cb, rfl, hnb, hob⟩ := hgb.own.slice
      obtain ⟨dc, wc, hrc, hgc⟩ := run_append_oct (P := Tryz.prog) (ty := 22) (t := 22) u8 und hgtb.own (a := ab) (l := uvar (wholeL z.2).length) (c := cb) hnb (fun a' e => (hob a' e).1) (by simp only [List.length_append]; omega)
      have hgtc := hgtb.trans hgc
      obtain ⟨de, we, hre, hge⟩ := run_append_oct (P := Tryz.prog) (ty := 22) (t := 22) u8 und hgtc.own (a := a8) (l := wholeL z.2) (c := c8) hw5 (fun a' e => (hw6 a' e).1.keepB (hw6 a' e).2 fun k hk => by
        have h1 := hgtc.ch
        have h3 : k < w4.heap.size := by have := hc4.size; omega
        have hdn : ¬ dk.ownBlock = some k := fun e => by have := hgk.new_lo e; omega
        exact (h1.block k h3 hdn).trans (((hc57.block k (by have := hc45.size; omega) fun h => h).trans (hc45.block k h3 hdn)).symm)) (by simp only [List.length_append]; omega)
      have hgte := hgtc.trans hge
      refine OpK.run rfl hrc ?_
      refine OpK.run rfl hre ?_
      show CWL _ _ _ _ _ _
      refine CWL.reg (ops := [(.binOp .add 3 (.tmp 22) (.const (Go.Value.int Go.IntKind.i64 1)) 3, 3)]) (b := [(11, 1), (123, 1), (122, 22)]) (by kernel_rfl) ?_
      refine OpK.arith (r := ((kn.length + (j + 1) : Nat) : Int)) (by rw [← hjk]; rfl) rfl rfl ?_
      show CWL _ _ _ _ _ _
      try refine CWL.nil_ (P := Tryz.prog) (n := 0) ?_
      show CWL _ _ _ _ _ _
      refine CWL.reg (ops := [(.binOp .add 3 (.tmp 204) (.const (Go.Value.int Go.IntKind.i64 1)) 3, 3)]) (b := [(102, 1), (124, 1)]) (by kernel_rfl) ?_
      refine OpK.arith (r := ((j + 1 : Nat) : Int)) (by rw [← hj1]; rfl) rfl rfl ?_
      show CWL _ _ _ _ _ _
      try refine CWL.nil_ (P := Tryz.prog) (n := 0) ?_
      refine ⟨m, Nat.lt_succ_self m, j + 1, de, by omega, rfl, rfl, rfl, rfl, rfl, rfl, ?_⟩
      rw [flat_take _ hz]
      simpa only [tagL, List.append_assoc] using hgte
  rintro σ w5 ⟨dt, e9, e10, e11, hgt⟩
  rw [pin_eq (σ := σ) (l := [(9, d0), (10, dt), (11, .int .i64 ((kn.length + us.length : Nat) : Int))]) (all_pin e9 (all_pin e10 (all_pin e11 (fun _ h => by cases h))))]
  have hdk0 : ∀ k, dk.ownBlock = some k → ¬ d0.ownBlock = some k := fun k h1 h2 => by have := hgk.new_lo h1; have := hg2.own.lt h2; omega
  have hg5 : New w w5 d0 ((acts ver flds).flatMap gf) := ⟨hg4.own.keep fun k hk => hgt.ch.block k (hg4.own.lt hk) fun e => hdk0 k e hk, hg4.ch.trans hgt.ch fun k hk e => by have := hgk.new_lo e; omega, hg4.blk⟩
  have hdtlo : ∀ k, dt.ownBlock = some k → w2.heap.size ≤ k := fun k hk => by
    rcases hgt.blk k hk with h | h
    · exact hgk.new_lo h
    · have := hgk.new_ch.size; have := hc4.size; omega
  refine CWL.reg (ops := [(.convert 3 68 (.tmp 22), 68), (.call ⟨.value (.func 25), #[.tmp 1], #[68]⟩, 22), (.call ⟨.builtin .append, #[.tmp 18, .tmp 3], #[22, 22]⟩, 22), (.call ⟨.builtin .append, #[.tmp 5, .tmp 20], #[22, 22]⟩, 22)]) (b := [(8, 7), (131, 7), (130, 20), (129, 5), (128, 3), (127, 1), (126, 22), (125, 18)]) (by kernel_rfl) ?_
  refine OpK.convInt (k' := .u64) (by kernel_rfl) (by kernel_rfl) rfl ?_
  rw [u64_nat (by omega)]
  refine OpK.asCall rfl call25 rfl ((uvarint w5 (kn.length + us.length) (by omega)).mono ?_)
  rintro en w6 ⟨d6, he6, hg6⟩
  refine ⟨_, he6, ?_⟩
  rw [husl] at hg6
  have hg56 := hg5.later hg6.new_ch
  obtain ⟨a6, c6, rfl, hn6, ho6⟩ := hg6.own.slice
  obtain ⟨d7, w7, hr7, hg7⟩ := run_append_oct (P := Tryz.prog) (ty := 22) (t := 22) u8 und hg56.own (a := a6) (l := uvar (kn.length + un.length)) (c := c6) hn6 (fun a' e => (ho6 a' e).1) (by omega)
  have hgt6 := hgt.laterG hg6.new_ch
  have hdtne : ∀ k, dt.ownBlock = some k → ¬ d0.ownBlock = some k := fun k h1 h2 => by have := hdtlo k h1; have := hg2.own.lt h2; omega
  have hdt7 : Own 5 w7 dt (kn.flatMap tagN ++ un.flatMap tagL) := hgt6.own.keep fun k hk => hg7.ch.block k (hgt6.own.lt hk) (hdtne k hk)
  obtain ⟨at_, ct, hdte, hnt, hot⟩ := hdt7.slice
  obtain ⟨d8, w8, hr8, hg8⟩ := run_append_oct (P := Tryz.prog) (ty := 22) (t := 22) u8 und hg7.own (a := at_) (l := kn.flatMap tagN ++ un.flatMap tagL) (c := ct) hnt (fun a' e => (hot a' e).1) (by simp only [List.length_append]; omega)
  rw [← hdte] at hr8
  refine OpK.run rfl hr7 ?_
  refine OpK.run rfl hr8 ?_
  show CWL _ _ _ _ _ _
  refine CWL.ret ?_
  refine ⟨_, rfl, ?_⟩
  rw [← List.append_assoc]
  exact (hg56.more hg7).more hg8

end Go.Proofs.YtkgelojkhmjhkaaGreatDoor.Sp
