/- What the reference's functions write of parts and messages. -/
import Derived.Test.YthcpchmmpnakaaaGreatDoorKxSpecX
namespace Go.Proofs.YthcpchmmpnakaaaGreatDoor.Sp
open Go.Kx Go.RowKit Go.Proofs
set_option maxRecDepth 100000
set_option linter.unusedSimpArgs false
set_option linter.unusedVariables false

set_option maxHeartbeats 16000000 in
theorem part_step (ver : Int) (fx : Bool) (d : Nat) (ih : ∀ sub, plainB d sub = true → PartAt ver fx (partF ver fx d) sub) (flds : List Fld) (hpl : plainB (d + 1) flds = true) : PartAt ver fx (partF ver fx (d + 1)) flds := by
  intro w B dd v t cs hB hF hT hlim
  have hpl' : ∀ f ∈ flds, f.tag < 0 ∧ (f.parts = true → plainB d f.sub = true) := by
    simp only [plainB, List.all_eq_true, Bool.and_eq_true, decide_eq_true_eq, Bool.or_eq_true, Bool.not_eq_true'] at hpl
    exact fun f hf => ⟨(hpl f hf).1, fun h => by rcases (hpl f hf).2 with h' | h'; (rw [h] at h'; cases h'); exact h'⟩
  have hfew := hF.few
  have hT0 := hT
  cases hT with
  | @mk n s tn l u vs vl vu cells hn hs hl hc hu =>
  generalize htd : Tr.mk n s tn l u = t at hT0 hlim ⊢
  have htu : t.u = u := by rw [← htd]; rfl
  obtain ⟨a, c, hv, hform⟩ := hF.form
  subst hv
  have htot : partF ver fx (d + 1) flds t = (acts ver flds).flatMap (fun x => fldL (partF ver fx d) x.1 ver fx (t.at x.2)) ++ if fx then tagsL t else [] := rfl
  rw [htot] at hlim ⊢
  generalize hgd : (fun x : Fld × Nat => fldL (partF ver fx d) x.1 ver fx (t.at x.2)) = gf at hlim ⊢
  rw [List.length_append] at hlim
  refine Calls.of_CW Tryz.func14 rfl (by decide +kernel) (Nat.le_of_ble_eq_true (by kernel_rfl)) (CW.of_flat ?_)
  simp only [flat, List.cons_append, List.nil_append, List.append_nil]
  refine CWL.reg (ops := [(.box 26 (.tmp 6), 0), (.assign (.const (Go.Value.slice none 0 0)), 22)]) (b := [(8, 3), (7, 1)]) (by kernel_rfl) ?_
  refine OpK.boxG (cs := [.int .i64 n, vs, .bool tn, vl, vu]) rfl fun w1 gt hbt1 hc1 hg1 hs1 => ?_
  refine OpK.assign ?_
  show CWL _ _ _ _ _ _
  refine CWL.reg (ops := [(.assign (.const (Go.Value.slice none 0 0)), 22), (.assign (.const (Go.Value.slice none 0 0)), 22)]) (b := [(10, 3), (9, 1)]) (by kernel_rfl) ?_
  refine OpK.assign ?_
  refine OpK.assign ?_
  show CWL _ _ _ _ _ _
  refine CWL.reg (ops := [(.assign (.const (Go.Value.int Go.IntKind.i64 0)), 3)]) (b := [(11, 1)]) (by kernel_rfl) ?_
  refine OpK.assign ?_
  show CWL _ _ _ _ _ _
  refine CWL.reg (ops := [(.call ⟨.builtin .len, #[.tmp 0], #[30]⟩, 3), (.move (.const (Go.Value.int Go.IntKind.i64 0)), 3)]) (b := [(23, 3), (22, 1), (21, 0)]) (by kernel_rfl) ?_
  refine OpK.len (e := 46) (by kernel_rfl) rfl ?_
  refine OpK.move ?_
  show CWL _ _ _ _ _ _
  refine CWL.loopJ (fun m σ wl => ∃ i d, i + m = flds.length ∧ σ 0 = .slice a flds.length c ∧ σ 1 = .int .i64 ver ∧ σ 2 = .bool fx ∧ σ 7 = .pointer (some ⟨gt, 0, none⟩) ∧ σ 9 = d ∧ σ 10 = .slice none 0 0 ∧ σ 11 = .int .i64 0 ∧ σ 21 = .slice a flds.length c ∧ σ 22 = .int .i64 (flds.length : Int) ∧ σ 23 = .int .i64 (i : Int) ∧
      New w wl d ((acts ver (flds.take i)).flatMap gf) ∧ Ch (fun _ => False) w1 wl ∧ ∀ k, d.ownBlock = some k → w1.heap.size ≤ k)
    (fun σ wl => ∃ d, σ 0 = .slice a flds.length c ∧ σ 1 = .int .i64 ver ∧ σ 2 = .bool fx ∧ σ 7 = .pointer (some ⟨gt, 0, none⟩) ∧ σ 9 = d ∧ σ 10 = .slice none 0 0 ∧ σ 11 = .int .i64 0 ∧
      New w wl d ((acts ver flds).flatMap gf) ∧ Ch (fun _ => False) w1 wl ∧ ∀ k, d.ownBlock = some k → w1.heap.size ≤ k) flds.length
    ⟨0, .slice none 0 0, by simp, rfl, rfl, rfl, rfl, rfl, rfl, rfl, rfl, rfl, rfl, (Grew.refl (Own.nil _ _)).later hc1, Ch.refl _ _, fun k hk => by cases hk⟩ ?_ ?_
  · rintro m σ wl ⟨i, d0, him, e0, e1, e2, e7, e9, e10, e11, e21, e22, e23, hg, hcl, hdlo⟩
    refine CW.pin [(0, .slice a flds.length c), (1, .int .i64 ver), (2, .bool fx), (7, .pointer (some ⟨gt, 0, none⟩)), (9, d0), (10, .slice none 0 0), (11, .int .i64 0), (21, .slice a flds.length c), (22, .int .i64 (flds.length : Int)), (23, .int .i64 (i : Int))]
      (all_pin e0 (all_pin e1 (all_pin e2 (all_pin e7 (all_pin e9 (all_pin e10 (all_pin e11 (all_pin e21 (all_pin e22 (all_pin e23 (fun _ h => by cases h))))))))))) fun σ => ?_
    simp only [flat, List.cons_append, List.nil_append, List.append_nil]
    refine CWL.reg (ops := [(.binOp .lss 3 (.tmp 46) (.tmp 44) 3, 0)]) (b := [(24, 1)]) (by kernel_rfl) ?_
    refine OpK.cmp rfl rfl rfl ?_
    show CWL _ _ _ _ _ _
    cases m with
    | zero =>
      refine CWL.condF (congrArg Value.bool (decide_eq_false (by omega))) ?_
      simp only [flat, List.cons_append, List.nil_append, List.append_nil]
      refine CWL.cons (CW.exit ?_)
      rw [List.take_of_length_le (by omega)] at hg
      exact ⟨d0, rfl, rfl, rfl, rfl, rfl, rfl, rfl, hg, hcl, hdlo⟩
    | succ m =>
      refine CWL.condT (congrArg Value.bool (decide_eq_true (by omega))) ?_
      simp only [flat, List.cons_append, List.nil_append, List.append_nil]
      refine CWL.block ?_
      simp only [flat, List.cons_append, List.nil_append, List.append_nil]
      obtain ⟨f, hf⟩ : ∃ f, flds[i]? = some f := ⟨_, List.getElem?_eq_getElem (by omega)⟩
      obtain ⟨g, vsub, d', rfl, hgB, rfl, hat, hsub⟩ := hform i f hf
      obtain ⟨htag, hparts⟩ := hpl' f (List.mem_of_getElem? hf)
      have hcwl : Ch (fun _ => False) w wl := hc1.trans' hcl
      have hat' : At wl g (i * 8) (fldCells f vsub) := fun j x hx => (cell_keep (w := w) (w' := wl) (hcwl.block g (by omega) fun h => h)).trans (hat j x hx)
      refine CWL.reg (ops := [(.indexAddr 30 (.tmp 42) (.tmp 46), 0), (.load 46 (.tmp 1), 46), (.alloc 46, 0), (.store 46 (.tmp 5) (.tmp 3), 0)]) (b := [(12, 46), (13, 5), (27, 3), (26, 1), (25, 46)]) (by kernel_rfl) ?_
      refine OpK.indexAddr (s := 8) (by kernel_rfl) rfl rfl (by omega) ?_
      refine OpK.loadA (n := 8) (by kernel_rfl) rfl (hat'.mid) rfl ?_
      refine OpK.allocZ zeroF (by kernel_rfl) fun w2 r hr hc2 hr1 hs2 => ?_
      refine OpK.storeG (cs := zeroF) (us := fldCells f vsub) (by kernel_rfl) rfl rfl (fldCells_one hsub.one) hr rfl fun w3 hr3 hc3 hs3 => ?_
      show CWL _ _ _ _ _ _
      have hcl3 : Ch (fun _ => False) wl w3 := hc2.trans hc3 fun k hk e => by omega
      refine CWL.cons (CW.region ?_)
      refine RW.want rfl ?_
      refine OpK.fieldAddr (off := 4) (by kernel_rfl) rfl ?_
      refine RW.want rfl ?_
      refine OpK.load (by kernel_rfl) rfl (hr3.cell 4) ?_
      refine RW.want rfl ?_
      refine OpK.cmp (r := true) (by rw [← decide_eq_true htag]; rfl) rfl rfl ?_
      refine RW.want rfl ?_
      refine OpK.move ?_
      refine RW.want rfl ?_
      refine OpK.loadA (n := 8) (by kernel_rfl) rfl hr3.ata rfl ?_
      refine RW.want rfl ?_
      refine OpK.move ?_
      refine RW.want rfl ?_
      refine OpK.asCall rfl call21 rfl ((has w3 f vsub ver).mono ?_)
      rintro en w4 ⟨v4, he4, rfl, hc4⟩
      refine ⟨_, he4, ?_⟩
      refine RW.want rfl ?_
      refine OpK.pick rfl ?_
      refine RW.z ?_
      show CWL _ _ _ _ _ _
      have hcl4 : Ch (fun _ => False) wl w4 := hcl3.trans' hc4
      have hr4 := hr3.ch hc4
      have hacts := acts_take (ver := ver) hf
      rw [decide_eq_true htag, Bool.true_and] at hacts
      have hi1 := i64_succ i (by omega)
      by_cases hh : hasL f ver = true
      · refine CWL.condT (congrArg Value.bool hh) ?_
        simp only [flat, List.cons_append, List.nil_append, List.append_nil]
        rw [if_pos hh] at hacts
        have hle := acts_take_le ver flds (i + 1) gf
        rw [hacts, List.flatMap_append, List.length_append] at hle
        simp only [List.flatMap_cons, List.flatMap_nil, List.append_nil] at hle
        have hgf : gf (f, i) = fldL (partF ver fx d) f ver fx (t.at i) := by rw [← hgd]
        have hbl := (hbt1.ch hcl).ch hcl4
        have hcw4 : Ch (fun _ => False) w w4 := hcwl.trans' hcl4
        have hk4 : ∀ w' : World, Ch (fun _ => False) w4 w' → ∀ k, k < B → w'.heap[k]? = w.heap[k]? := fun w' hw k hk => (hw.block k (by have := hcw4.size; omega) fun h => h).trans (hcw4.block k (by omega) fun h => h)
        have hg4 := hg.later hcl4
        refine CWL.regD mixed (fun w' => Ch (fun k => d0.ownBlock = some k) w4 w') [(0, true), (1, true), (2, true), (3, true), (4, true), (5, true), (6, false), (7, false), (8, false), (9, true)] (by decide +kernel) (Ch.drew _ _) ?_
        refine HW.early rfl rfl (Yi.move) ?_
        refine HW.early rfl rfl (Yi.loadA (n := 8) (by kernel_rfl) rfl (fun w' hw' => (hr4.chS hw' (fun e => by have := hg.own.lt e; have := hc2.size; omega)).ata) rfl) ?_
        refine HW.early rfl rfl (Yi.move) ?_
        refine HW.early rfl rfl (Yi.move) ?_
        refine HW.early rfl rfl (Yi.loadA (n := 5) (by kernel_rfl) rfl (fun w' hw' => (hbl.chS hw' (fun e => by have := hdlo gt e; have := hbt1.lt; omega)).ata) rfl) ?_
        refine HW.early rfl rfl (Yi.move) ?_
        refine HW.next rfl rfl ?_
        refine OpK.asCall rfl call23 rfl ((at_ _ B (by show B ≤ w4.heap.size; have := hcw4.size; omega) t _ (hT0.keep (hk4 _ (Ch.drew _ _))) i).mono ?_)
        rintro en w5 ⟨v5, he5, cs5, rfl, hT5, hc5⟩
        have hc45 : Ch (fun _ => False) w4 w5 := (Ch.drew _ _).trans' hc5
        refine ⟨_, he5, hc45.mono fun _ _ h => h.elim, ?_⟩
        refine HW.next rfl rfl ?_
        refine OpK.asCall rfl call22 rfl ((field w5 B d' (by have := hcw4.size; have := hc45.size; omega) ver fx (partF ver fx d) f vsub (hsub.keep (hk4 _ hc45)) (t.at i) cs5 hT5 (fun h => ih _ (hparts h)) (by rw [← hgf]; omega)).mono ?_)
        rintro en w6 ⟨d6, he6, hg6⟩
        rw [← hgf] at hg6
        have hc46 : Ch (fun _ => False) w4 w6 := hc45.trans' hg6.new_ch
        refine ⟨_, he6, hc46.mono fun _ _ h => h.elim, ?_⟩
        have hgd6 := hg4.later hc46
        obtain ⟨a6, c6, rfl, hn6, ho6⟩ := hg6.own.slice
        obtain ⟨d8, w8, hr8, hg8⟩ := run_append_oct (P := Tryz.prog) (ty := 22) (t := 22) u8 und hgd6.own (a := a6) (l := gf (f, i)) (c := c6) hn6 (fun a' e => (ho6 a' e).1) (by omega)
        refine HW.next rfl rfl ?_
        refine OpK.run rfl hr8 ?_
        refine ⟨(hc46.mono fun _ _ h => h.elim).trans hg8.ch fun k hk e => e, ?_⟩
        refine HW.early rfl rfl (Yi.assign) ?_
        refine HW.done ?_
        show CWL _ _ _ _ _ _
        try refine CWL.nil_ (P := Tryz.prog) (n := 0) ?_
        show CWL _ _ _ _ _ _
        refine CWL.reg (ops := [(.binOp .add 3 (.tmp 46) (.const (Go.Value.int Go.IntKind.i64 1)) 3, 3)]) (b := [(23, 1), (45, 1)]) (by kernel_rfl) ?_
        refine OpK.arith (r := ((i + 1 : Nat) : Int)) (by rw [← hi1]; rfl) rfl rfl ?_
        show CWL _ _ _ _ _ _
        try refine CWL.nil_ (P := Tryz.prog) (n := 0) ?_
        refine ⟨m, Nat.lt_succ_self m, i + 1, d8, by omega, rfl, rfl, rfl, rfl, rfl, rfl, rfl, rfl, rfl, rfl, ?_, ((hcl.trans' hcl4).trans' hc46).trans hg8.ch fun k hk e => by have := hdlo k e; omega, fun k hk => ?_⟩
        · rw [hacts, List.flatMap_append]
          simp only [List.flatMap_cons, List.flatMap_nil, List.append_nil]
          exact hgd6.more hg8
        · rcases hg8.blk k hk with h' | h'
          · exact hdlo k h'
          · have := hcl4.size; have := hc46.size; have := hcl.size; omega
      · refine CWL.condF (congrArg Value.bool (by simpa using hh)) ?_
        simp only [flat, List.cons_append, List.nil_append, List.append_nil]
        rw [if_neg hh, List.append_nil] at hacts
        try refine CWL.nil_ (P := Tryz.prog) (n := 0) ?_
        show CWL _ _ _ _ _ _
        refine CWL.reg (ops := [(.binOp .add 3 (.tmp 46) (.const (Go.Value.int Go.IntKind.i64 1)) 3, 3)]) (b := [(23, 1), (45, 1)]) (by kernel_rfl) ?_
        refine OpK.arith (r := ((i + 1 : Nat) : Int)) (by rw [← hi1]; rfl) rfl rfl ?_
        show CWL _ _ _ _ _ _
        try refine CWL.nil_ (P := Tryz.prog) (n := 0) ?_
        exact ⟨m, Nat.lt_succ_self m, i + 1, d0, by omega, rfl, rfl, rfl, rfl, rfl, rfl, rfl, rfl, rfl, rfl, by rw [hacts]; exact hg.later hcl4, hcl.trans' hcl4, hdlo⟩
  rintro σ wl ⟨d0, e0, e1, e2, e7, e9, e10, e11, hg, hcl, hdlo⟩
  rw [pin_eq (σ := σ) (l := [(0, .slice a flds.length c), (1, .int .i64 ver), (2, .bool fx), (7, .pointer (some ⟨gt, 0, none⟩)), (9, d0), (10, .slice none 0 0), (11, .int .i64 0)]) (all_pin e0 (all_pin e1 (all_pin e2 (all_pin e7 (all_pin e9 (all_pin e10 (all_pin e11 (fun _ h => by cases h))))))))]
  have hcwl : Ch (fun _ => False) w wl := hc1.trans' hcl
  have hkl : ∀ k, k < B → wl.heap[k]? = w.heap[k]? := fun k hk => hcwl.block k (by omega) fun h => h
  refine CWL.reg (ops := [(.unOp .not 4 (.tmp 4), 4)]) (b := [(47, 1), (46, 4)]) (by kernel_rfl) ?_
  refine OpK.not rfl ?_
  show CWL _ _ _ _ _ _
  cases fx with
  | false =>
    refine CWL.condT rfl ?_
    simp only [flat, List.cons_append, List.nil_append, List.append_nil]
    refine CWL.reg (ops := []) (b := [(8, 18), (48, 18)]) (by kernel_rfl) ?_
    show CWL _ _ _ _ _ _
    refine CWL.ret ?_
    refine ⟨_, rfl, ?_⟩
    simp only [Bool.false_eq_true, if_false, List.append_nil]
    exact hg
  | true =>
    refine CWL.condF rfl ?_
    simp only [flat, List.cons_append, List.nil_append, List.append_nil]
    try refine CWL.nil_ (P := Tryz.prog) (n := 0) ?_
    show CWL _ _ _ _ _ _
    simp only [if_true] at hlim ⊢
    refine CWL.reg (ops := [(.call ⟨.value (.func 24), #[.tmp 0], #[30]⟩, 53), (.convert 53 3 (.tmp 1), 3), (.move (.const (Go.Value.int Go.IntKind.i64 0)), 3)]) (b := [(52, 5), (51, 3), (50, 1), (49, 0)]) (by kernel_rfl) ?_
    refine OpK.asCall rfl call24 rfl ((known wl B dd (by have := hcwl.size; omega) flds _ (hF.keep hkl) (fun f hf => (hpl' f hf).1) hfew).mono ?_)
    rintro en w2 ⟨x2, he2, rfl, hc2⟩
    refine ⟨_, he2, ?_⟩
    refine OpK.convInt (k' := .i64) (by kernel_rfl) (by kernel_rfl) rfl ?_
    refine OpK.move ?_
    show CWL _ _ _ _ _ _
    refine CWL.loopJ (fun m σ w' => m = 0 ∧ w' = w2 ∧ σ 0 = .slice a flds.length c ∧ σ 7 = .pointer (some ⟨gt, 0, none⟩) ∧ σ 9 = d0 ∧ σ 10 = .slice none 0 0 ∧ σ 11 = .int .i64 0 ∧ σ 51 = .int .i64 0 ∧ σ 52 = .int .i64 0)
      (fun σ w' => w' = w2 ∧ σ 0 = .slice a flds.length c ∧ σ 7 = .pointer (some ⟨gt, 0, none⟩) ∧ σ 9 = d0 ∧ σ 10 = .slice none 0 0 ∧ σ 11 = .int .i64 0) 0
      ⟨rfl, rfl, rfl, rfl, rfl, rfl, rfl, by rfl, rfl⟩ ?_ ?_
    · rintro m σ w3 ⟨rfl, rfl, e0, e7, e9, e10, e11, e51, e52⟩
      refine CW.pin [(0, .slice a flds.length c), (7, .pointer (some ⟨gt, 0, none⟩)), (9, d0), (10, .slice none 0 0), (11, .int .i64 0), (51, .int .i64 0), (52, .int .i64 0)] (all_pin e0 (all_pin e7 (all_pin e9 (all_pin e10 (all_pin e11 (all_pin e51 (all_pin e52 (fun _ h => by cases h)))))))) fun σ => ?_
      simp only [flat, List.cons_append, List.nil_append, List.append_nil]
      refine CWL.reg (ops := [(.binOp .lss 3 (.tmp 104) (.tmp 102) 3, 4)]) (b := [(53, 1)]) (by kernel_rfl) ?_
      refine OpK.cmp rfl rfl rfl ?_
      show CWL _ _ _ _ _ _
      refine CWL.condF rfl ?_
      simp only [flat, List.cons_append, List.nil_append, List.append_nil]
      refine CWL.cons (CW.exit ?_)
      exact ⟨rfl, rfl, rfl, rfl, rfl, rfl⟩
    rintro σ w3 ⟨rfl, e0, e7, e9, e10, e11⟩
    rw [pin_eq (σ := σ) (l := [(0, .slice a flds.length c), (7, .pointer (some ⟨gt, 0, none⟩)), (9, d0), (10, .slice none 0 0), (11, .int .i64 0)]) (all_pin e0 (all_pin e7 (all_pin e9 (all_pin e10 (all_pin e11 (fun _ h => by cases h))))))]
    have hcw3 : Ch (fun _ => False) w w3 := hcwl.trans' hc2
    have hk3 : ∀ k, k < B → w3.heap[k]? = w.heap[k]? := fun k hk => hcw3.block k (by omega) fun h => h
    have hbt3 := (hbt1.ch hcl).ch hc2
    have hg3 := hg.later hc2
    have hs3 := hcw3.size
    refine CWL.reg (ops := [(.fieldAddr 26 (.tmp 14) 4, 0), (.load 24 (.tmp 1), 24), (.call ⟨.value (.func 27), #[.tmp 0, .tmp 3], #[30, 24]⟩, 24), (.call ⟨.builtin .len, #[.tmp 5], #[24]⟩, 3), (.move (.const (Go.Value.int Go.IntKind.i64 0)), 3)]) (b := [(102, 9), (101, 7), (100, 5), (99, 3), (98, 1), (97, 0)]) (by kernel_rfl) ?_
    refine OpK.fieldAddr (off := 4) (by kernel_rfl) rfl ?_
    refine OpK.load (by kernel_rfl) rfl (hbt3.cell 4) ?_
    refine OpK.asCall rfl call27 rfl ((unknown w3 B dd (by omega) flds _ (hF.keep hk3) (fun f hf => (hpl' f hf).1) hfew u vu (hu.keep hk3)).mono ?_)
    rintro en w4 ⟨x4, he4, us, hown4, hall4, hc4, hlo4⟩
    refine ⟨_, he4, ?_⟩
    obtain ⟨a4, c4, rfl, hf4⟩ := hown4.form
    refine OpK.len (e := 55) (by kernel_rfl) rfl ?_
    refine OpK.move ?_
    show CWL _ _ _ _ _ _
    obtain ⟨_, hkeys, hfewU⟩ := unkL_props u
    have husl := hall4.size
    generalize hun : unkL u = un at hall4 hkeys hfewU husl
    have htg : tagsL t = uvar un.length ++ un.flatMap tagL := by unfold tagsL; rw [htu, hun]
    rw [htg] at hlim ⊢
    rw [List.length_append] at hlim
    have hg4 := hg3.later hc4
    refine CWL.loopJ (fun m σ w' => ∃ j dt, j + m = us.length ∧ σ 9 = d0 ∧ σ 10 = dt ∧ σ 11 = .int .i64 (j : Int) ∧ σ 100 = .slice a4 us.length c4 ∧ σ 101 = .int .i64 (us.length : Int) ∧ σ 102 = .int .i64 (j : Int) ∧ New w4 w' dt ((un.take j).flatMap tagL))
      (fun σ w' => ∃ dt, σ 9 = d0 ∧ σ 10 = dt ∧ σ 11 = .int .i64 (us.length : Int) ∧ New w4 w' dt (un.flatMap tagL)) us.length
      ⟨0, .slice none 0 0, by simp, rfl, rfl, rfl, rfl, rfl, rfl, Grew.refl (Own.nil _ _)⟩ ?_ ?_
    · rintro m σ w5 ⟨j, dt, hjm, e9, e10, e11, e100, e101, e102, hgt⟩
      refine CW.pin [(9, d0), (10, dt), (11, .int .i64 (j : Int)), (100, .slice a4 us.length c4), (101, .int .i64 (us.length : Int)), (102, .int .i64 (j : Int))] (all_pin e9 (all_pin e10 (all_pin e11 (all_pin e100 (all_pin e101 (all_pin e102 (fun _ h => by cases h))))))) fun σ => ?_
      simp only [flat, List.cons_append, List.nil_append, List.append_nil]
      refine CWL.reg (ops := [(.binOp .lss 3 (.tmp 204) (.tmp 202) 3, 0)]) (b := [(103, 1)]) (by kernel_rfl) ?_
      refine OpK.cmp rfl rfl rfl ?_
      show CWL _ _ _ _ _ _
      cases m with
      | zero =>
        refine CWL.condF (congrArg Value.bool (decide_eq_false (by omega))) ?_
        simp only [flat, List.cons_append, List.nil_append, List.append_nil]
        refine CWL.cons (CW.exit ?_)
        rw [List.take_of_length_le (by omega)] at hgt
        obtain rfl : j = us.length := by omega
        exact ⟨dt, rfl, rfl, rfl, hgt⟩
      | succ m =>
        refine CWL.condT (congrArg Value.bool (decide_eq_true (by omega))) ?_
        simp only [flat, List.cons_append, List.nil_append, List.append_nil]
        refine CWL.block ?_
        simp only [flat, List.cons_append, List.nil_append, List.append_nil]
        obtain ⟨y, hy⟩ : ∃ y, us[j]? = some y := ⟨_, List.getElem?_eq_getElem (by omega)⟩
        obtain ⟨z, hz, hyz⟩ := hall4.at1 hy
        obtain ⟨g4, rfl, hg4l, hob, hat4⟩ := hf4 j y hy
        have hc45 := hgt.new_ch
        have hat5 := hat4.ch (by rw [add_block]; exact hg4l) hc45
        refine CWL.reg (ops := [(.indexAddr 24 (.tmp 200) (.tmp 204), 0), (.load 55 (.tmp 1), 55), (.alloc 55, 0), (.store 55 (.tmp 5) (.tmp 3), 0)]) (b := [(19, 5), (105, 3), (104, 1)]) (by kernel_rfl) ?_
        refine OpK.indexAddr (s := 2) (by kernel_rfl) rfl rfl (by omega) ?_
        refine OpK.loadA (n := 2) (by kernel_rfl) rfl (hat5) rfl ?_
        refine OpK.allocZ zeroG (by kernel_rfl) fun w6 r hr hc6 hr1 hs6 => ?_
        refine OpK.storeG (cs := zeroG) (us := [.int .u32 (y.1 : Int), y.2]) (by kernel_rfl) rfl rfl (by intro q hq; simp only [List.mem_cons, List.not_mem_nil, or_false] at hq; rcases hq with rfl | rfl; rfl; exact hyz.2.form) hr rfl fun w7 hr7 hc7 hs7 => ?_
        show CWL _ _ _ _ _ _
        have hc57 : Ch (fun _ => False) w5 w7 := hc6.trans hc7 fun k hk e => by omega
        have hsl7 : SlIs w7 B z.2 y.2 := hyz.2.keep fun k hk => (hc57.block k (by have := hc4.size; have := hc45.size; omega) fun h => h).trans (hc45.block k (by have := hc4.size; omega) fun h => h)
        refine CWL.reg (ops := [(.fieldAddr 55 (.tmp 38) 1, 0), (.load 22 (.tmp 1), 22), (.call ⟨.value (.func 28), #[.tmp 3], #[22]⟩, 22)]) (b := [(20, 5), (108, 5), (107, 3), (106, 1)]) (by kernel_rfl) ?_
        refine OpK.fieldAddr (off := 1) (by kernel_rfl) rfl ?_
        refine OpK.load (by kernel_rfl) rfl (hr7.cell 1) ?_
        refine OpK.asCall rfl call28 rfl ((whole w7 B z.2 y.2 hsl7).mono ?_)
        rintro en w8 ⟨v8, he8, hv8, rfl⟩
        refine ⟨_, he8, ?_⟩
        obtain ⟨a8, c8, rfl, hw3, hw4, hw5, hw6⟩ := hv8
        show CWL _ _ _ _ _ _
        have hwl := wholeL_len z.2
        have hkz := hkeys z (List.mem_of_getElem? hz)
        have hle : ((un.take (j + 1)).flatMap tagL).length ≤ (un.flatMap tagL).length := flat_take_le un (j + 1) _
        rw [flat_take _ hz, List.length_append] at hle
        simp only [tagL, List.length_append] at hle
        have hgt8 := hgt.later hc57
        have ey : (y.1 : Int) = (z.1 : Int) := by rw [hyz.1]
        have hj1 := i64_succ j (by omega)
        refine CWL.reg (ops := [(.fieldAddr 55 (.tmp 38) 0, 0), (.load 53 (.tmp 1), 53), (.convert 53 69 (.tmp 3), 69), (.call ⟨.value (.func 26), #[.tmp 5], #[69]⟩, 22), (.call ⟨.builtin .append, #[.tmp 20, .tmp 7], #[22, 22]⟩, 22), (.call ⟨.builtin .len, #[.tmp 40], #[22]⟩, 3), (.convert 3 69 (.tmp 11), 69), (.call ⟨.value (.func 26), #[.tmp 13], #[69]⟩, 22), (.call ⟨.builtin .append, #[.tmp 9, .tmp 15], #[22, 22]⟩, 22), (.call ⟨.builtin .append, #[.tmp 17, .tmp 40], #[22, 22]⟩, 22)]) (b := [(10, 19), (121, 19), (120, 40), (119, 17), (118, 15), (117, 13), (116, 11), (115, 40), (114, 9), (113, 7), (112, 5), (111, 3), (110, 1), (109, 20)]) (by kernel_rfl) ?_
        refine OpK.fieldAddr (off := 0) (by kernel_rfl) rfl ?_
        refine OpK.load (by kernel_rfl) rfl (hr7.cell 0) ?_
        refine OpK.convInt (k' := .u64) (by kernel_rfl) (by kernel_rfl) rfl ?_
        rw [ey, u64_nat (by omega)]
        refine OpK.asCall rfl call26 rfl ((uvarint w8 z.1 (by omega)).mono ?_)
        rintro en w9 ⟨d9, he9, hg9⟩
        refine ⟨_, he9, ?_⟩
        have hgt9 := hgt8.later hg9.new_ch
        obtain ⟨a9, c9, rfl, hn9, ho9⟩ := hg9.own.slice
        obtain ⟨da, wa, hra, hga⟩ := run_append_oct (P := Tryz.prog) (ty := 22) (t := 22) u8 und hgt9.own (a := a9) (l := uvar z.1) (c := c9) hn9 (fun a' e => (ho9 a' e).1) (by omega)
        have hgta := hgt9.more hga
        refine OpK.run rfl hra ?_
        refine OpK.len (e := 5) (by kernel_rfl) rfl ?_
        refine OpK.convInt (k' := .u64) (by kernel_rfl) (by kernel_rfl) rfl ?_
        rw [u64_nat (by omega)]
        refine OpK.asCall rfl call26 rfl ((uvarint wa (wholeL z.2).length (by omega)).mono ?_)
        rintro en wb ⟨db, heb, hgb⟩
        refine ⟨_, heb, ?_⟩
        have hgtb := hgta.later hgb.new_ch
        obtain ⟨ab, cb, rfl, hnb, hob⟩ := hgb.own.slice
        obtain ⟨dc, wc, hrc, hgc⟩ := run_append_oct (P := Tryz.prog) (ty := 22) (t := 22) u8 und hgtb.own (a := ab) (l := uvar (wholeL z.2).length) (c := cb) hnb (fun a' e => (hob a' e).1) (by simp only [List.length_append]; omega)
        have hgtc := hgtb.more hgc
        obtain ⟨de, we, hre, hge⟩ := run_append_oct (P := Tryz.prog) (ty := 22) (t := 22) u8 und hgtc.own (a := a8) (l := wholeL z.2) (c := c8) hw5 (fun a' e => (hw6 a' e).1.keepB (hw6 a' e).2 fun k hk => by
          have h1 := hgtc.new_ch
          have h2 := hc45.trans' hc57
          have h3 : k < w4.heap.size := by have := hc4.size; omega
          exact (h1.block k h3 fun h => h).trans ((h2.block k h3 fun h => h).symm)) (by simp only [List.length_append]; omega)
        have hgte := hgtc.more hge
        refine OpK.run rfl hrc ?_
        refine OpK.run rfl hre ?_
        show CWL _ _ _ _ _ _
        refine CWL.reg (ops := [(.binOp .add 3 (.tmp 22) (.const (Go.Value.int Go.IntKind.i64 1)) 3, 3)]) (b := [(11, 1), (123, 1), (122, 22)]) (by kernel_rfl) ?_
        refine OpK.arith (r := ((j + 1 : Nat) : Int)) (by rw [← hj1]; rfl) rfl rfl ?_
        show CWL _ _ _ _ _ _
        try refine CWL.nil_ (P := Tryz.prog) (n := 0) ?_
        show CWL _ _ _ _ _ _
        refine CWL.reg (ops := [(.binOp .add 3 (.tmp 204) (.const (Go.Value.int Go.IntKind.i64 1)) 3, 3)]) (b := [(102, 1), (124, 1)]) (by kernel_rfl) ?_
        refine OpK.arith (r := ((j + 1 : Nat) : Int)) (by rw [← hj1]; rfl) rfl rfl ?_
        show CWL _ _ _ _ _ _
        try refine CWL.nil_ (P := Tryz.prog) (n := 0) ?_
        refine ⟨m, Nat.lt_succ_self m, j + 1, de, by omega, rfl, rfl, rfl, rfl, rfl, rfl, ?_⟩
        rw [flat_take _ hz]
        simpa only [tagL, List.append_assoc] using hgte
    rintro σ w5 ⟨dt, e9, e10, e11, hgt⟩
    rw [pin_eq (σ := σ) (l := [(9, d0), (10, dt), (11, .int .i64 (us.length : Int))]) (all_pin e9 (all_pin e10 (all_pin e11 (fun _ h => by cases h))))]
    have hg5 := hg4.later hgt.new_ch
    refine CWL.reg (ops := [(.convert 3 69 (.tmp 22), 69), (.call ⟨.value (.func 26), #[.tmp 1], #[69]⟩, 22), (.call ⟨.builtin .append, #[.tmp 18, .tmp 3], #[22, 22]⟩, 22), (.call ⟨.builtin .append, #[.tmp 5, .tmp 20], #[22, 22]⟩, 22)]) (b := [(8, 7), (131, 7), (130, 20), (129, 5), (128, 3), (127, 1), (126, 22), (125, 18)]) (by kernel_rfl) ?_
    refine OpK.convInt (k' := .u64) (by kernel_rfl) (by kernel_rfl) rfl ?_
    rw [u64_nat (by omega)]
    refine OpK.asCall rfl call26 rfl ((uvarint w5 us.length (by omega)).mono ?_)
    rintro en w6 ⟨d6, he6, hg6⟩
    refine ⟨_, he6, ?_⟩
    rw [husl] at hg6
    have hg56 := hg5.later hg6.new_ch
    obtain ⟨a6, c6, rfl, hn6, ho6⟩ := hg6.own.slice
    obtain ⟨d7, w7, hr7, hg7⟩ := run_append_oct (P := Tryz.prog) (ty := 22) (t := 22) u8 und hg56.own (a := a6) (l := uvar un.length) (c := c6) hn6 (fun a' e => (ho6 a' e).1) (by omega)
    have hgt6 := hgt.later hg6.new_ch
    have hdtne : ∀ k, dt.ownBlock = some k → ¬ d0.ownBlock = some k := fun k h1 h2 => by have := hgt.new_lo h1; have := hg4.own.lt h2; omega
    have hdt7 : Own 5 w7 dt (un.flatMap tagL) := hgt6.own.keep fun k hk => hg7.ch.block k (hgt6.own.lt hk) (hdtne k hk)
    obtain ⟨at_, ct, hdte, hnt, hot⟩ := hdt7.slice
    obtain ⟨d8, w8, hr8, hg8⟩ := run_append_oct (P := Tryz.prog) (ty := 22) (t := 22) u8 und hg7.own (a := at_) (l := un.flatMap tagL) (c := ct) hnt (fun a' e => (hot a' e).1) (by simp only [List.length_append]; omega)
    rw [← hdte] at hr8
    refine OpK.run rfl hr7 ?_
    refine OpK.run rfl hr8 ?_
    show CWL _ _ _ _ _ _
    refine CWL.ret ?_
    refine ⟨_, rfl, ?_⟩
    rw [← List.append_assoc]
    exact (hg56.more hg7).more hg8

theorem part_all (ver : Int) (fx : Bool) : ∀ (d : Nat) (flds : List Fld), plainB d flds = true → PartAt ver fx (partF ver fx d) flds
  | 0, flds, h => by simp [plainB] at h
  | d + 1, flds, h => part_step ver fx d (part_all ver fx d) flds h
end Go.Proofs.YthcpchmmpnakaaaGreatDoor.Sp
