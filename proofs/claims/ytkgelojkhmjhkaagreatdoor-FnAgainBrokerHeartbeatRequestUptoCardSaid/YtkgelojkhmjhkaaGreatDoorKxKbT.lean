/- The message BrokerHeartbeatRequest: it is written so. -/
import Derived.Test.YtkgelojkhmjhkaaGreatDoorKxTgW
import Derived.Test.YtkgelojkhmjhkaaGreatDoorKxKbS
import Derived.Test.YtkgelojkhmjhkaaGreatDoorKxRef
namespace Go.Proofs.YtkgelojkhmjhkaaGreatDoor.BrokerHeartbeatRequest
open Go.Kx Go.RowKit Go.Proofs
set_option maxRecDepth 100000
set_option linter.unusedSimpArgs false
set_option linter.unusedVariables false

theorem undKk : Tryz.prog.underlying 74 = some (.slice 52) := by kernel_rfl
theorem u32 : U32 Tryz.prog 52 := by unfold U32; kernel_rfl
theorem undOc : Tryz.prog.underlying 22 = some (.slice 5) := by kernel_rfl
theorem oneOc : (Tryz.prog.info? 5).map (·.size) = some 1 := by kernel_rfl
theorem mixed : Tryz.prog.follows .mixedOrders = true := by kernel_rfl
theorem calUv : Callable Tryz.prog 32 := ⟨Tryz.f32, Tryz.func32, by kernel_rfl, by kernel_rfl⟩
theorem calTl : Callable Tryz.prog 33 := ⟨Tryz.f33, Tryz.func33, by kernel_rfl, by kernel_rfl⟩
theorem calTe : Callable Tryz.prog 39 := ⟨Tryz.f39, Tryz.func39, by kernel_rfl, by kernel_rfl⟩
theorem keys_pre0 (xS xF : V) : ([] : List Nat).length ≤ 4 := by simp
theorem keys_pre1 (xS xF : V) : ([] ++ (if xS.elems.length > 0 then [0] else [])).length ≤ 4 := by split <;> simp
theorem enc6 {ver : Int} {m : List V} (hm : m.length = 6) {xS xF : V} {tl : List (Nat × List UInt8)} : enc ver true sch6 (mkB m xS xF tl) = enc ver true sch6 (.st m) := by
  have h : ∀ k, k < 6 → (mkB m xS xF tl).fld k = (V.st m).fld k := fun k hk => by
    simp only [mkB, V.fld, List.getD_eq_getElem?_getD]
    rw [List.getElem?_append_left (by omega)]
  simp only [sch6, enc, h 1 (by decide), h 2 (by decide), h 3 (by decide), h 4 (by decide), h 5 (by decide)]
theorem flat_take {ks : List Nat} {i k : Nat} (h : ks[i]? = some k) (f : Nat → List UInt8) : (ks.take (i + 1)).flatMap f = (ks.take i).flatMap f ++ f k ∧ ((ks.take i).flatMap f).length + (f k).length ≤ (ks.flatMap f).length := by
  have h1 : (ks.take (i + 1)).flatMap f = (ks.take i).flatMap f ++ f k := by rw [List.take_add_one, h]; simp
  refine ⟨h1, ?_⟩
  have h2 : ks.flatMap f = (ks.take (i + 1)).flatMap f ++ (ks.drop (i + 1)).flatMap f := by rw [← List.flatMap_append, List.take_append_drop]
  rw [h2, h1, List.length_append, List.length_append]
  omega
theorem rep_inv {w : World} {D : Nat → Prop} {m : List V} (hm : m.length = 6) {xS xF : V} {tl : List (Nat × List UInt8)} {cells : List Value} (h : Rep w D T (mkB m xS xF tl) cells) : ∃ c4 cS cF c, cells = c4 ++ [cS, cF, c] ∧ c4.length = 6 ∧ Rep w D (.arr eS) xS [cS] ∧ Rep w D (.arr eF) xF [cF] ∧ Rep w D .tags (.tags tl) [c] := by
  obtain ⟨m0, m1, m2, m3, m4, m5, rfl⟩ : ∃ a b c d e f, m = [a, b, c, d, e, f] := by
    match m, hm with
    | [a, b, c, d, e, f], _ => exact ⟨a, b, c, d, e, f, rfl⟩
  obtain ⟨a0, l0, x0, y0, h1, rfl, g0, r0, h⟩ := h
  cases h1
  obtain ⟨a1, l1, x1, y1, h1, rfl, g1, r1, h⟩ := h
  cases h1
  obtain ⟨a2, l2, x2, y2, h1, rfl, g2, r2, h⟩ := h
  cases h1
  obtain ⟨a3, l3, x3, y3, h1, rfl, g3, r3, h⟩ := h
  cases h1
  obtain ⟨a4, l4, x4, y4, h1, rfl, g4, r4, h⟩ := h
  cases h1
  obtain ⟨a5, l5, x5, y5, h1, rfl, g5, r5, h⟩ := h
  cases h1
  obtain ⟨a6, l6, x6, y6, h1, rfl, g6, r6, h⟩ := h
  cases h1
  obtain ⟨a7, l7, x7, y7, h1, rfl, g7, r7, h⟩ := h
  cases h1
  obtain ⟨a8, l8, x8, y8, h1, rfl, g8, r8, h⟩ := h
  cases h1
  obtain ⟨_, rfl⟩ := h
  obtain ⟨c6, rfl⟩ := List.length_eq_one_iff.1 (show x6.length = 1 from g6)
  obtain ⟨c7, rfl⟩ := List.length_eq_one_iff.1 (show x7.length = 1 from g7)
  obtain ⟨c8, rfl⟩ := List.length_eq_one_iff.1 (show x8.length = 1 from g8)
  have e0 : x0.length = 1 := g0
  have e1 : x1.length = 1 := g1
  have e2 : x2.length = 1 := g2
  have e3 : x3.length = 1 := g3
  have e4 : x4.length = 1 := g4
  have e5 : x5.length = 1 := g5
  exact ⟨x0 ++ (x1 ++ (x2 ++ (x3 ++ (x4 ++ x5)))), c6, c7, c8, by simp, by simp [e0, e1, e2, e3, e4, e5], r6, r7, r8⟩

set_option maxHeartbeats 16000000 in
theorem writeIs (hsort : SortIs Tryz.prog 66 67 74 52) {w : World} {g : Nat} {m : List V} {xS xF : V} {tl : List (Nat × List UInt8)} {ver : Int} (hm : m.length = 6) (hi : Is w (fun k => k < w.heap.size) g 0 T (mkB m xS xF tl)) (hg : g < w.heap.size) (hver : (V.st m).fld 0 = .i ver) (hv0 : 0 ≤ ver) (hl : (encB ver m xS xF tl).length ≤ Lim) :
    Calls Tryz.prog 17 #[.pointer (some ⟨g, 0, none⟩), .slice none 0 0] w fun en w' => ∃ d', en = .returned d' ∧ Grew 5 w (.slice none 0 0) w' d' (encB ver m xS xF tl) := by
  have hsnd := TgW.sound1 hsort
  have hver' : (mkB m xS xF tl).fld 0 = .i ver := by
    rw [← hver]
    simp only [mkB, V.fld, List.getD_eq_getElem?_getD]
    rw [List.getElem?_append_left (by omega)]
  unfold encB at hl ⊢
  simp only [List.length_append] at hl
  have hfx' : decide (ver ≥ 0) = true := decide_eq_true hv0
  refine preAP_use (m := 0) (s := sch6) (T := T) (vr := 5) (fl := 6) (tab := Snd.tab) (R := fun d' w' => Grew 5 w (.slice none 0 0) w' d' (enc ver true sch6 (.st m) ++ (uvar (word ((keysOf xS xF).length + tl.length)) ++ ((keysOf xS xF).flatMap (tagE xS xF) ++ encEach tl)))) (hbody := rfl) 15 hsnd Tryz.func17 (by kernel_rfl) (S := fun k => k < w.heap.size) (g := g) (o := 0) (v := mkB m xS xF tl) (ver := ver) (d := .slice none 0 0) (bs := [])
    (.inl rfl) hi hg hver' (Own.nil _ w) (fun k hk => ⟨hk, by simp [Value.ownBlock]⟩) (by rw [hfx', enc6 hm, List.length_nil, Nat.zero_add]; exact Nat.le_trans (Nat.le_add_right _ _) hl) ?_
  obtain ⟨cells, hrep, hat⟩ := hi
  obtain ⟨c4, cS, cF, c, rfl, h4l, hrS, hrF, hrt⟩ := rep_inv hm hrep
  obtain ⟨aS, ccS, hcS, _⟩ := rep_arr hrS
  obtain ⟨aF, ccF, hcF, hnF, _⟩ := rep_arr hrF
  obtain rfl : cS = .slice aS xS.elems.length ccS := hcS
  obtain rfl : cF = .slice aF xF.elems.length ccF := hcF
  intro σ w3 hg3 hp hv hf
  rw [hfx', enc6 hm] at hg3
  rw [hfx'] at hf
  rw [List.nil_append] at hg3
  obtain ⟨d3, hd3⟩ : ∃ d3, σ 1 = d3 := ⟨_, rfl⟩
  rw [hd3] at hg3
  simp only [flat, List.cons_append, List.nil_append, List.append_nil, List.drop_succ_cons, List.drop_zero]
  refine CWL.pin [(0, .pointer (some ⟨g, 0, none⟩)), (1, d3), (5, .int .i16 ver), (6, .bool true)] (all_pinE hp (all_pinE hd3 (all_pinE hv (all_pinE hf (fun _ h => by cases h))))) fun σ => ?_
  have hc3 := hg3.new_ch
  have hld : ∀ w', Ch (fun _ => False) w w' → ∀ i u, (c4 ++ [.slice aS xS.elems.length ccS, .slice aF xF.elems.length ccF, c])[i]? = some u → w'.cell? ⟨g, i, none⟩ = some u := fun w' hc i u hu => by
    have h1 := hat i u hu
    rw [Nat.zero_add] at h1
    exact (World.cell?_of_block (hc.block g hg fun h => h)).trans h1
  have hat4 : ∀ j u, [Value.slice aS xS.elems.length ccS, .slice aF xF.elems.length ccF, c][j]? = some u → (c4 ++ [.slice aS xS.elems.length ccS, .slice aF xF.elems.length ccF, c])[6 + j]? = some u := fun j u hu => by
    rw [List.getElem?_append_right (by omega), h4l, Nat.add_sub_cancel_left]
    exact hu
  refine CWL.reg (ops := []) (b := [(68, 12)]) (by kernel_rfl) ?_
  show CWL _ _ _ _ _ _
  refine CWL.condT rfl ?_
  simp only [flat, List.cons_append, List.nil_append, List.append_nil]
  refine CWL.reg (ops := [(.assign (.const (Go.Value.slice none 0 0)), 74)]) (b := [(12, 1)]) (by kernel_rfl) ?_
  refine OpK.assign ?_
  show CWL _ _ _ _ _ _
  have hkn : KOwn 52 w3 (.slice none 0 0) [] := KOwn.nil _ _
  have hck : Ch (fun _ => False) w3 w3 := Ch.refl _ _
  have hnewk : ∀ k, (Value.slice none 0 0).ownBlock = some k → w3.heap.size ≤ k := fun k h => by cases h
  refine CWL.pin [(0, .pointer (some ⟨g, 0, none⟩)), (1, d3), (5, .int .i16 ver), (6, .bool true), (12, .slice none 0 0)] (all_pinE rfl (all_pinE rfl (all_pinE rfl (all_pinE rfl (all_pinE rfl (fun _ h => by cases h)))))) fun σ => ?_
  refine CWL.reg (ops := [(.nilCheck (.tmp 0), 0), (.fieldAddr 61 (.tmp 1) 6, 0), (.load 56 (.tmp 3), 56), (.call ⟨.builtin .len, #[.tmp 5], #[56]⟩, 3), (.binOp .gtr 3 (.tmp 7) (.const (Go.Value.int Go.IntKind.i64 0)) 3, 4)]) (b := [(74, 9), (73, 7), (72, 5), (71, 3), (70, 1), (69, 0)]) (by kernel_rfl) ?_
  refine OpK.nilCheck rfl ?_
  refine OpK.fieldAddr (off := 6) (by kernel_rfl) rfl ?_
  refine OpK.load (by kernel_rfl) rfl (hld w3 (hc3.trans' hck) 6 _ (hat4 0 _ rfl)) ?_
  refine OpK.len (e := 77) (by kernel_rfl) rfl ?_
  refine OpK.cmp rfl rfl rfl ?_
  show CWL _ _ _ _ _ _
  show CWL _ _ _ _ _ _
  refine CWL.condJ (b := decide ((xS.elems.length : Int) > 0)) rfl (fun σ' w' => ∃ te', σ' 0 = .pointer (some ⟨g, 0, none⟩) ∧ σ' 1 = d3 ∧ σ' 5 = .int .i16 ver ∧ σ' 6 = .bool true ∧ σ' 12 = te' ∧ KOwn 52 w' te' ([] ++ (if xS.elems.length > 0 then [0] else [])) ∧ Ch (fun _ => False) w3 w' ∧ ∀ k, te'.ownBlock = some k → w3.heap.size ≤ k) (fun hu => ?_) (fun hu => ?_) ?_
  · refine CW.of_flat ?_
    simp only [flat, List.cons_append, List.nil_append, List.append_nil]
    have hu : xS.elems.length > 0 := by simpa using hu
    obtain ⟨v', w5, hr5, hown5, hch5, hat5⟩ := append_key (ty := 74) undKk u32 hkn 0 (Nat.lt_of_le_of_lt (keys_pre0 xS xF) (by decide))
    refine CWL.reg (ops := [(.buildSlice 74 1 #[(0, .const (Go.Value.int Go.IntKind.u32 0))], 74), (.call ⟨.builtin .append, #[.tmp 24, .tmp 1], #[74, 74]⟩, 74)]) (b := [(12, 3), (77, 3), (76, 1), (75, 24)]) (by kernel_rfl) ?_
    refine OpK.buildS (v := .slice (some ⟨w3.heap.size, 0, none⟩) 1 1) (w' := w3.alloc (.cells #[kv 0] 52)) (by simp only [List.map_toArray, List.map_cons, List.map_nil]; exact run_bsK undKk u32 0) ?_
    refine OpK.run rfl hr5 ?_
    show CWL _ _ _ _ _ _
    have hs5 := hck.size
    exact ⟨v', rfl, rfl, rfl, rfl, rfl, by rw [if_pos hu]; exact hown5, hck.trans hch5 fun k hk h => by have := hnewk k h; omega, fun k hk => by rcases hat5 k hk with h | h; exact hnewk k h; omega⟩
  · refine CW.of_flat ?_
    simp only [flat, List.cons_append, List.nil_append, List.append_nil]
    have hu : ¬ (xS.elems.length > 0) := by simpa using hu
    exact ⟨(.slice none 0 0), rfl, rfl, rfl, rfl, rfl, by rw [if_neg hu]; first | exact hkn | (rw [List.append_nil]; exact hkn), hck, hnewk⟩
  clear hkn hck hnewk
  rintro σ wk ⟨te, p0, p1, p5, p6, p12, hkn, hck, hnewk⟩
  refine CWL.pin [(0, .pointer (some ⟨g, 0, none⟩)), (1, d3), (5, .int .i16 ver), (6, .bool true), (12, te)] (all_pinE p0 (all_pinE p1 (all_pinE p5 (all_pinE p6 (all_pinE p12 (fun _ h => by cases h)))))) fun σ => ?_
  refine CWL.cons (CW.region ?_)
  refine RW.want rfl ?_
  refine OpK.move ?_
  refine RW.want rfl ?_
  refine OpK.cmp (r := false) (by rw [← decide_eq_false (show ¬ ver < 0 by omega)]; rfl) rfl rfl ?_
  refine RW.want rfl ?_
  refine OpK.move ?_
  refine RW.skip rfl ?_
  refine RW.skip rfl ?_
  refine RW.skip rfl ?_
  refine RW.skip rfl ?_
  refine RW.skip rfl ?_
  refine RW.skip rfl ?_
  refine RW.want rfl ?_
  refine OpK.pick rfl ?_
  refine RW.want rfl ?_
  refine OpK.move ?_
  refine RW.want rfl ?_
  refine OpK.move ?_
  refine RW.want rfl ?_
  refine OpK.cmp (r := true) (by rw [← decide_eq_true (show ver ≥ 0 by omega)]; rfl) rfl rfl ?_
  refine RW.want rfl ?_
  refine OpK.move ?_
  refine RW.want rfl ?_
  refine OpK.move ?_
  refine RW.want rfl ?_
  refine OpK.nilCheck rfl ?_
  refine RW.want rfl ?_
  refine OpK.fieldAddr (off := 7) (by kernel_rfl) rfl ?_
  refine RW.want rfl ?_
  refine OpK.load (by kernel_rfl) rfl (hld wk (hc3.trans' hck) 7 _ (hat4 1 _ rfl)) ?_
  refine RW.want rfl ?_
  refine OpK.neNilSlice (s := 16) (by kernel_rfl) rfl rfl ?_
  refine RW.want rfl ?_
  refine OpK.pick rfl ?_
  refine RW.want rfl ?_
  refine OpK.pick rfl ?_
  refine RW.z ?_
  show CWL _ _ _ _ _ _
  refine CWL.condJ (b := aF.isSome) rfl (fun σ' w' => ∃ te', σ' 0 = .pointer (some ⟨g, 0, none⟩) ∧ σ' 1 = d3 ∧ σ' 5 = .int .i16 ver ∧ σ' 6 = .bool true ∧ σ' 12 = te' ∧ KOwn 52 w' te' (([] ++ (if xS.elems.length > 0 then [0] else [])) ++ (if xF.isNil = false then [1] else [])) ∧ Ch (fun _ => False) w3 w' ∧ ∀ k, te'.ownBlock = some k → w3.heap.size ≤ k) (fun hu => ?_) (fun hu => ?_) ?_
  · refine CW.of_flat ?_
    simp only [flat, List.cons_append, List.nil_append, List.append_nil]
    have hu : xF.isNil = false := by rw [← hnF]; cases aF <;> simp_all
    obtain ⟨v', w5, hr5, hown5, hch5, hat5⟩ := append_key (ty := 74) undKk u32 hkn 1 (Nat.lt_of_le_of_lt (keys_pre1 xS xF) (by decide))
    refine CWL.reg (ops := [(.buildSlice 74 1 #[(0, .const (Go.Value.int Go.IntKind.u32 1))], 74), (.call ⟨.builtin .append, #[.tmp 24, .tmp 1], #[74, 74]⟩, 74)]) (b := [(12, 3), (101, 3), (100, 1), (99, 24)]) (by kernel_rfl) ?_
    refine OpK.buildS (v := .slice (some ⟨wk.heap.size, 0, none⟩) 1 1) (w' := wk.alloc (.cells #[kv 1] 52)) (by simp only [List.map_toArray, List.map_cons, List.map_nil]; exact run_bsK undKk u32 1) ?_
    refine OpK.run rfl hr5 ?_
    show CWL _ _ _ _ _ _
    have hs5 := hck.size
    exact ⟨v', rfl, rfl, rfl, rfl, rfl, by rw [if_pos hu]; exact hown5, hck.trans hch5 fun k hk h => by have := hnewk k h; omega, fun k hk => by rcases hat5 k hk with h | h; exact hnewk k h; omega⟩
  · refine CW.of_flat ?_
    simp only [flat, List.cons_append, List.nil_append, List.append_nil]
    have hu : ¬ (xF.isNil = false) := by rw [← hnF]; cases aF <;> simp_all
    exact ⟨te, rfl, rfl, rfl, rfl, rfl, by rw [if_neg hu]; first | exact hkn | (rw [List.append_nil]; exact hkn), hck, hnewk⟩
  clear hkn hck hnewk
  rintro σ wk ⟨te, p0, p1, p5, p6, p12, hkn, hck, hnewk⟩
  refine CWL.pin [(0, .pointer (some ⟨g, 0, none⟩)), (1, d3), (5, .int .i16 ver), (6, .bool true), (12, te)] (all_pinE p0 (all_pinE p1 (all_pinE p5 (all_pinE p6 (all_pinE p12 (fun _ h => by cases h)))))) fun σ => ?_
  change KOwn 52 wk te (keysOf xS xF) at hkn
  have hkw4 : KW 5 52 w te (keysOf xS xF) wk d3 (enc ver true sch6 (.st m)) := ⟨hg3.later hck, hkn, fun k hk hd => by have := hnewk k hk; have := hg3.own.lt hd; omega⟩
  have hk4 := keys_len xS xF
  have hkm : ∀ k ∈ keysOf xS xF, k = 0 ∨ k = 1 := fun k h => (keys_mem h).imp And.left And.left
  generalize keysOf xS xF = keys at hkn hkw4 hl hk4 hkm ⊢
  obtain ⟨at_, ct, rfl, hkat⟩ := hkn.form
  have hcw4 : Ch (fun _ => False) w wk := (hg3.new_ch).trans' hck
  have hrt4 := hrt.keepMono (w' := wk) (S' := fun k => k < wk.heap.size) (fun k hk => hcw4.block k hk fun h => h) (fun k hk => Nat.lt_of_lt_of_le hk hcw4.size)
  have htags : Is wk (fun k => k < wk.heap.size) g 8 .tags (.tags tl) := ⟨[c], hrt4, fun j x hj => by
    cases j with
    | zero => simp only [List.getElem?_cons_zero, Option.some.injEq] at hj; subst hj; exact hld wk hcw4 8 _ (hat4 2 _ rfl)
    | succ j => simp at hj⟩
  refine CWL.reg (ops := [(.call ⟨.builtin .len, #[.tmp 24], #[74]⟩, 3), (.nilCheck (.tmp 0), 0), (.fieldAddr 61 (.tmp 3) 8, 0), (.call ⟨.value (.func 33), #[.tmp 5], #[59]⟩, 3), (.binOp .add 3 (.tmp 1) (.tmp 7) 3, 3), (.convert 3 52 (.tmp 9), 52), (.call ⟨.value (.func 32), #[.tmp 2, .tmp 11], #[22, 52]⟩, 22)]) (b := [(1, 13), (111, 13), (110, 11), (109, 9), (108, 7), (107, 5), (106, 3), (105, 0), (104, 1), (103, 24), (102, 2)]) (by kernel_rfl) ?_
  refine OpK.len (e := 52) (by kernel_rfl) rfl ?_
  refine OpK.nilCheck rfl ?_
  refine OpK.fieldAddr (off := 8) (by kernel_rfl) rfl ?_
  refine OpK.asCall rfl calTl rfl (((hsnd.ok 33 .tlen (by kernel_rfl)).2 wk _ g 8 (.tags tl) (.inl rfl) htags).mono ?_)
  rintro en w5 ⟨he5, hw5⟩
  rw [hw5]
  refine ⟨_, he5, ?_⟩
  refine OpK.arith rfl rfl rfl ?_
  refine OpK.convInt (k := .i64) (k' := .u32) (by kernel_rfl) (by kernel_rfl) rfl ?_
  rw [show (IntKind.u32.wrap (IntKind.i64.wrap ((keys.length : Int) + ((V.tags tl).tagsOf.length : Int)))) = ((word (keys.length + tl.length) : Nat) : Int) from count_word _ _]
  refine OpK.asCall rfl calUv rfl (((hsnd.ok 32 .uv (by kernel_rfl)).2 wk (word (keys.length + tl.length)) d3 _ (word_lt _) hkw4.grew.own (by omega)).mono ?_)
  rintro en w5 ⟨d5, he5, hg5⟩
  refine ⟨_, he5, ?_⟩
  show CWL _ _ _ _ _ _
  have hkw5 := hkw4.more hg5
  generalize hpre : enc ver true sch6 (.st m) ++ uvar (word (keys.length + tl.length)) = pre at hkw5
  have hlp : pre.length + ((keys.flatMap (tagE xS xF)).length + (encEach tl).length) ≤ Lim := by rw [← hpre, List.length_append]; omega
  refine CWL.reg (ops := [(.call ⟨.builtin .len, #[.tmp 24], #[74]⟩, 3), (.move (.const (Go.Value.int Go.IntKind.i64 0)), 3)]) (b := [(114, 3), (113, 1), (112, 24)]) (by kernel_rfl) ?_
  refine OpK.len (e := 52) (by kernel_rfl) rfl ?_
  refine OpK.move ?_
  show CWL _ _ _ _ _ _
  refine CWL.cons (CW.block (CW.loop (fun mm σ wl => ∃ i d, mm + i = keys.length ∧ σ 0 = .pointer (some ⟨g, 0, none⟩) ∧ σ 1 = d ∧ σ 5 = .int .i16 ver ∧ σ 6 = .bool true ∧ σ 112 = .slice at_ keys.length ct ∧ σ 113 = .int .i64 (keys.length : Int) ∧ σ 114 = .int .i64 (i : Int) ∧
    KW 5 52 w (.slice at_ keys.length ct) keys wl d (pre ++ (keys.take i).flatMap (tagE xS xF))) keys.length
    ⟨0, d5, by simp, rfl, rfl, rfl, rfl, rfl, rfl, rfl, by simpa using hkw5⟩ ?_))
  rintro mm σ wl ⟨i, d, hmm, q0, q1, q5, q6, q112, q113, q114, hkw⟩
  refine CW.pin [(0, .pointer (some ⟨g, 0, none⟩)), (1, d), (5, .int .i16 ver), (6, .bool true), (112, .slice at_ keys.length ct), (113, .int .i64 (keys.length : Int)), (114, .int .i64 (i : Int))] (all_pinE q0 (all_pinE q1 (all_pinE q5 (all_pinE q6 (all_pinE q112 (all_pinE q113 (all_pinE q114 (fun _ h => by cases h)))))))) fun σ => ?_
  simp only [flat, List.cons_append, List.nil_append, List.append_nil]
  have hcwl := hkw.grew.new_ch
  have hswl := hcwl.size
  refine CWL.reg (ops := [(.binOp .lss 3 (.tmp 228) (.tmp 226) 3, 0)]) (b := [(115, 1)]) (by kernel_rfl) ?_
  refine OpK.cmp rfl rfl rfl ?_
  show CWL _ _ _ _ _ _
  by_cases hlt : i < keys.length
  · refine CWL.condT (congrArg Value.bool (decide_eq_true (by omega))) ?_
    simp only [flat, List.cons_append, List.nil_append, List.append_nil]
    refine CWL.block ?_
    simp only [flat, List.cons_append, List.nil_append, List.append_nil]
    obtain ⟨a1, c1, hsl, hkat1⟩ := hkw.keys.form
    cases hsl
    have hki : keys[i]? = some keys[i] := List.getElem?_eq_getElem hlt
    have hkmi := hkm keys[i] (List.getElem_mem hlt)
    generalize keys[i] = key at hki hkmi
    obtain ⟨a', rfl, hcell⟩ := hkat1 i key hki
    obtain ⟨htk, htl⟩ := flat_take hki (tagE xS xF)
    have hki32 : key < 4294967296 := by omega
    refine CWL.reg (ops := [(.indexAddr 74 (.tmp 224) (.tmp 228), 0), (.load 52 (.tmp 1), 52)]) (b := [(14, 3), (117, 3), (116, 1)]) (by kernel_rfl) ?_
    refine OpK.indexAddr (s := 1) (j := i) (by kernel_rfl) rfl rfl hlt ?_
    refine OpK.load (by kernel_rfl) rfl (hcell) ?_
    show CWL _ _ _ _ _ _
    refine CWL.reg (ops := []) (b := [(118, 28)]) (by kernel_rfl) ?_
    show CWL _ _ _ _ _ _
    refine CWL.block ?_
    simp only [flat, List.cons_append, List.nil_append, List.append_nil]
    refine CWL.reg (ops := [(.binOp .eql 52 (.tmp 236) (.const (Go.Value.int Go.IntKind.u32 0)) 52, 4)]) (b := [(119, 1), (120, 1)]) (by kernel_rfl) ?_
    refine OpK.cmp rfl rfl rfl ?_
    show CWL _ _ _ _ _ _
    by_cases hq0 : key = 0
    · refine CWL.condT (congrArg Value.bool (by rw [hq0]; rfl)) ?_
      simp only [flat, List.cons_append, List.nil_append, List.append_nil]
      have hB : tagE xS xF key = uvar 0 ++ uvar (word (encLen true false xS ++ xS.elems.flatMap (encW true .uuid)).length) ++ (encLen true false xS ++ xS.elems.flatMap (encW true .uuid)) := by rw [hq0]; rfl
      rw [hB] at htl
      generalize hBB : (encLen true false xS ++ xS.elems.flatMap (encW true .uuid)) = B at htl hB
      have hBS : (pre ++ (keys.take i).flatMap (tagE xS xF)).length = pre.length + ((keys.take i).flatMap (tagE xS xF)).length := List.length_append
      generalize hbs : (pre ++ (keys.take i).flatMap (tagE xS xF)) = bs at hkw hBS
      simp only [List.length_append] at htl
      have hup := uvar_pos (word B.length)
      have huk := uvar_pos 0
      refine CWL.cons (CW.scope 0 rfl (by decide +kernel) (by decide +kernel) (fun σ' w' => ∃ d2, σ' 0 = .pointer (some ⟨g, 0, none⟩) ∧ σ' 1 = d2 ∧ σ' 5 = .int .i16 ver ∧ σ' 6 = .bool true ∧ σ' 15 = .slice aS xS.elems.length ccS ∧ σ' 16 = .bool true ∧ σ' 17 = .int .i64 ((bs ++ uvar 0).length : Int) ∧ σ' 112 = .slice (some a') keys.length ct ∧ σ' 113 = .int .i64 (keys.length : Int) ∧ σ' 114 = .int .i64 (i : Int) ∧
        KW 5 52 w (.slice (some a') keys.length ct) keys w' d2 ((bs ++ uvar 0) ++ uvar (word B.length))) (CW.of_flat ?_) ?_)
      · simp only [flat, List.cons_append, List.nil_append, List.append_nil]
        refine CWL.reg (ops := [(.nilCheck (.tmp 0), 0), (.fieldAddr 61 (.tmp 1) 6, 0), (.load 56 (.tmp 3), 56)]) (b := [(15, 5), (124, 5), (123, 3), (122, 1), (121, 0)]) (by kernel_rfl) ?_
        refine OpK.nilCheck rfl ?_
        refine OpK.fieldAddr (off := 6) (by kernel_rfl) rfl ?_
        refine OpK.load (by kernel_rfl) rfl (hld wl hcwl 6 _ (hat4 0 _ rfl)) ?_
        show CWL _ _ _ _ _ _
        refine CWL.reg (ops := [(.call ⟨.value (.func 32), #[.tmp 2, .const (Go.Value.int Go.IntKind.u32 0)], #[22, 52]⟩, 22)]) (b := [(1, 1), (126, 1), (125, 2)]) (by kernel_rfl) ?_
        refine OpK.asCall rfl calUv rfl (((hsnd.ok 32 .uv (by kernel_rfl)).2 wl 0 d _ (by omega) hkw.grew.own (by omega)).mono ?_)
        rintro en w5 ⟨d5, he5, hg5⟩
        refine ⟨_, he5, ?_⟩
        show CWL _ _ _ _ _ _
        have hkw5 := hkw.more hg5
        obtain ⟨a5, cc5, rfl, hcc5, _⟩ := hkw5.grew.own.len
        refine CWL.reg (ops := [(.assign (.const (Go.Value.bool false)), 4)]) (b := [(16, 1)]) (by kernel_rfl) ?_
        refine OpK.assign ?_
        show CWL _ _ _ _ _ _
        refine CWL.reg (ops := [(.call ⟨.builtin .len, #[.tmp 2], #[22]⟩, 3)]) (b := [(17, 1), (128, 1), (127, 2)]) (by kernel_rfl) ?_
        refine OpK.len (e := 5) (by kernel_rfl) rfl ?_
        show CWL _ _ _ _ _ _
        refine CWL.cons (CW.label_ ?_)
        simp only [Then]
        refine CWL.pin [(0, .pointer (some ⟨g, 0, none⟩)), (1, .slice a5 (bs ++ uvar 0).length cc5), (5, .int .i16 ver), (6, .bool true), (15, .slice aS xS.elems.length ccS), (16, .bool false), (17, .int .i64 ((bs ++ uvar 0).length : Int)), (112, .slice (some a') keys.length ct), (113, .int .i64 (keys.length : Int)), (114, .int .i64 (i : Int))] (all_pinE rfl (all_pinE rfl (all_pinE rfl (all_pinE rfl (all_pinE rfl (all_pinE rfl (all_pinE rfl (all_pinE rfl (all_pinE rfl (all_pinE rfl (fun _ h => by cases h))))))))))) fun σ => ?_
        have hc5 := hkw5.grew.new_ch
        have hs5 := hc5.size
        refine arrTailU_use (x := ⟨5, some 6, 1⟩) (ver := ver) (fx := true) (tab := Snd.tab) (p := 0) (g := g) (o := 0) (s := 15) (nul := false) (L := [0, 5, 6, 15, 16, 17, 112, 113, 114]) (v := xS) 4 hsnd (S := fun k => k < w.heap.size) (w0 := w5) (d0 := .slice a5 (bs ++ uvar 0).length cc5) (fun k hk => ⟨by omega, fun h => by rcases hkw5.grew.blk k h with h1 | h1; (cases h1); omega⟩) (fun h => by cases h) (cs1 := [.slice aS xS.elems.length ccS]) (hrS.keep fun k hk => hc5.block k hk fun h => h) (by simp) (fun t ht => by cases ht; simp) (by simp) (by kernel_rfl) ⟨rfl, fun t ht => by cases ht; rfl, rfl⟩ rfl (Grew.refl hkw5.grew.own) (by rw [hBB]; simp only [List.length_append]; omega) ?_
        intro σ' w6 hg6 he
        rw [hBB] at hg6
        have hkw6 := hkw5.more hg6
        obtain ⟨d6, hd6⟩ : ∃ d6, σ' 1 = d6 := ⟨_, rfl⟩
        rw [hd6] at hkw6
        obtain ⟨a6, cc6, rfl, hcc6, _⟩ := hkw6.grew.own.len
        simp only [List.drop_succ_cons, List.drop_zero]
        refine CWL.pin [(0, .pointer (some ⟨g, 0, none⟩)), (1, .slice a6 ((bs ++ uvar 0) ++ B).length cc6), (5, .int .i16 ver), (6, .bool true), (15, .slice aS xS.elems.length ccS), (16, .bool false), (17, .int .i64 ((bs ++ uvar 0).length : Int)), (112, .slice (some a') keys.length ct), (113, .int .i64 (keys.length : Int)), (114, .int .i64 (i : Int))] (all_pinE ((he 0 (by simp)).trans rfl) (all_pinE hd6 (all_pinE ((he 5 (by simp)).trans rfl) (all_pinE ((he 6 (by simp)).trans rfl) (all_pinE ((he 15 (by simp)).trans rfl) (all_pinE ((he 16 (by simp)).trans rfl) (all_pinE ((he 17 (by simp)).trans rfl) (all_pinE ((he 112 (by simp)).trans rfl) (all_pinE ((he 113 (by simp)).trans rfl) (all_pinE ((he 114 (by simp)).trans rfl) (fun _ h => by cases h))))))))))) fun σ => ?_
        refine CWL.reg (ops := [(.unOp .not 4 (.tmp 32), 4)]) (b := [(152, 1), (151, 32)]) (by kernel_rfl) ?_
        refine OpK.not rfl ?_
        show CWL _ _ _ _ _ _
        refine CWL.condT rfl ?_
        simp only [flat, List.cons_append, List.nil_append, List.append_nil]
        have hkw6d : KW 5 52 w (.slice (some a') keys.length ct) keys w6.drew (.slice a6 (bs ++ uvar 0).length cc6) (bs ++ uvar 0) := by
          have := (hkw6.calm (Ch.drew _ _)).cut (j := (bs ++ uvar 0).length) (by simp only [List.length_append]; omega)
          rw [List.take_append_of_le_length (Nat.le_refl _), List.take_of_length_le (Nat.le_refl _)] at this
          exact this
        have hle6 : (bs ++ uvar 0).length ≤ ((bs ++ uvar 0) ++ B).length := by simp only [List.length_append]; omega
        refine CWL.regD mixed ((fun _ => True)) [(0, true), (1, true), (2, true), (3, true), (4, true), (5, true), (6, false), (7, true), (8, false), (9, true)] (by decide +kernel) (trivial) ?_
        refine HW.early rfl rfl (Yi.move) ?_
        refine HW.early rfl rfl (Yi.move) ?_
        refine HW.early rfl rfl (Yi.sliceTo (j := (bs ++ uvar 0).length) undOc oneOc rfl rfl (by omega)) ?_
        refine HW.early rfl rfl (Yi.move) ?_
        refine HW.early rfl rfl (Yi.move) ?_
        refine HW.early rfl rfl (Yi.sliceFrom (j := (bs ++ uvar 0).length) undOc oneOc rfl rfl hle6 hcc6) ?_
        refine HW.step (trivial) rfl rfl (OpK.len (e := 5) (by kernel_rfl) rfl ⟨rfl, rfl⟩) ?_
        refine HW.early rfl rfl (Yi.convInt (k' := .u32) (by kernel_rfl) (by kernel_rfl) rfl) ?_
        refine HW.next rfl rfl ?_
        refine OpK.asCall rfl calUv rfl ?_
        show Calls _ _ #[.slice a6 (bs ++ uvar 0).length cc6, .int .u32 (IntKind.u32.wrap ((((bs ++ uvar 0) ++ B).length - (bs ++ uvar 0).length : Nat) : Int))] _ _
        rw [show IntKind.u32.wrap ((((bs ++ uvar 0) ++ B).length - (bs ++ uvar 0).length : Nat) : Int) = ((word B.length : Nat) : Int) by rw [List.length_append, Nat.add_sub_cancel_left, IntKind.wrap_u32]; unfold word; omega]
        refine ((hsnd.ok 32 .uv (by kernel_rfl)).2 w6.drew (word B.length) (.slice a6 (bs ++ uvar 0).length cc6) _ (word_lt _) hkw6d.grew.own (by simp only [List.length_append]; omega)).mono ?_
        rintro en w7 ⟨d7, he7, hg7⟩
        refine ⟨_, he7, trivial, ?_⟩
        refine HW.early rfl rfl (Yi.assign) ?_
        refine HW.done ?_
        have hkw7 := hkw6d.more hg7
        refine CWL.reg (ops := [(.assign (.const (Go.Value.bool true)), 4)]) (b := [(16, 1)]) (by kernel_rfl) ?_
        refine OpK.assign ?_
        show CWL _ _ _ _ _ _
        exact CWL.cons (CW.goto_ ⟨rfl, _, rfl, rfl, rfl, rfl, rfl, rfl, rfl, rfl, rfl, rfl, hkw7⟩)
      · rintro σ w7 ⟨d7, p0, p1, p5, p6, pl, pz, pa, p162, p163, p164, hkw7⟩
        refine CW.pin [(0, .pointer (some ⟨g, 0, none⟩)), (1, d7), (5, .int .i16 ver), (6, .bool true), (15, .slice aS xS.elems.length ccS), (16, .bool true), (17, .int .i64 ((bs ++ uvar 0).length : Int)), (112, .slice (some a') keys.length ct), (113, .int .i64 (keys.length : Int)), (114, .int .i64 (i : Int))] (all_pinE p0 (all_pinE p1 (all_pinE p5 (all_pinE p6 (all_pinE pl (all_pinE pz (all_pinE pa (all_pinE p162 (all_pinE p163 (all_pinE p164 (fun _ h => by cases h))))))))))) fun σ => ?_
        simp only [flat, List.cons_append, List.nil_append, List.append_nil]
        have hc7 := hkw7.grew.new_ch
        have hs7 := hc7.size
        refine arrTailU_use (x := ⟨5, some 6, 1⟩) (ver := ver) (fx := true) (tab := Snd.tab) (p := 0) (g := g) (o := 0) (s := 15) (nul := false) (L := [0, 5, 6, 15, 16, 17, 112, 113, 114]) (v := xS) 4 hsnd (S := fun k => k < w.heap.size) (w0 := w7) (d0 := d7) (fun k hk => ⟨by omega, fun h => by rcases hkw7.grew.blk k h with h1 | h1; (cases h1); omega⟩) (fun h => by cases h) (cs1 := [.slice aS xS.elems.length ccS]) (hrS.keep fun k hk => hc7.block k hk fun h => h) (by simp) (fun t ht => by cases ht; simp) (by simp) (by kernel_rfl) ⟨rfl, fun t ht => by cases ht; rfl, rfl⟩ rfl (Grew.refl hkw7.grew.own) (by rw [hBB]; simp only [List.length_append]; omega) ?_
        intro σ' w8 hg8 he
        rw [hBB] at hg8
        have hkw8 := hkw7.more hg8
        obtain ⟨d8, hd6⟩ : ∃ d8, σ' 1 = d8 := ⟨_, rfl⟩
        rw [hd6] at hkw8
        simp only [List.drop_succ_cons, List.drop_zero]
        refine CWL.pin [(0, .pointer (some ⟨g, 0, none⟩)), (1, d8), (5, .int .i16 ver), (6, .bool true), (15, .slice aS xS.elems.length ccS), (16, .bool true), (17, .int .i64 ((bs ++ uvar 0).length : Int)), (112, .slice (some a') keys.length ct), (113, .int .i64 (keys.length : Int)), (114, .int .i64 (i : Int))] (all_pinE ((he 0 (by simp)).trans rfl) (all_pinE hd6 (all_pinE ((he 5 (by simp)).trans rfl) (all_pinE ((he 6 (by simp)).trans rfl) (all_pinE ((he 15 (by simp)).trans rfl) (all_pinE ((he 16 (by simp)).trans rfl) (all_pinE ((he 17 (by simp)).trans rfl) (all_pinE ((he 112 (by simp)).trans rfl) (all_pinE ((he 113 (by simp)).trans rfl) (all_pinE ((he 114 (by simp)).trans rfl) (fun _ h => by cases h))))))))))) fun σ => ?_
        refine CWL.reg (ops := [(.unOp .not 4 (.tmp 32), 4)]) (b := [(152, 1), (151, 32)]) (by kernel_rfl) ?_
        refine OpK.not rfl ?_
        show CWL _ _ _ _ _ _
        refine CWL.condF rfl ?_
        simp only [flat, List.cons_append, List.nil_append, List.append_nil]
        show CWL _ _ _ _ _ _
        try refine CWL.nil_ (P := Tryz.prog) (n := 0) ?_
        show CWL _ _ _ _ _ _
        refine CWL.reg (ops := [(.binOp .add 3 (.tmp 228) (.const (Go.Value.int Go.IntKind.i64 1)) 3, 3)]) (b := [(114, 1), (209, 1)]) (by kernel_rfl) ?_
        refine OpK.arith rfl rfl rfl ?_
        show CWL _ _ _ _ _ _
        try refine CWL.nil_ (P := Tryz.prog) (n := 0) ?_
        refine ⟨mm - 1, by omega, i + 1, d8, by omega, rfl, rfl, rfl, rfl, rfl, rfl, ?_, ?_⟩
        · show Value.int .i64 (IntKind.i64.wrap ((i : Int) + 1)) = _
          congr 1
          rw [IntKind.wrap_i64]
          omega
        · rw [htk, ← List.append_assoc pre, hbs, hB]
          simp only [List.append_assoc] at hkw8 ⊢
          exact hkw8
    refine CWL.condF (congrArg Value.bool (by simp; omega)) ?_
    simp only [flat, List.cons_append, List.nil_append, List.append_nil]
    refine CWL.reg (ops := [(.binOp .eql 52 (.tmp 236) (.const (Go.Value.int Go.IntKind.u32 1)) 52, 4)]) (b := [(162, 1), (163, 1)]) (by kernel_rfl) ?_
    refine OpK.cmp rfl rfl rfl ?_
    show CWL _ _ _ _ _ _
    have hq1 : key = 1 := by omega
    refine CWL.condT (congrArg Value.bool (by rw [hq1]; rfl)) ?_
    simp only [flat, List.cons_append, List.nil_append, List.append_nil]
    have hB : tagE xS xF key = uvar 1 ++ uvar (word (encLen true true xF ++ xF.elems.flatMap (encW true .uuid)).length) ++ (encLen true true xF ++ xF.elems.flatMap (encW true .uuid)) := by rw [hq1]; rfl
    rw [hB] at htl
    generalize hBB : (encLen true true xF ++ xF.elems.flatMap (encW true .uuid)) = B at htl hB
    have hBS : (pre ++ (keys.take i).flatMap (tagE xS xF)).length = pre.length + ((keys.take i).flatMap (tagE xS xF)).length := List.length_append
    generalize hbs : (pre ++ (keys.take i).flatMap (tagE xS xF)) = bs at hkw hBS
    simp only [List.length_append] at htl
    have hup := uvar_pos (word B.length)
    have huk := uvar_pos 1
    refine CWL.cons (CW.scope 1 rfl (by decide +kernel) (by decide +kernel) (fun σ' w' => ∃ d2, σ' 0 = .pointer (some ⟨g, 0, none⟩) ∧ σ' 1 = d2 ∧ σ' 5 = .int .i16 ver ∧ σ' 6 = .bool true ∧ σ' 20 = .slice aF xF.elems.length ccF ∧ σ' 21 = .bool true ∧ σ' 22 = .int .i64 ((bs ++ uvar 1).length : Int) ∧ σ' 112 = .slice (some a') keys.length ct ∧ σ' 113 = .int .i64 (keys.length : Int) ∧ σ' 114 = .int .i64 (i : Int) ∧
      KW 5 52 w (.slice (some a') keys.length ct) keys w' d2 ((bs ++ uvar 1) ++ uvar (word B.length))) (CW.of_flat ?_) ?_)
    · simp only [flat, List.cons_append, List.nil_append, List.append_nil]
      refine CWL.reg (ops := [(.nilCheck (.tmp 0), 0), (.fieldAddr 61 (.tmp 1) 7, 0), (.load 56 (.tmp 3), 56)]) (b := [(20, 5), (167, 5), (166, 3), (165, 1), (164, 0)]) (by kernel_rfl) ?_
      refine OpK.nilCheck rfl ?_
      refine OpK.fieldAddr (off := 7) (by kernel_rfl) rfl ?_
      refine OpK.load (by kernel_rfl) rfl (hld wl hcwl 7 _ (hat4 1 _ rfl)) ?_
      show CWL _ _ _ _ _ _
      refine CWL.reg (ops := [(.call ⟨.value (.func 32), #[.tmp 2, .const (Go.Value.int Go.IntKind.u32 1)], #[22, 52]⟩, 22)]) (b := [(1, 1), (169, 1), (168, 2)]) (by kernel_rfl) ?_
      refine OpK.asCall rfl calUv rfl (((hsnd.ok 32 .uv (by kernel_rfl)).2 wl 1 d _ (by omega) hkw.grew.own (by omega)).mono ?_)
      rintro en w5 ⟨d5, he5, hg5⟩
      refine ⟨_, he5, ?_⟩
      show CWL _ _ _ _ _ _
      have hkw5 := hkw.more hg5
      obtain ⟨a5, cc5, rfl, hcc5, _⟩ := hkw5.grew.own.len
      refine CWL.reg (ops := [(.assign (.const (Go.Value.bool false)), 4)]) (b := [(21, 1)]) (by kernel_rfl) ?_
      refine OpK.assign ?_
      show CWL _ _ _ _ _ _
      refine CWL.reg (ops := [(.call ⟨.builtin .len, #[.tmp 2], #[22]⟩, 3)]) (b := [(22, 1), (171, 1), (170, 2)]) (by kernel_rfl) ?_
      refine OpK.len (e := 5) (by kernel_rfl) rfl ?_
      show CWL _ _ _ _ _ _
      refine CWL.cons (CW.label_ ?_)
      simp only [Then]
      refine CWL.pin [(0, .pointer (some ⟨g, 0, none⟩)), (1, .slice a5 (bs ++ uvar 1).length cc5), (5, .int .i16 ver), (6, .bool true), (20, .slice aF xF.elems.length ccF), (21, .bool false), (22, .int .i64 ((bs ++ uvar 1).length : Int)), (112, .slice (some a') keys.length ct), (113, .int .i64 (keys.length : Int)), (114, .int .i64 (i : Int))] (all_pinE rfl (all_pinE rfl (all_pinE rfl (all_pinE rfl (all_pinE rfl (all_pinE rfl (all_pinE rfl (all_pinE rfl (all_pinE rfl (all_pinE rfl (fun _ h => by cases h))))))))))) fun σ => ?_
      have hc5 := hkw5.grew.new_ch
      have hs5 := hc5.size
      refine arrTailU_use (x := ⟨5, some 6, 1⟩) (ver := ver) (fx := true) (tab := Snd.tab) (p := 0) (g := g) (o := 0) (s := 20) (nul := true) (L := [0, 5, 6, 20, 21, 22, 112, 113, 114]) (v := xF) 4 hsnd (S := fun k => k < w.heap.size) (w0 := w5) (d0 := .slice a5 (bs ++ uvar 1).length cc5) (fun k hk => ⟨by omega, fun h => by rcases hkw5.grew.blk k h with h1 | h1; (cases h1); omega⟩) (fun h => by cases h) (cs1 := [.slice aF xF.elems.length ccF]) (hrF.keep fun k hk => hc5.block k hk fun h => h) (by simp) (fun t ht => by cases ht; simp) (by simp) (by kernel_rfl) ⟨rfl, fun t ht => by cases ht; rfl, rfl⟩ rfl (Grew.refl hkw5.grew.own) (by rw [hBB]; simp only [List.length_append]; omega) ?_
      intro σ' w6 hg6 he
      rw [hBB] at hg6
      have hkw6 := hkw5.more hg6
      obtain ⟨d6, hd6⟩ : ∃ d6, σ' 1 = d6 := ⟨_, rfl⟩
      rw [hd6] at hkw6
      obtain ⟨a6, cc6, rfl, hcc6, _⟩ := hkw6.grew.own.len
      simp only [List.drop_succ_cons, List.drop_zero]
      refine CWL.pin [(0, .pointer (some ⟨g, 0, none⟩)), (1, .slice a6 ((bs ++ uvar 1) ++ B).length cc6), (5, .int .i16 ver), (6, .bool true), (20, .slice aF xF.elems.length ccF), (21, .bool false), (22, .int .i64 ((bs ++ uvar 1).length : Int)), (112, .slice (some a') keys.length ct), (113, .int .i64 (keys.length : Int)), (114, .int .i64 (i : Int))] (all_pinE ((he 0 (by simp)).trans rfl) (all_pinE hd6 (all_pinE ((he 5 (by simp)).trans rfl) (all_pinE ((he 6 (by simp)).trans rfl) (all_pinE ((he 20 (by simp)).trans rfl) (all_pinE ((he 21 (by simp)).trans rfl) (all_pinE ((he 22 (by simp)).trans rfl) (all_pinE ((he 112 (by simp)).trans rfl) (all_pinE ((he 113 (by simp)).trans rfl) (all_pinE ((he 114 (by simp)).trans rfl) (fun _ h => by cases h))))))))))) fun σ => ?_
      refine CWL.reg (ops := [(.unOp .not 4 (.tmp 42), 4)]) (b := [(199, 1), (198, 42)]) (by kernel_rfl) ?_
      refine OpK.not rfl ?_
      show CWL _ _ _ _ _ _
      refine CWL.condT rfl ?_
      simp only [flat, List.cons_append, List.nil_append, List.append_nil]
      have hkw6d : KW 5 52 w (.slice (some a') keys.length ct) keys w6.drew (.slice a6 (bs ++ uvar 1).length cc6) (bs ++ uvar 1) := by
        have := (hkw6.calm (Ch.drew _ _)).cut (j := (bs ++ uvar 1).length) (by simp only [List.length_append]; omega)
        rw [List.take_append_of_le_length (Nat.le_refl _), List.take_of_length_le (Nat.le_refl _)] at this
        exact this
      have hle6 : (bs ++ uvar 1).length ≤ ((bs ++ uvar 1) ++ B).length := by simp only [List.length_append]; omega
      refine CWL.regD mixed ((fun _ => True)) [(0, true), (1, true), (2, true), (3, true), (4, true), (5, true), (6, false), (7, true), (8, false), (9, true)] (by decide +kernel) (trivial) ?_
      refine HW.early rfl rfl (Yi.move) ?_
      refine HW.early rfl rfl (Yi.move) ?_
      refine HW.early rfl rfl (Yi.sliceTo (j := (bs ++ uvar 1).length) undOc oneOc rfl rfl (by omega)) ?_
      refine HW.early rfl rfl (Yi.move) ?_
      refine HW.early rfl rfl (Yi.move) ?_
      refine HW.early rfl rfl (Yi.sliceFrom (j := (bs ++ uvar 1).length) undOc oneOc rfl rfl hle6 hcc6) ?_
      refine HW.step (trivial) rfl rfl (OpK.len (e := 5) (by kernel_rfl) rfl ⟨rfl, rfl⟩) ?_
      refine HW.early rfl rfl (Yi.convInt (k' := .u32) (by kernel_rfl) (by kernel_rfl) rfl) ?_
      refine HW.next rfl rfl ?_
      refine OpK.asCall rfl calUv rfl ?_
      show Calls _ _ #[.slice a6 (bs ++ uvar 1).length cc6, .int .u32 (IntKind.u32.wrap ((((bs ++ uvar 1) ++ B).length - (bs ++ uvar 1).length : Nat) : Int))] _ _
      rw [show IntKind.u32.wrap ((((bs ++ uvar 1) ++ B).length - (bs ++ uvar 1).length : Nat) : Int) = ((word B.length : Nat) : Int) by rw [List.length_append, Nat.add_sub_cancel_left, IntKind.wrap_u32]; unfold word; omega]
      refine ((hsnd.ok 32 .uv (by kernel_rfl)).2 w6.drew (word B.length) (.slice a6 (bs ++ uvar 1).length cc6) _ (word_lt _) hkw6d.grew.own (by simp only [List.length_append]; omega)).mono ?_
      rintro en w7 ⟨d7, he7, hg7⟩
      refine ⟨_, he7, trivial, ?_⟩
      refine HW.early rfl rfl (Yi.assign) ?_
      refine HW.done ?_
      have hkw7 := hkw6d.more hg7
      refine CWL.reg (ops := [(.assign (.const (Go.Value.bool true)), 4)]) (b := [(21, 1)]) (by kernel_rfl) ?_
      refine OpK.assign ?_
      show CWL _ _ _ _ _ _
      exact CWL.cons (CW.goto_ ⟨rfl, _, rfl, rfl, rfl, rfl, rfl, rfl, rfl, rfl, rfl, rfl, hkw7⟩)
    · rintro σ w7 ⟨d7, p0, p1, p5, p6, pl, pz, pa, p162, p163, p164, hkw7⟩
      refine CW.pin [(0, .pointer (some ⟨g, 0, none⟩)), (1, d7), (5, .int .i16 ver), (6, .bool true), (20, .slice aF xF.elems.length ccF), (21, .bool true), (22, .int .i64 ((bs ++ uvar 1).length : Int)), (112, .slice (some a') keys.length ct), (113, .int .i64 (keys.length : Int)), (114, .int .i64 (i : Int))] (all_pinE p0 (all_pinE p1 (all_pinE p5 (all_pinE p6 (all_pinE pl (all_pinE pz (all_pinE pa (all_pinE p162 (all_pinE p163 (all_pinE p164 (fun _ h => by cases h))))))))))) fun σ => ?_
      simp only [flat, List.cons_append, List.nil_append, List.append_nil]
      have hc7 := hkw7.grew.new_ch
      have hs7 := hc7.size
      refine arrTailU_use (x := ⟨5, some 6, 1⟩) (ver := ver) (fx := true) (tab := Snd.tab) (p := 0) (g := g) (o := 0) (s := 20) (nul := true) (L := [0, 5, 6, 20, 21, 22, 112, 113, 114]) (v := xF) 4 hsnd (S := fun k => k < w.heap.size) (w0 := w7) (d0 := d7) (fun k hk => ⟨by omega, fun h => by rcases hkw7.grew.blk k h with h1 | h1; (cases h1); omega⟩) (fun h => by cases h) (cs1 := [.slice aF xF.elems.length ccF]) (hrF.keep fun k hk => hc7.block k hk fun h => h) (by simp) (fun t ht => by cases ht; simp) (by simp) (by kernel_rfl) ⟨rfl, fun t ht => by cases ht; rfl, rfl⟩ rfl (Grew.refl hkw7.grew.own) (by rw [hBB]; simp only [List.length_append]; omega) ?_
      intro σ' w8 hg8 he
      rw [hBB] at hg8
      have hkw8 := hkw7.more hg8
      obtain ⟨d8, hd6⟩ : ∃ d8, σ' 1 = d8 := ⟨_, rfl⟩
      rw [hd6] at hkw8
      simp only [List.drop_succ_cons, List.drop_zero]
      refine CWL.pin [(0, .pointer (some ⟨g, 0, none⟩)), (1, d8), (5, .int .i16 ver), (6, .bool true), (20, .slice aF xF.elems.length ccF), (21, .bool true), (22, .int .i64 ((bs ++ uvar 1).length : Int)), (112, .slice (some a') keys.length ct), (113, .int .i64 (keys.length : Int)), (114, .int .i64 (i : Int))] (all_pinE ((he 0 (by simp)).trans rfl) (all_pinE hd6 (all_pinE ((he 5 (by simp)).trans rfl) (all_pinE ((he 6 (by simp)).trans rfl) (all_pinE ((he 20 (by simp)).trans rfl) (all_pinE ((he 21 (by simp)).trans rfl) (all_pinE ((he 22 (by simp)).trans rfl) (all_pinE ((he 112 (by simp)).trans rfl) (all_pinE ((he 113 (by simp)).trans rfl) (all_pinE ((he 114 (by simp)).trans rfl) (fun _ h => by cases h))))))))))) fun σ => ?_
      refine CWL.reg (ops := [(.unOp .not 4 (.tmp 42), 4)]) (b := [(199, 1), (198, 42)]) (by kernel_rfl) ?_
      refine OpK.not rfl ?_
      show CWL _ _ _ _ _ _
      refine CWL.condF rfl ?_
      simp only [flat, List.cons_append, List.nil_append, List.append_nil]
      show CWL _ _ _ _ _ _
      try refine CWL.nil_ (P := Tryz.prog) (n := 0) ?_
      show CWL _ _ _ _ _ _
      refine CWL.reg (ops := [(.binOp .add 3 (.tmp 228) (.const (Go.Value.int Go.IntKind.i64 1)) 3, 3)]) (b := [(114, 1), (209, 1)]) (by kernel_rfl) ?_
      refine OpK.arith rfl rfl rfl ?_
      show CWL _ _ _ _ _ _
      try refine CWL.nil_ (P := Tryz.prog) (n := 0) ?_
      refine ⟨mm - 1, by omega, i + 1, d8, by omega, rfl, rfl, rfl, rfl, rfl, rfl, ?_, ?_⟩
      · show Value.int .i64 (IntKind.i64.wrap ((i : Int) + 1)) = _
        congr 1
        rw [IntKind.wrap_i64]
        omega
      · rw [htk, ← List.append_assoc pre, hbs, hB]
        simp only [List.append_assoc] at hkw8 ⊢
        exact hkw8
  · refine CWL.condF (congrArg Value.bool (decide_eq_false (by omega))) ?_
    simp only [flat, List.cons_append, List.nil_append, List.append_nil]
    refine CWL.cons (CW.exit ?_)
    show CWL _ _ _ _ _ _
    rw [List.take_of_length_le (by omega)] at hkw
    have hrtl := hrt.keepMono (w' := wl) (S' := fun k => k < w.heap.size) (fun k hk => hcwl.block k hk fun h => h) (fun k hk => hk)
    have htagl : Is wl (fun k => k < w.heap.size) g 8 .tags (.tags tl) := ⟨[c], hrtl, fun j x hj => by
      cases j with
      | zero => simp only [List.getElem?_cons_zero, Option.some.injEq] at hj; subst hj; exact hld wl hcwl 8 _ (hat4 2 _ rfl)
      | succ j => simp at hj⟩
    refine CWL.reg (ops := [(.nilCheck (.tmp 0), 0), (.fieldAddr 61 (.tmp 1) 8, 0), (.call ⟨.value (.func 39), #[.tmp 3, .tmp 2], #[59, 22]⟩, 22)]) (b := [(1, 5), (214, 5), (213, 2), (212, 3), (211, 1), (210, 0)]) (by kernel_rfl) ?_
    refine OpK.nilCheck rfl ?_
    refine OpK.fieldAddr (off := 8) (by kernel_rfl) rfl ?_
    refine OpK.asCall rfl calTe rfl (((hsnd.ok 39 .teach (by kernel_rfl)).2 wl (fun k => k < w.heap.size) g 8 (.tags tl) d _ (.inl rfl) htagl hg hkw.grew.own (fun k hk => ⟨by have := hcwl.size; omega, fun h => by rcases hkw.grew.blk k h with h1 | h1; (cases h1); omega⟩) (by rw [List.length_append]; show _ + (encEach tl).length ≤ _; omega)).mono ?_)
    rintro en w6 ⟨d6, he6, hg6⟩
    refine ⟨_, he6, ?_⟩
    show CWL _ _ _ _ _ _
    show CWL _ _ _ _ _ _
    refine CWL.reg (ops := []) (b := [(4, 2), (215, 2)]) (by kernel_rfl) ?_
    show CWL _ _ _ _ _ _
    refine CWL.ret ?_
    refine ⟨_, rfl, ?_⟩
    have := hkw.grew.trans hg6
    rw [← hpre] at this
    simp only [List.append_assoc] at this ⊢
    exact this

end Go.Proofs.YtkgelojkhmjhkaaGreatDoor.BrokerHeartbeatRequest
