/- The message ApiVersionsResponse: it is written so. -/
import Derived.Test.YtkgelojkhmjhkaaDoorKxTgW
import Derived.Test.YtkgelojkhmjhkaaDoorKxKnS
import Derived.Test.YtkgelojkhmjhkaaDoorKxKnW
namespace Go.Proofs.YtkgelojkhmjhkaaDoor.ApiVersionsResponse
open Go.Kx Go.RowKit Go.Proofs
set_option maxRecDepth 100000
set_option linter.unusedSimpArgs false
set_option linter.unusedVariables false

theorem undKk : Tryd.prog.underlying 55 = some (.slice 53) := by kernel_rfl
theorem u32 : U32 Tryd.prog 53 := by unfold U32; kernel_rfl
theorem undBo : Tryd.prog.underlying 4 = some .bool := by kernel_rfl
theorem undOc : Tryd.prog.underlying 22 = some (.slice 5) := by kernel_rfl
theorem oneOc : (Tryd.prog.info? 5).map (·.size) = some 1 := by kernel_rfl
theorem mixed : Tryd.prog.follows .mixedOrders = true := by kernel_rfl
theorem calUv : Callable Tryd.prog 18 := ⟨Tryd.f18, Tryd.func18, by kernel_rfl, by kernel_rfl⟩
theorem calAi : Callable Tryd.prog 24 := ⟨Tryd.f24, Tryd.func24, by kernel_rfl, by kernel_rfl⟩
theorem calAb : Callable Tryd.prog 25 := ⟨Tryd.f25, Tryd.func25, by kernel_rfl, by kernel_rfl⟩
theorem calTl : Callable Tryd.prog 19 := ⟨Tryd.f19, Tryd.func19, by kernel_rfl, by kernel_rfl⟩
theorem calTe : Callable Tryd.prog 20 := ⟨Tryd.f20, Tryd.func20, by kernel_rfl, by kernel_rfl⟩
/-! ### What is written of the tags -/
def tagB (ver : Int) (xS : V) (e : Int) (xF : V) (z : Bool) : Nat → List UInt8
  | 0 => encLen true false xS ++ xS.elems.flatMap (enc ver true fS)
  | 1 => encW true .i64 (.i e)
  | 2 => encLen true false xF ++ xF.elems.flatMap (enc ver true fS)
  | 3 => encW true .bool (.b z)
  | _ => []
def tagE (ver : Int) (xS : V) (e : Int) (xF : V) (z : Bool) (k : Nat) : List UInt8 := encTag (k, tagB ver xS e xF z k)
def keysOf (xS : V) (e : Int) (xF : V) (z : Bool) : List Nat := ((([] ++ (if xS.elems.length > 0 then [0] else [])) ++ (if e ≠ -1 then [1] else [])) ++ (if xF.elems.length > 0 then [2] else [])) ++ (if z = true then [3] else [])
theorem keys_mem {xS : V} {e : Int} {xF : V} {z : Bool} {k : Nat} (h : k ∈ keysOf xS e xF z) : k = 0 ∨ k = 1 ∨ k = 2 ∨ k = 3 := by
  unfold keysOf at h
  simp only [List.nil_append, List.mem_append] at h
  rcases h with ((h | h) | h) | h
  all_goals (split at h <;> simp at h)
  · exact .inl h
  · exact .inr (.inl h)
  · exact .inr (.inr (.inl h))
  · exact .inr (.inr (.inr h))
theorem keys_len (xS : V) (e : Int) (xF : V) (z : Bool) : (keysOf xS e xF z).length ≤ 4 := by
  unfold keysOf
  simp only [List.length_append, List.length_nil]
  have h : ∀ (p : Prop) [Decidable p] (k : Nat), (if p then [k] else []).length ≤ 1 := fun p _ k => by split <;> simp
  have := h (xS.elems.length > 0) 0
  have := h (e ≠ -1) 1
  have := h (xF.elems.length > 0) 2
  have := h (z = true) 3
  omega
theorem keys_pre0 (xS : V) (e : Int) (xF : V) : ([] : List Nat).length ≤ 4 := by simp
theorem one_le (p : Prop) [Decidable p] (k : Nat) : (if p then [k] else []).length ≤ 1 := by split <;> simp
theorem keys_pre1 (xS : V) (e : Int) (xF : V) : ([] ++ (if xS.elems.length > 0 then [0] else [])).length ≤ 4 := by
  have := one_le (xS.elems.length > 0) 0
  simp only [List.length_append, List.length_nil]
  omega
theorem keys_pre2 (xS : V) (e : Int) (xF : V) : (([] ++ (if xS.elems.length > 0 then [0] else [])) ++ (if e ≠ -1 then [1] else [])).length ≤ 4 := by
  have := one_le (xS.elems.length > 0) 0
  have := one_le (e ≠ -1) 1
  simp only [List.length_append, List.length_nil]
  omega
theorem keys_pre3 (xS : V) (e : Int) (xF : V) : ((([] ++ (if xS.elems.length > 0 then [0] else [])) ++ (if e ≠ -1 then [1] else [])) ++ (if xF.elems.length > 0 then [2] else [])).length ≤ 4 := by
  have := one_le (xS.elems.length > 0) 0
  have := one_le (e ≠ -1) 1
  have := one_le (xF.elems.length > 0) 2
  simp only [List.length_append, List.length_nil]
  omega
theorem tag_E (ver : Int) (xS : V) (e : Int) (xF : V) (z : Bool) : tagE ver xS e xF z 1 = uvar 1 ++ uvar 8 ++ encW false .i64 (.i e) := by
  unfold tagE encTag tagB
  have h : (encW true .i64 (.i e)).length = 8 := be_length 8 e
  simp only [h]
  rfl
theorem tag_Z (ver : Int) (xS : V) (e : Int) (xF : V) (z : Bool) : tagE ver xS e xF z 3 = uvar 3 ++ uvar 1 ++ encW false .bool (.b z) := by
  unfold tagE encTag tagB
  cases z <;> rfl
theorem enc_kt {ver : Int} {m : List V} (hm : m.length = 4) {xS xF : V} {e : Int} {z : Bool} {tl : List (Nat × List UInt8)} :
    enc ver true (.ktags 8 kt .nil) (mkA m xS e xF z tl) = uvar (word ((keysOf xS e xF z).length + tl.length)) ++ ((keysOf xS e xF z).flatMap (tagE ver xS e xF z) ++ encEach tl) := by
  obtain ⟨a4, a5, a6, a7, a8, ah⟩ := fldA (xS := xS) (xF := xF) (e := e) (z := z) (tl := tl) hm
  have hE : ∀ l : List V, (!l.isEmpty) = decide (l.length > 0) := fun l => by cases l <;> rfl
  simp only [enc, if_true, kt, lS, lF, ktN, Pc.ok, Vc.ok, a4, a5, a6, a7, a8, V.tagsOf, List.append_nil, hE, Option.isSome]
  unfold keysOf
  by_cases h1 : xS.elems.length > 0 <;> by_cases h2 : e = -1 <;> by_cases h3 : xF.elems.length > 0 <;> cases z <;>
    simp [h1, h2, h3, tagE, tagB, Ne.symm, bne, BEq.comm, eq_comm (a := (-1 : Int))]
theorem flat_take {ks : List Nat} {i k : Nat} (h : ks[i]? = some k) (f : Nat → List UInt8) : (ks.take (i + 1)).flatMap f = (ks.take i).flatMap f ++ f k ∧ ((ks.take i).flatMap f).length + (f k).length ≤ (ks.flatMap f).length := by
  have h1 : (ks.take (i + 1)).flatMap f = (ks.take i).flatMap f ++ f k := by rw [List.take_add_one, h]; simp
  refine ⟨h1, ?_⟩
  have h2 : ks.flatMap f = (ks.take (i + 1)).flatMap f ++ (ks.drop (i + 1)).flatMap f := by rw [← List.flatMap_append, List.take_append_drop]
  rw [h2, h1, List.length_append, List.length_append]
  omega
theorem rep_inv {w : World} {D : Nat → Prop} {v : V} {cells : List Value} (h : Rep w D T v cells) : ∃ m c4 xS cS e xF cF z tl c, v = mkA m xS e xF z tl ∧ cells = c4 ++ [cS, .int .i64 e, cF, .bool z, c] ∧ m.length = 4 ∧ c4.length = 4 ∧ Rep w D (.arr eS) xS [cS] ∧ IntKind.i64.wrap e = e ∧ Rep w D (.arr eF) xF [cF] ∧ Rep w D .tags (.tags tl) [c] := by
  cases v <;> simp only [T, Rep] at h
  obtain ⟨a0, l0, x0, y0, h1, rfl, g0, r0, h⟩ := h
  cases h1
  obtain ⟨a1, l1, x1, y1, h1, rfl, g1, r1, h⟩ := h
  cases h1
  obtain ⟨a2, l2, x2, y2, h1, rfl, g2, r2, h⟩ := h
  cases h1
  obtain ⟨a3, l3, x3, y3, h1, rfl, g3, r3, h⟩ := h
  cases h1
  obtain ⟨a4, l4, x4, y4, h1, rfl, g4, r4, h⟩ := h
  cases h1
  obtain ⟨a5, l5, x5, y5, h1, rfl, g5, r5, h⟩ := h
  cases h1
  obtain ⟨a6, l6, x6, y6, h1, rfl, g6, r6, h⟩ := h
  cases h1
  obtain ⟨a7, l7, x7, y7, h1, rfl, g7, r7, h⟩ := h
  cases h1
  obtain ⟨a8, l8, x8, y8, h1, rfl, g8, r8, h⟩ := h
  cases h1
  obtain ⟨rfl, rfl⟩ := h
  obtain ⟨c4, rfl⟩ := List.length_eq_one_iff.1 (show x4.length = 1 from g4)
  obtain ⟨c6, rfl⟩ := List.length_eq_one_iff.1 (show x6.length = 1 from g6)
  obtain ⟨c8, rfl⟩ := List.length_eq_one_iff.1 (show x8.length = 1 from g8)
  obtain ⟨e, rfl, rfl, he⟩ : ∃ n, a5 = .i n ∧ x5 = [.int .i64 n] ∧ IntKind.i64.wrap n = n := by
    cases a5 <;> simp only [Rep] at r5
    exact ⟨_, rfl, r5.1, r5.2⟩
  obtain ⟨z, rfl, rfl⟩ : ∃ n, a7 = .b n ∧ x7 = [.bool n] := by
    cases a7 <;> simp only [Rep] at r7
    exact ⟨_, rfl, r7⟩
  obtain ⟨tl, rfl⟩ : ∃ n, a8 = .tags n := by
    cases a8 <;> simp only [Rep] at r8
    exact ⟨_, rfl⟩
  have e0 : x0.length = 1 := g0
  have e1 : x1.length = 1 := g1
  have e2 : x2.length = 1 := g2
  have e3 : x3.length = 1 := g3
  exact ⟨[a0, a1, a2, a3], x0 ++ (x1 ++ (x2 ++ x3)), a4, c4, e, a6, c6, z, tl, c8, rfl, by simp, rfl, by simp [e0, e1, e2, e3], r4, he, r6, r8⟩

set_option maxHeartbeats 16000000 in
theorem writeIs (hsort : SortIs Tryd.prog 57 58 55 53) {w : World} {g : Nat} {v : V} {ver : Int} (hi : Is w (fun k => k < w.heap.size) g 0 T v) (hg : g < w.heap.size) (hver : v.fld 0 = .i ver) (hl : (enc ver (flexAt (some 3) ver) sch v).length ≤ Lim) :
    Calls Tryd.prog 12 #[.pointer (some ⟨g, 0, none⟩), .slice none 0 0] w fun en w' => ∃ d', en = .returned d' ∧ Grew 5 w (.slice none 0 0) w' d' (enc ver (flexAt (some 3) ver) sch v) := by
  have hsnd := TgW.sound1 hsort
  generalize hfx : flexAt (some 3) ver = fx at hl ⊢
  have hfx' : decide (ver ≥ 3) = fx := hfx
  rw [sch, enc_cat] at hl ⊢
  rw [List.length_append] at hl
  refine preAP_use (m := 3) (s := sch4) (T := T) (vr := 5) (fl := 6) (tab := Snd.tab) (R := fun d' w' => Grew 5 w (.slice none 0 0) w' d' (enc ver fx sch4 v ++ enc ver fx (.ktags 8 kt .nil) v)) (hbody := rfl) 14 hsnd Tryd.func12 (by kernel_rfl) (S := fun k => k < w.heap.size) (g := g) (o := 0) (v := v) (ver := ver) (d := .slice none 0 0) (bs := [])
    (.inl rfl) hi hg hver (Own.nil _ w) (fun k hk => ⟨hk, by simp [Value.ownBlock]⟩) (by rw [hfx', List.length_nil, Nat.zero_add]; exact Nat.le_trans (Nat.le_add_right _ _) hl) ?_
  obtain ⟨cells, hrep, hat⟩ := hi
  obtain ⟨m, c4, xS, cS, e, xF, cF, z, tl, c, rfl, rfl, hm, h4l, hrS, he, hrF, hrt⟩ := rep_inv hrep
  obtain ⟨aS, ccS, hcS, _⟩ := rep_arr hrS
  obtain ⟨aF, ccF, hcF, _⟩ := rep_arr hrF
  obtain rfl : cS = .slice aS xS.elems.length ccS := hcS
  obtain rfl : cF = .slice aF xF.elems.length ccF := hcF
  intro σ w3 hg3 hp hv hf
  rw [hfx'] at hg3 hf
  rw [List.nil_append] at hg3
  obtain ⟨d3, hd3⟩ : ∃ d3, σ 1 = d3 := ⟨_, rfl⟩
  rw [hd3] at hg3
  simp only [flat, List.cons_append, List.nil_append, List.append_nil, List.drop_succ_cons, List.drop_zero]
  refine CWL.pin [(0, .pointer (some ⟨g, 0, none⟩)), (1, d3), (5, .int .i16 ver), (6, .bool fx)] (all_pinE hp (all_pinE hd3 (all_pinE hv (all_pinE hf (fun _ h => by cases h))))) fun σ => ?_
  have hc3 := hg3.new_ch
  have hld : ∀ w', Ch (fun _ => False) w w' → ∀ i u, (c4 ++ [.slice aS xS.elems.length ccS, .int .i64 e, .slice aF xF.elems.length ccF, .bool z, c])[i]? = some u → w'.cell? ⟨g, i, none⟩ = some u := fun w' hc i u hu => by
    have h1 := hat i u hu
    rw [Nat.zero_add] at h1
    exact (World.cell?_of_block (hc.block g hg fun h => h)).trans h1
  have hat4 : ∀ j u, [Value.slice aS xS.elems.length ccS, .int .i64 e, .slice aF xF.elems.length ccF, .bool z, c][j]? = some u → (c4 ++ [.slice aS xS.elems.length ccS, .int .i64 e, .slice aF xF.elems.length ccF, .bool z, c])[4 + j]? = some u := fun j u hu => by
    rw [List.getElem?_append_right (by omega), h4l, Nat.add_sub_cancel_left]
    exact hu
  refine CWL.reg (ops := []) (b := [(117, 12)]) (by kernel_rfl) ?_
  show CWL _ _ _ _ _ _
  cases fx with
  | false =>
    refine CWL.condF rfl ?_
    simp only [flat, List.cons_append, List.nil_append, List.append_nil]
    refine CWL.reg (ops := []) (b := [(4, 2), (357, 2)]) (by kernel_rfl) ?_
    show CWL _ _ _ _ _ _
    refine CWL.ret ?_
    refine ⟨_, rfl, ?_⟩
    simp only [enc, Bool.false_eq_true, if_false, List.append_nil]
    exact hg3
  | true =>
    refine CWL.condT rfl ?_
    simp only [flat, List.cons_append, List.nil_append, List.append_nil]
    rw [enc_kt hm] at hl ⊢
    simp only [List.length_append] at hl
    refine CWL.reg (ops := [(.assign (.const (Go.Value.slice none 0 0)), 55)]) (b := [(15, 1)]) (by kernel_rfl) ?_
    refine OpK.assign ?_
    show CWL _ _ _ _ _ _
    have hkn : KOwn 53 w3 (.slice none 0 0) [] := KOwn.nil _ _
    have hck : Ch (fun _ => False) w3 w3 := Ch.refl _ _
    have hnewk : ∀ k, (Value.slice none 0 0).ownBlock = some k → w3.heap.size ≤ k := fun k h => by cases h
    refine CWL.pin [(0, .pointer (some ⟨g, 0, none⟩)), (1, d3), (5, .int .i16 ver), (6, .bool true), (15, .slice none 0 0)] (all_pinE rfl (all_pinE rfl (all_pinE rfl (all_pinE rfl (all_pinE rfl (fun _ h => by cases h)))))) fun σ => ?_
    refine CWL.reg (ops := [(.nilCheck (.tmp 0), 0), (.fieldAddr 45 (.tmp 1) 4, 0), (.load 39 (.tmp 3), 39), (.call ⟨.builtin .len, #[.tmp 5], #[39]⟩, 3), (.binOp .gtr 3 (.tmp 7) (.const (Go.Value.int Go.IntKind.i64 0)) 3, 4)]) (b := [(123, 9), (122, 7), (121, 5), (120, 3), (119, 1), (118, 0)]) (by kernel_rfl) ?_
    refine OpK.nilCheck rfl ?_
    refine OpK.fieldAddr (off := 4) (by kernel_rfl) rfl ?_
    refine OpK.load (by kernel_rfl) rfl (hld w3 (hc3.trans' hck) 4 _ (hat4 0 _ rfl)) ?_
    refine OpK.len (e := 58) (by kernel_rfl) rfl ?_
    refine OpK.cmp rfl rfl rfl ?_
    show CWL _ _ _ _ _ _
    refine CWL.condJ (b := decide ((xS.elems.length : Int) > 0)) rfl (fun σ' w' => ∃ te', σ' 0 = .pointer (some ⟨g, 0, none⟩) ∧ σ' 1 = d3 ∧ σ' 5 = .int .i16 ver ∧ σ' 6 = .bool true ∧ σ' 15 = te' ∧ KOwn 53 w' te' ([] ++ (if xS.elems.length > 0 then [0] else [])) ∧ Ch (fun _ => False) w3 w' ∧ ∀ k, te'.ownBlock = some k → w3.heap.size ≤ k) (fun hu => ?_) (fun hu => ?_) ?_
    · refine CW.of_flat ?_
      simp only [flat, List.cons_append, List.nil_append, List.append_nil]
      have hu : xS.elems.length > 0 := by simpa using hu
      obtain ⟨v', w5, hr5, hown5, hch5, hat5⟩ := append_key (ty := 55) undKk u32 hkn 0 (Nat.lt_of_le_of_lt (keys_pre0 xS e xF) (by decide))
      refine CWL.reg (ops := [(.buildSlice 55 1 #[(0, .const (Go.Value.int Go.IntKind.u32 0))], 55), (.call ⟨.builtin .append, #[.tmp 30, .tmp 1], #[55, 55]⟩, 55)]) (b := [(15, 3), (126, 3), (125, 1), (124, 30)]) (by kernel_rfl) ?_
      refine OpK.buildS (v := .slice (some ⟨w3.heap.size, 0, none⟩) 1 1) (w' := w3.alloc (.cells #[kv 0] 53)) (by simp only [List.map_toArray, List.map_cons, List.map_nil]; exact run_bsK undKk u32 0) ?_
      refine OpK.run rfl hr5 ?_
      show CWL _ _ _ _ _ _
      have hs5 := hck.size
      exact ⟨v', rfl, rfl, rfl, rfl, rfl, by rw [if_pos hu]; exact hown5, hck.trans hch5 fun k hk h => by have := hnewk k h; omega, fun k hk => by rcases hat5 k hk with h | h; exact hnewk k h; omega⟩
    · refine CW.of_flat ?_
      simp only [flat, List.cons_append, List.nil_append, List.append_nil]
      have hu : ¬ (xS.elems.length > 0) := by simpa using hu
      exact ⟨(.slice none 0 0), rfl, rfl, rfl, rfl, rfl, by rw [if_neg hu]; first | exact hkn | (rw [List.append_nil]; exact hkn), hck, hnewk⟩
    clear hkn hck hnewk
    rintro σ wk ⟨te, p0, p1, p5, p6, p15, hkn, hck, hnewk⟩
    refine CWL.pin [(0, .pointer (some ⟨g, 0, none⟩)), (1, d3), (5, .int .i16 ver), (6, .bool true), (15, te)] (all_pinE p0 (all_pinE p1 (all_pinE p5 (all_pinE p6 (all_pinE p15 (fun _ h => by cases h)))))) fun σ => ?_
    refine CWL.reg (ops := [(.nilCheck (.tmp 0), 0), (.fieldAddr 45 (.tmp 1) 5, 0), (.load 2 (.tmp 3), 2), (.binOp .neq 2 (.tmp 5) (.const (Go.Value.int Go.IntKind.i64 (-1))) 2, 4)]) (b := [(131, 7), (130, 5), (129, 3), (128, 1), (127, 0)]) (by kernel_rfl) ?_
    refine OpK.nilCheck rfl ?_
    refine OpK.fieldAddr (off := 5) (by kernel_rfl) rfl ?_
    refine OpK.load (by kernel_rfl) rfl (hld wk (hc3.trans' hck) 5 _ (hat4 1 _ rfl)) ?_
    refine OpK.cmp rfl rfl rfl ?_
    show CWL _ _ _ _ _ _
    refine CWL.condJ (b := e != -1) rfl (fun σ' w' => ∃ te', σ' 0 = .pointer (some ⟨g, 0, none⟩) ∧ σ' 1 = d3 ∧ σ' 5 = .int .i16 ver ∧ σ' 6 = .bool true ∧ σ' 15 = te' ∧ KOwn 53 w' te' (([] ++ (if xS.elems.length > 0 then [0] else [])) ++ (if e ≠ -1 then [1] else [])) ∧ Ch (fun _ => False) w3 w' ∧ ∀ k, te'.ownBlock = some k → w3.heap.size ≤ k) (fun hu => ?_) (fun hu => ?_) ?_
    · refine CW.of_flat ?_
      simp only [flat, List.cons_append, List.nil_append, List.append_nil]
      have hu : e ≠ -1 := by simpa using hu
      obtain ⟨v', w5, hr5, hown5, hch5, hat5⟩ := append_key (ty := 55) undKk u32 hkn 1 (Nat.lt_of_le_of_lt (keys_pre1 xS e xF) (by decide))
      refine CWL.reg (ops := [(.buildSlice 55 1 #[(0, .const (Go.Value.int Go.IntKind.u32 1))], 55), (.call ⟨.builtin .append, #[.tmp 30, .tmp 1], #[55, 55]⟩, 55)]) (b := [(15, 3), (134, 3), (133, 1), (132, 30)]) (by kernel_rfl) ?_
      refine OpK.buildS (v := .slice (some ⟨wk.heap.size, 0, none⟩) 1 1) (w' := wk.alloc (.cells #[kv 1] 53)) (by simp only [List.map_toArray, List.map_cons, List.map_nil]; exact run_bsK undKk u32 1) ?_
      refine OpK.run rfl hr5 ?_
      show CWL _ _ _ _ _ _
      have hs5 := hck.size
      exact ⟨v', rfl, rfl, rfl, rfl, rfl, by rw [if_pos hu]; exact hown5, hck.trans hch5 fun k hk h => by have := hnewk k h; omega, fun k hk => by rcases hat5 k hk with h | h; exact hnewk k h; omega⟩
    · refine CW.of_flat ?_
      simp only [flat, List.cons_append, List.nil_append, List.append_nil]
      have hu : ¬ (e ≠ -1) := by simpa using hu
      exact ⟨te, rfl, rfl, rfl, rfl, rfl, by rw [if_neg hu]; first | exact hkn | (rw [List.append_nil]; exact hkn), hck, hnewk⟩
    clear hkn hck hnewk
    rintro σ wk ⟨te, p0, p1, p5, p6, p15, hkn, hck, hnewk⟩
    refine CWL.pin [(0, .pointer (some ⟨g, 0, none⟩)), (1, d3), (5, .int .i16 ver), (6, .bool true), (15, te)] (all_pinE p0 (all_pinE p1 (all_pinE p5 (all_pinE p6 (all_pinE p15 (fun _ h => by cases h)))))) fun σ => ?_
    refine CWL.reg (ops := [(.nilCheck (.tmp 0), 0), (.fieldAddr 45 (.tmp 1) 6, 0), (.load 40 (.tmp 3), 40), (.call ⟨.builtin .len, #[.tmp 5], #[40]⟩, 3), (.binOp .gtr 3 (.tmp 7) (.const (Go.Value.int Go.IntKind.i64 0)) 3, 4)]) (b := [(140, 9), (139, 7), (138, 5), (137, 3), (136, 1), (135, 0)]) (by kernel_rfl) ?_
    refine OpK.nilCheck rfl ?_
    refine OpK.fieldAddr (off := 6) (by kernel_rfl) rfl ?_
    refine OpK.load (by kernel_rfl) rfl (hld wk (hc3.trans' hck) 6 _ (hat4 2 _ rfl)) ?_
    refine OpK.len (e := 63) (by kernel_rfl) rfl ?_
    refine OpK.cmp rfl rfl rfl ?_
    show CWL _ _ _ _ _ _
    refine CWL.condJ (b := decide ((xF.elems.length : Int) > 0)) rfl (fun σ' w' => ∃ te', σ' 0 = .pointer (some ⟨g, 0, none⟩) ∧ σ' 1 = d3 ∧ σ' 5 = .int .i16 ver ∧ σ' 6 = .bool true ∧ σ' 15 = te' ∧ KOwn 53 w' te' ((([] ++ (if xS.elems.length > 0 then [0] else [])) ++ (if e ≠ -1 then [1] else [])) ++ (if xF.elems.length > 0 then [2] else [])) ∧ Ch (fun _ => False) w3 w' ∧ ∀ k, te'.ownBlock = some k → w3.heap.size ≤ k) (fun hu => ?_) (fun hu => ?_) ?_
    · refine CW.of_flat ?_
      simp only [flat, List.cons_append, List.nil_append, List.append_nil]
      have hu : xF.elems.length > 0 := by simpa using hu
      obtain ⟨v', w5, hr5, hown5, hch5, hat5⟩ := append_key (ty := 55) undKk u32 hkn 2 (Nat.lt_of_le_of_lt (keys_pre2 xS e xF) (by decide))
      refine CWL.reg (ops := [(.buildSlice 55 1 #[(0, .const (Go.Value.int Go.IntKind.u32 2))], 55), (.call ⟨.builtin .append, #[.tmp 30, .tmp 1], #[55, 55]⟩, 55)]) (b := [(15, 3), (143, 3), (142, 1), (141, 30)]) (by kernel_rfl) ?_
      refine OpK.buildS (v := .slice (some ⟨wk.heap.size, 0, none⟩) 1 1) (w' := wk.alloc (.cells #[kv 2] 53)) (by simp only [List.map_toArray, List.map_cons, List.map_nil]; exact run_bsK undKk u32 2) ?_
      refine OpK.run rfl hr5 ?_
      show CWL _ _ _ _ _ _
      have hs5 := hck.size
      exact ⟨v', rfl, rfl, rfl, rfl, rfl, by rw [if_pos hu]; exact hown5, hck.trans hch5 fun k hk h => by have := hnewk k h; omega, fun k hk => by rcases hat5 k hk with h | h; exact hnewk k h; omega⟩
    · refine CW.of_flat ?_
      simp only [flat, List.cons_append, List.nil_append, List.append_nil]
      have hu : ¬ (xF.elems.length > 0) := by simpa using hu
      exact ⟨te, rfl, rfl, rfl, rfl, rfl, by rw [if_neg hu]; first | exact hkn | (rw [List.append_nil]; exact hkn), hck, hnewk⟩
    clear hkn hck hnewk
    rintro σ wk ⟨te, p0, p1, p5, p6, p15, hkn, hck, hnewk⟩
    refine CWL.pin [(0, .pointer (some ⟨g, 0, none⟩)), (1, d3), (5, .int .i16 ver), (6, .bool true), (15, te)] (all_pinE p0 (all_pinE p1 (all_pinE p5 (all_pinE p6 (all_pinE p15 (fun _ h => by cases h)))))) fun σ => ?_
    refine CWL.reg (ops := [(.nilCheck (.tmp 0), 0), (.fieldAddr 45 (.tmp 1) 7, 0), (.load 4 (.tmp 3), 4), (.binOp .neq 4 (.tmp 5) (.const (Go.Value.bool false)) 4, 4)]) (b := [(148, 7), (147, 5), (146, 3), (145, 1), (144, 0)]) (by kernel_rfl) ?_
    refine OpK.nilCheck rfl ?_
    refine OpK.fieldAddr (off := 7) (by kernel_rfl) rfl ?_
    refine OpK.load (by kernel_rfl) rfl (hld wk (hc3.trans' hck) 7 _ (hat4 3 _ rfl)) ?_
    refine OpK.neBo (a := z) (b := false) undBo rfl rfl ?_
    show CWL _ _ _ _ _ _
    refine CWL.condJ (b := z != false) rfl (fun σ' w' => ∃ te', σ' 0 = .pointer (some ⟨g, 0, none⟩) ∧ σ' 1 = d3 ∧ σ' 5 = .int .i16 ver ∧ σ' 6 = .bool true ∧ σ' 15 = te' ∧ KOwn 53 w' te' (((([] ++ (if xS.elems.length > 0 then [0] else [])) ++ (if e ≠ -1 then [1] else [])) ++ (if xF.elems.length > 0 then [2] else [])) ++ (if z = true then [3] else [])) ∧ Ch (fun _ => False) w3 w' ∧ ∀ k, te'.ownBlock = some k → w3.heap.size ≤ k) (fun hu => ?_) (fun hu => ?_) ?_
    · refine CW.of_flat ?_
      simp only [flat, List.cons_append, List.nil_append, List.append_nil]
      have hu : z = true := by simpa using hu
      obtain ⟨v', w5, hr5, hown5, hch5, hat5⟩ := append_key (ty := 55) undKk u32 hkn 3 (Nat.lt_of_le_of_lt (keys_pre3 xS e xF) (by decide))
      refine CWL.reg (ops := [(.buildSlice 55 1 #[(0, .const (Go.Value.int Go.IntKind.u32 3))], 55), (.call ⟨.builtin .append, #[.tmp 30, .tmp 1], #[55, 55]⟩, 55)]) (b := [(15, 3), (151, 3), (150, 1), (149, 30)]) (by kernel_rfl) ?_
      refine OpK.buildS (v := .slice (some ⟨wk.heap.size, 0, none⟩) 1 1) (w' := wk.alloc (.cells #[kv 3] 53)) (by simp only [List.map_toArray, List.map_cons, List.map_nil]; exact run_bsK undKk u32 3) ?_
      refine OpK.run rfl hr5 ?_
      show CWL _ _ _ _ _ _
      have hs5 := hck.size
      exact ⟨v', rfl, rfl, rfl, rfl, rfl, by rw [if_pos hu]; exact hown5, hck.trans hch5 fun k hk h => by have := hnewk k h; omega, fun k hk => by rcases hat5 k hk with h | h; exact hnewk k h; omega⟩
    · refine CW.of_flat ?_
      simp only [flat, List.cons_append, List.nil_append, List.append_nil]
      have hu : ¬ (z = true) := by simpa using hu
      exact ⟨te, rfl, rfl, rfl, rfl, rfl, by rw [if_neg hu]; first | exact hkn | (rw [List.append_nil]; exact hkn), hck, hnewk⟩
    clear hkn hck hnewk
    rintro σ wk ⟨te, p0, p1, p5, p6, p15, hkn, hck, hnewk⟩
    refine CWL.pin [(0, .pointer (some ⟨g, 0, none⟩)), (1, d3), (5, .int .i16 ver), (6, .bool true), (15, te)] (all_pinE p0 (all_pinE p1 (all_pinE p5 (all_pinE p6 (all_pinE p15 (fun _ h => by cases h)))))) fun σ => ?_
    change KOwn 53 wk te (keysOf xS e xF z) at hkn
    have hkw4 : KW 5 53 w te (keysOf xS e xF z) wk d3 (enc ver true sch4 (mkA m xS e xF z tl)) := ⟨hg3.later hck, hkn, fun k hk hd => by have := hnewk k hk; have := hg3.own.lt hd; omega⟩
    have hk4 := keys_len xS e xF z
    have hkm : ∀ k ∈ keysOf xS e xF z, k = 0 ∨ k = 1 ∨ k = 2 ∨ k = 3 := fun k h => keys_mem h
    generalize keysOf xS e xF z = keys at hkn hkw4 hl hk4 hkm ⊢
    obtain ⟨at_, ct, rfl, hkat⟩ := hkn.form
    have hcw4 : Ch (fun _ => False) w wk := (hg3.new_ch).trans' hck
    have hrt4 := hrt.keepMono (w' := wk) (S' := fun k => k < wk.heap.size) (fun k hk => hcw4.block k hk fun h => h) (fun k hk => Nat.lt_of_lt_of_le hk hcw4.size)
    have htags : Is wk (fun k => k < wk.heap.size) g 8 .tags (.tags tl) := ⟨[c], hrt4, fun j x hj => by
      cases j with
      | zero => simp only [List.getElem?_cons_zero, Option.some.injEq] at hj; subst hj; exact hld wk hcw4 8 _ (hat4 4 _ rfl)
      | succ j => simp at hj⟩
    refine CWL.reg (ops := [(.call ⟨.builtin .len, #[.tmp 30], #[55]⟩, 3), (.nilCheck (.tmp 0), 0), (.fieldAddr 45 (.tmp 3) 8, 0), (.call ⟨.value (.func 19), #[.tmp 5], #[43]⟩, 3), (.binOp .add 3 (.tmp 1) (.tmp 7) 3, 3), (.convert 3 53 (.tmp 9), 53), (.call ⟨.value (.func 18), #[.tmp 2, .tmp 11], #[22, 53]⟩, 22)]) (b := [(1, 13), (161, 13), (160, 11), (159, 9), (158, 7), (157, 5), (156, 3), (155, 0), (154, 1), (153, 30), (152, 2)]) (by kernel_rfl) ?_
    refine OpK.len (e := 53) (by kernel_rfl) rfl ?_
    refine OpK.nilCheck rfl ?_
    refine OpK.fieldAddr (off := 8) (by kernel_rfl) rfl ?_
    refine OpK.asCall rfl calTl rfl (((hsnd.ok 19 .tlen (by kernel_rfl)).2 wk _ g 8 (.tags tl) (.inl rfl) htags).mono ?_)
    rintro en w5 ⟨he5, hw5⟩
    rw [hw5]
    refine ⟨_, he5, ?_⟩
    refine OpK.arith rfl rfl rfl ?_
    refine OpK.convInt (k := .i64) (k' := .u32) (by kernel_rfl) (by kernel_rfl) rfl ?_
    rw [show (IntKind.u32.wrap (IntKind.i64.wrap ((keys.length : Int) + ((V.tags tl).tagsOf.length : Int)))) = ((word (keys.length + tl.length) : Nat) : Int) from count_word _ _]
    refine OpK.asCall rfl calUv rfl (((hsnd.ok 18 .uv (by kernel_rfl)).2 wk (word (keys.length + tl.length)) d3 _ (word_lt _) hkw4.grew.own (by omega)).mono ?_)
    rintro en w5 ⟨d5, he5, hg5⟩
    refine ⟨_, he5, ?_⟩
    show CWL _ _ _ _ _ _
    have hkw5 := hkw4.more hg5
    generalize hpre : enc ver true sch4 (mkA m xS e xF z tl) ++ uvar (word (keys.length + tl.length)) = pre at hkw5
    have hlp : pre.length + ((keys.flatMap (tagE ver xS e xF z)).length + (encEach tl).length) ≤ Lim := by rw [← hpre, List.length_append]; omega
    refine CWL.reg (ops := [(.call ⟨.builtin .len, #[.tmp 30], #[55]⟩, 3), (.move (.const (Go.Value.int Go.IntKind.i64 0)), 3)]) (b := [(164, 3), (163, 1), (162, 30)]) (by kernel_rfl) ?_
    refine OpK.len (e := 53) (by kernel_rfl) rfl ?_
    refine OpK.move ?_
    show CWL _ _ _ _ _ _
    refine CWL.cons (CW.block (CW.loop (fun mm σ wl => ∃ i d, mm + i = keys.length ∧ σ 0 = .pointer (some ⟨g, 0, none⟩) ∧ σ 1 = d ∧ σ 5 = .int .i16 ver ∧ σ 6 = .bool true ∧ σ 162 = .slice at_ keys.length ct ∧ σ 163 = .int .i64 (keys.length : Int) ∧ σ 164 = .int .i64 (i : Int) ∧
      KW 5 53 w (.slice at_ keys.length ct) keys wl d (pre ++ (keys.take i).flatMap (tagE ver xS e xF z))) keys.length
      ⟨0, d5, by simp, rfl, rfl, rfl, rfl, rfl, rfl, rfl, by simpa using hkw5⟩ ?_))
    rintro mm σ wl ⟨i, d, hmm, q0, q1, q5, q6, q162, q163, q164, hkw⟩
    refine CW.pin [(0, .pointer (some ⟨g, 0, none⟩)), (1, d), (5, .int .i16 ver), (6, .bool true), (162, .slice at_ keys.length ct), (163, .int .i64 (keys.length : Int)), (164, .int .i64 (i : Int))] (all_pinE q0 (all_pinE q1 (all_pinE q5 (all_pinE q6 (all_pinE q162 (all_pinE q163 (all_pinE q164 (fun _ h => by cases h)))))))) fun σ => ?_
    simp only [flat, List.cons_append, List.nil_append, List.append_nil]
    have hcwl := hkw.grew.new_ch
    have hswl := hcwl.size
    refine CWL.reg (ops := [(.binOp .lss 3 (.tmp 328) (.tmp 326) 3, 0)]) (b := [(165, 1)]) (by kernel_rfl) ?_
    refine OpK.cmp rfl rfl rfl ?_
    show CWL _ _ _ _ _ _
    by_cases hlt : i < keys.length
    · refine CWL.condT (congrArg Value.bool (decide_eq_true (by omega))) ?_
      simp only [flat, List.cons_append, List.nil_append, List.append_nil]
      refine CWL.block ?_
      simp only [flat, List.cons_append, List.nil_append, List.append_nil]
      obtain ⟨a1, c1, hsl, hkat1⟩ := hkw.keys.form
      cases hsl
      have hki : keys[i]? = some keys[i] := List.getElem?_eq_getElem hlt
      have hkmi := hkm keys[i] (List.getElem_mem hlt)
      generalize keys[i] = key at hki hkmi
      obtain ⟨a', rfl, hcell⟩ := hkat1 i key hki
      obtain ⟨htk, htl⟩ := flat_take hki (tagE ver xS e xF z)
      have hki32 : key < 4294967296 := by omega
      refine CWL.reg (ops := [(.indexAddr 55 (.tmp 324) (.tmp 328), 0), (.load 53 (.tmp 1), 53)]) (b := [(17, 3), (167, 3), (166, 1)]) (by kernel_rfl) ?_
      refine OpK.indexAddr (s := 1) (j := i) (by kernel_rfl) rfl rfl hlt ?_
      refine OpK.load (by kernel_rfl) rfl (hcell) ?_
      show CWL _ _ _ _ _ _
      refine CWL.reg (ops := []) (b := [(168, 34)]) (by kernel_rfl) ?_
      show CWL _ _ _ _ _ _
      refine CWL.block ?_
      simp only [flat, List.cons_append, List.nil_append, List.append_nil]
      refine CWL.reg (ops := [(.binOp .eql 53 (.tmp 336) (.const (Go.Value.int Go.IntKind.u32 0)) 53, 4)]) (b := [(169, 1), (170, 1)]) (by kernel_rfl) ?_
      refine OpK.cmp rfl rfl rfl ?_
      show CWL _ _ _ _ _ _
      by_cases hq0 : key = 0
      · refine CWL.condT (congrArg Value.bool (by rw [hq0]; rfl)) ?_
        simp only [flat, List.cons_append, List.nil_append, List.append_nil]
        have hB : tagE ver xS e xF z key = uvar 0 ++ uvar (word (encLen true false xS ++ xS.elems.flatMap (enc ver true fS)).length) ++ (encLen true false xS ++ xS.elems.flatMap (enc ver true fS)) := by rw [hq0]; rfl
        rw [hB] at htl
        generalize hBB : (encLen true false xS ++ xS.elems.flatMap (enc ver true fS)) = B at htl hB
        have hBS : (pre ++ (keys.take i).flatMap (tagE ver xS e xF z)).length = pre.length + ((keys.take i).flatMap (tagE ver xS e xF z)).length := List.length_append
        generalize hbs : (pre ++ (keys.take i).flatMap (tagE ver xS e xF z)) = bs at hkw hBS
        simp only [List.length_append] at htl
        have hup := uvar_pos (word B.length)
        have huk := uvar_pos 0
        refine CWL.cons (CW.scope 0 rfl (by decide +kernel) (by decide +kernel) (fun σ' w' => ∃ d2, σ' 0 = .pointer (some ⟨g, 0, none⟩) ∧ σ' 1 = d2 ∧ σ' 5 = .int .i16 ver ∧ σ' 6 = .bool true ∧ σ' 18 = .slice aS xS.elems.length ccS ∧ σ' 19 = .bool true ∧ σ' 20 = .int .i64 ((bs ++ uvar 0).length : Int) ∧ σ' 162 = .slice (some a') keys.length ct ∧ σ' 163 = .int .i64 (keys.length : Int) ∧ σ' 164 = .int .i64 (i : Int) ∧
          KW 5 53 w (.slice (some a') keys.length ct) keys w' d2 ((bs ++ uvar 0) ++ uvar (word B.length))) (CW.of_flat ?_) ?_)
        · simp only [flat, List.cons_append, List.nil_append, List.append_nil]
          refine CWL.reg (ops := [(.nilCheck (.tmp 0), 0), (.fieldAddr 45 (.tmp 1) 4, 0), (.load 39 (.tmp 3), 39)]) (b := [(18, 5), (174, 5), (173, 3), (172, 1), (171, 0)]) (by kernel_rfl) ?_
          refine OpK.nilCheck rfl ?_
          refine OpK.fieldAddr (off := 4) (by kernel_rfl) rfl ?_
          refine OpK.load (by kernel_rfl) rfl (hld wl hcwl 4 _ (hat4 0 _ rfl)) ?_
          show CWL _ _ _ _ _ _
          refine CWL.reg (ops := [(.call ⟨.value (.func 18), #[.tmp 2, .const (Go.Value.int Go.IntKind.u32 0)], #[22, 53]⟩, 22)]) (b := [(1, 1), (176, 1), (175, 2)]) (by kernel_rfl) ?_
          refine OpK.asCall rfl calUv rfl (((hsnd.ok 18 .uv (by kernel_rfl)).2 wl 0 d _ (by omega) hkw.grew.own (by omega)).mono ?_)
          rintro en w5 ⟨d5, he5, hg5⟩
          refine ⟨_, he5, ?_⟩
          show CWL _ _ _ _ _ _
          have hkw5 := hkw.more hg5
          obtain ⟨a5, cc5, rfl, hcc5, _⟩ := hkw5.grew.own.len
          refine CWL.reg (ops := [(.assign (.const (Go.Value.bool false)), 4)]) (b := [(19, 1)]) (by kernel_rfl) ?_
          refine OpK.assign ?_
          show CWL _ _ _ _ _ _
          refine CWL.reg (ops := [(.call ⟨.builtin .len, #[.tmp 2], #[22]⟩, 3)]) (b := [(20, 1), (178, 1), (177, 2)]) (by kernel_rfl) ?_
          refine OpK.len (e := 5) (by kernel_rfl) rfl ?_
          show CWL _ _ _ _ _ _
          refine CWL.cons (CW.label_ ?_)
          simp only [Then]
          refine CWL.pin [(0, .pointer (some ⟨g, 0, none⟩)), (1, .slice a5 (bs ++ uvar 0).length cc5), (5, .int .i16 ver), (6, .bool true), (18, .slice aS xS.elems.length ccS), (19, .bool false), (20, .int .i64 ((bs ++ uvar 0).length : Int)), (162, .slice (some a') keys.length ct), (163, .int .i64 (keys.length : Int)), (164, .int .i64 (i : Int))] (all_pinE rfl (all_pinE rfl (all_pinE rfl (all_pinE rfl (all_pinE rfl (all_pinE rfl (all_pinE rfl (all_pinE rfl (all_pinE rfl (all_pinE rfl (fun _ h => by cases h))))))))))) fun σ => ?_
          have hc5 := hkw5.grew.new_ch
          have hs5 := hc5.size
          refine arrTail_use (x := ⟨5, some 6, 1⟩) (ver := ver) (fx := true) (tab := Snd.tab) (p := 0) (g := g) (o := 0) (s := 18) (t := eS) (L := [0, 5, 6, 18, 19, 20, 162, 163, 164]) (v := xS) (f := fS) 4 hsnd (S := fun k => k < w.heap.size) (w0 := w5) (d0 := .slice a5 (bs ++ uvar 0).length cc5) (fun k hk => ⟨by omega, fun h => by rcases hkw5.grew.blk k h with h1 | h1; (cases h1); omega⟩) (fun h => by cases h) (cs1 := [.slice aS xS.elems.length ccS]) (hrS.keep fun k hk => hc5.block k hk fun h => h) (by simp) (fun t ht => by cases ht; simp) (by simp) rfl (by kernel_rfl) ⟨rfl, fun t ht => by cases ht; rfl, rfl⟩ rfl (Grew.refl hkw5.grew.own) (by rw [hBB]; simp only [List.length_append]; omega) ?_
          intro σ' w6 hg6 he
          rw [hBB] at hg6
          have hkw6 := hkw5.more hg6
          obtain ⟨d6, hd6⟩ : ∃ d6, σ' 1 = d6 := ⟨_, rfl⟩
          rw [hd6] at hkw6
          obtain ⟨a6, cc6, rfl, hcc6, _⟩ := hkw6.grew.own.len
          simp only [List.drop_succ_cons, List.drop_zero]
          refine CWL.pin [(0, .pointer (some ⟨g, 0, none⟩)), (1, .slice a6 ((bs ++ uvar 0) ++ B).length cc6), (5, .int .i16 ver), (6, .bool true), (18, .slice aS xS.elems.length ccS), (19, .bool false), (20, .int .i64 ((bs ++ uvar 0).length : Int)), (162, .slice (some a') keys.length ct), (163, .int .i64 (keys.length : Int)), (164, .int .i64 (i : Int))] (all_pinE ((he 0 (by simp)).trans rfl) (all_pinE hd6 (all_pinE ((he 5 (by simp)).trans rfl) (all_pinE ((he 6 (by simp)).trans rfl) (all_pinE ((he 18 (by simp)).trans rfl) (all_pinE ((he 19 (by simp)).trans rfl) (all_pinE ((he 20 (by simp)).trans rfl) (all_pinE ((he 162 (by simp)).trans rfl) (all_pinE ((he 163 (by simp)).trans rfl) (all_pinE ((he 164 (by simp)).trans rfl) (fun _ h => by cases h))))))))))) fun σ => ?_
          refine CWL.reg (ops := [(.unOp .not 4 (.tmp 38), 4)]) (b := [(237, 1), (236, 38)]) (by kernel_rfl) ?_
          refine OpK.not rfl ?_
          show CWL _ _ _ _ _ _
          refine CWL.condT rfl ?_
          simp only [flat, List.cons_append, List.nil_append, List.append_nil]
          have hkw6d : KW 5 53 w (.slice (some a') keys.length ct) keys w6.drew (.slice a6 (bs ++ uvar 0).length cc6) (bs ++ uvar 0) := by
            have := (hkw6.calm (Ch.drew _ _)).cut (j := (bs ++ uvar 0).length) (by simp only [List.length_append]; omega)
            rw [List.take_append_of_le_length (Nat.le_refl _), List.take_of_length_le (Nat.le_refl _)] at this
            exact this
          have hle6 : (bs ++ uvar 0).length ≤ ((bs ++ uvar 0) ++ B).length := by simp only [List.length_append]; omega
          refine CWL.regD mixed ((fun _ => True)) [(0, true), (1, true), (2, true), (3, true), (4, true), (5, true), (6, false), (7, true), (8, false), (9, true)] (by decide +kernel) (trivial) ?_
          refine HW.early rfl rfl (Yi.move) ?_
          refine HW.early rfl rfl (Yi.move) ?_
          refine HW.early rfl rfl (Yi.sliceTo (j := (bs ++ uvar 0).length) undOc oneOc rfl rfl (by omega)) ?_
          refine HW.early rfl rfl (Yi.move) ?_
          refine HW.early rfl rfl (Yi.move) ?_
          refine HW.early rfl rfl (Yi.sliceFrom (j := (bs ++ uvar 0).length) undOc oneOc rfl rfl hle6 hcc6) ?_
          refine HW.step (trivial) rfl rfl (OpK.len (e := 5) (by kernel_rfl) rfl ⟨rfl, rfl⟩) ?_
          refine HW.early rfl rfl (Yi.convInt (k' := .u32) (by kernel_rfl) (by kernel_rfl) rfl) ?_
          refine HW.next rfl rfl ?_
          refine OpK.asCall rfl calUv rfl ?_
          show Calls _ _ #[.slice a6 (bs ++ uvar 0).length cc6, .int .u32 (IntKind.u32.wrap ((((bs ++ uvar 0) ++ B).length - (bs ++ uvar 0).length : Nat) : Int))] _ _
          rw [show IntKind.u32.wrap ((((bs ++ uvar 0) ++ B).length - (bs ++ uvar 0).length : Nat) : Int) = ((word B.length : Nat) : Int) by rw [List.length_append, Nat.add_sub_cancel_left, IntKind.wrap_u32]; unfold word; omega]
          refine ((hsnd.ok 18 .uv (by kernel_rfl)).2 w6.drew (word B.length) (.slice a6 (bs ++ uvar 0).length cc6) _ (word_lt _) hkw6d.grew.own (by simp only [List.length_append]; omega)).mono ?_
          rintro en w7 ⟨d7, he7, hg7⟩
          refine ⟨_, he7, trivial, ?_⟩
          refine HW.early rfl rfl (Yi.assign) ?_
          refine HW.done ?_
          have hkw7 := hkw6d.more hg7
          refine CWL.reg (ops := [(.assign (.const (Go.Value.bool true)), 4)]) (b := [(19, 1)]) (by kernel_rfl) ?_
          refine OpK.assign ?_
          show CWL _ _ _ _ _ _
          exact CWL.cons (CW.goto_ ⟨rfl, _, rfl, rfl, rfl, rfl, rfl, rfl, rfl, rfl, rfl, rfl, hkw7⟩)
        · rintro σ w7 ⟨d7, p0, p1, p5, p6, pl, pz, pa, p162, p163, p164, hkw7⟩
          refine CW.pin [(0, .pointer (some ⟨g, 0, none⟩)), (1, d7), (5, .int .i16 ver), (6, .bool true), (18, .slice aS xS.elems.length ccS), (19, .bool true), (20, .int .i64 ((bs ++ uvar 0).length : Int)), (162, .slice (some a') keys.length ct), (163, .int .i64 (keys.length : Int)), (164, .int .i64 (i : Int))] (all_pinE p0 (all_pinE p1 (all_pinE p5 (all_pinE p6 (all_pinE pl (all_pinE pz (all_pinE pa (all_pinE p162 (all_pinE p163 (all_pinE p164 (fun _ h => by cases h))))))))))) fun σ => ?_
          simp only [flat, List.cons_append, List.nil_append, List.append_nil]
          have hc7 := hkw7.grew.new_ch
          have hs7 := hc7.size
          refine arrTail_use (x := ⟨5, some 6, 1⟩) (ver := ver) (fx := true) (tab := Snd.tab) (p := 0) (g := g) (o := 0) (s := 18) (t := eS) (L := [0, 5, 6, 18, 19, 20, 162, 163, 164]) (v := xS) (f := fS) 4 hsnd (S := fun k => k < w.heap.size) (w0 := w7) (d0 := d7) (fun k hk => ⟨by omega, fun h => by rcases hkw7.grew.blk k h with h1 | h1; (cases h1); omega⟩) (fun h => by cases h) (cs1 := [.slice aS xS.elems.length ccS]) (hrS.keep fun k hk => hc7.block k hk fun h => h) (by simp) (fun t ht => by cases ht; simp) (by simp) rfl (by kernel_rfl) ⟨rfl, fun t ht => by cases ht; rfl, rfl⟩ rfl (Grew.refl hkw7.grew.own) (by rw [hBB]; simp only [List.length_append]; omega) ?_
          intro σ' w8 hg8 he
          rw [hBB] at hg8
          have hkw8 := hkw7.more hg8
          obtain ⟨d8, hd6⟩ : ∃ d8, σ' 1 = d8 := ⟨_, rfl⟩
          rw [hd6] at hkw8
          simp only [List.drop_succ_cons, List.drop_zero]
          refine CWL.pin [(0, .pointer (some ⟨g, 0, none⟩)), (1, d8), (5, .int .i16 ver), (6, .bool true), (18, .slice aS xS.elems.length ccS), (19, .bool true), (20, .int .i64 ((bs ++ uvar 0).length : Int)), (162, .slice (some a') keys.length ct), (163, .int .i64 (keys.length : Int)), (164, .int .i64 (i : Int))] (all_pinE ((he 0 (by simp)).trans rfl) (all_pinE hd6 (all_pinE ((he 5 (by simp)).trans rfl) (all_pinE ((he 6 (by simp)).trans rfl) (all_pinE ((he 18 (by simp)).trans rfl) (all_pinE ((he 19 (by simp)).trans rfl) (all_pinE ((he 20 (by simp)).trans rfl) (all_pinE ((he 162 (by simp)).trans rfl) (all_pinE ((he 163 (by simp)).trans rfl) (all_pinE ((he 164 (by simp)).trans rfl) (fun _ h => by cases h))))))))))) fun σ => ?_
          refine CWL.reg (ops := [(.unOp .not 4 (.tmp 38), 4)]) (b := [(237, 1), (236, 38)]) (by kernel_rfl) ?_
          refine OpK.not rfl ?_
          show CWL _ _ _ _ _ _
          refine CWL.condF rfl ?_
          simp only [flat, List.cons_append, List.nil_append, List.append_nil]
          show CWL _ _ _ _ _ _
          try refine CWL.nil_ (P := Tryd.prog) (n := 0) ?_
          show CWL _ _ _ _ _ _
          refine CWL.reg (ops := [(.binOp .add 3 (.tmp 328) (.const (Go.Value.int Go.IntKind.i64 1)) 3, 3)]) (b := [(164, 1), (351, 1)]) (by kernel_rfl) ?_
          refine OpK.arith rfl rfl rfl ?_
          show CWL _ _ _ _ _ _
          try refine CWL.nil_ (P := Tryd.prog) (n := 0) ?_
          refine ⟨mm - 1, by omega, i + 1, d8, by omega, rfl, rfl, rfl, rfl, rfl, rfl, ?_, ?_⟩
          · show Value.int .i64 (IntKind.i64.wrap ((i : Int) + 1)) = _
            congr 1
            rw [IntKind.wrap_i64]
            omega
          · rw [htk, ← List.append_assoc pre, hbs, hB]
            simp only [List.append_assoc] at hkw8 ⊢
            exact hkw8
      refine CWL.condF (congrArg Value.bool (by simp; omega)) ?_
      simp only [flat, List.cons_append, List.nil_append, List.append_nil]
      refine CWL.reg (ops := [(.binOp .eql 53 (.tmp 336) (.const (Go.Value.int Go.IntKind.u32 1)) 53, 4)]) (b := [(247, 1), (248, 1)]) (by kernel_rfl) ?_
      refine OpK.cmp rfl rfl rfl ?_
      show CWL _ _ _ _ _ _
      by_cases hq1 : key = 1
      · refine CWL.condT (congrArg Value.bool (by rw [hq1]; rfl)) ?_
        simp only [flat, List.cons_append, List.nil_append, List.append_nil]
        have hB : tagE ver xS e xF z key = uvar 1 ++ uvar 8 ++ encW false .i64 (.i e) := by rw [hq1]; exact tag_E _ _ _ _ _
        rw [hB] at htl
        have hBS : (pre ++ (keys.take i).flatMap (tagE ver xS e xF z)).length = pre.length + ((keys.take i).flatMap (tagE ver xS e xF z)).length := List.length_append
        generalize hbs : (pre ++ (keys.take i).flatMap (tagE ver xS e xF z)) = bs at hkw hBS
        simp only [List.length_append] at htl
        refine CWL.reg (ops := [(.nilCheck (.tmp 0), 0), (.fieldAddr 45 (.tmp 1) 5, 0), (.load 2 (.tmp 3), 2)]) (b := [(26, 5), (252, 5), (251, 3), (250, 1), (249, 0)]) (by kernel_rfl) ?_
        refine OpK.nilCheck rfl ?_
        refine OpK.fieldAddr (off := 5) (by kernel_rfl) rfl ?_
        refine OpK.load (by kernel_rfl) rfl (hld wl hcwl 5 _ (hat4 1 _ rfl)) ?_
        show CWL _ _ _ _ _ _
        refine CWL.reg (ops := [(.call ⟨.value (.func 18), #[.tmp 2, .const (Go.Value.int Go.IntKind.u32 1)], #[22, 53]⟩, 22)]) (b := [(1, 1), (254, 1), (253, 2)]) (by kernel_rfl) ?_
        refine OpK.asCall rfl calUv rfl (((hsnd.ok 18 .uv (by kernel_rfl)).2 wl 1 d _ (by omega) hkw.grew.own (by omega)).mono ?_)
        rintro en w5 ⟨d5, he5, hg5⟩
        refine ⟨_, he5, ?_⟩
        show CWL _ _ _ _ _ _
        have hkw5 := hkw.more hg5
        refine CWL.reg (ops := [(.call ⟨.value (.func 18), #[.tmp 2, .const (Go.Value.int Go.IntKind.u32 8)], #[22, 53]⟩, 22)]) (b := [(1, 1), (256, 1), (255, 2)]) (by kernel_rfl) ?_
        refine OpK.asCall rfl calUv rfl (((hsnd.ok 18 .uv (by kernel_rfl)).2 w5 8 d5 _ (by omega) hkw5.grew.own (by simp only [List.length_append]; omega)).mono ?_)
        rintro en w6 ⟨d6, he6, hg6⟩
        refine ⟨_, he6, ?_⟩
        show CWL _ _ _ _ _ _
        have hkw6 := hkw5.more hg6
        refine CWL.reg (ops := [(.call ⟨.value (.func 24), #[.tmp 2, .tmp 52], #[22, 2]⟩, 22)]) (b := [(1, 1), (259, 1), (258, 52), (257, 2)]) (by kernel_rfl) ?_
        refine OpK.asCall rfl calAi rfl (((hsnd.ok 24 (.val false .i64) (by kernel_rfl)).2 w6 (fun _ => False) (.i e) [.int .i64 e] d6 _ ⟨rfl, he⟩ hkw6.grew.own (fun k h => h.elim) (by simp only [List.length_append]; omega)).mono ?_)
        rintro en w7 ⟨d7, he7, hg7⟩
        refine ⟨_, he7, ?_⟩
        show CWL _ _ _ _ _ _
        have hkw7 := hkw6.more hg7
        show CWL _ _ _ _ _ _
        try refine CWL.nil_ (P := Tryd.prog) (n := 0) ?_
        show CWL _ _ _ _ _ _
        refine CWL.reg (ops := [(.binOp .add 3 (.tmp 328) (.const (Go.Value.int Go.IntKind.i64 1)) 3, 3)]) (b := [(164, 1), (351, 1)]) (by kernel_rfl) ?_
        refine OpK.arith rfl rfl rfl ?_
        show CWL _ _ _ _ _ _
        try refine CWL.nil_ (P := Tryd.prog) (n := 0) ?_
        refine ⟨mm - 1, by omega, i + 1, d7, by omega, rfl, rfl, rfl, rfl, rfl, rfl, ?_, ?_⟩
        · show Value.int .i64 (IntKind.i64.wrap ((i : Int) + 1)) = _
          congr 1
          rw [IntKind.wrap_i64]
          omega
        · rw [htk, ← List.append_assoc pre, hbs, hB]
          simp only [List.append_assoc] at hkw7 ⊢
          exact hkw7
      refine CWL.condF (congrArg Value.bool (by simp; omega)) ?_
      simp only [flat, List.cons_append, List.nil_append, List.append_nil]
      refine CWL.reg (ops := [(.binOp .eql 53 (.tmp 336) (.const (Go.Value.int Go.IntKind.u32 2)) 53, 4)]) (b := [(260, 1), (261, 1)]) (by kernel_rfl) ?_
      refine OpK.cmp rfl rfl rfl ?_
      show CWL _ _ _ _ _ _
      by_cases hq2 : key = 2
      · refine CWL.condT (congrArg Value.bool (by rw [hq2]; rfl)) ?_
        simp only [flat, List.cons_append, List.nil_append, List.append_nil]
        have hB : tagE ver xS e xF z key = uvar 2 ++ uvar (word (encLen true false xF ++ xF.elems.flatMap (enc ver true fS)).length) ++ (encLen true false xF ++ xF.elems.flatMap (enc ver true fS)) := by rw [hq2]; rfl
        rw [hB] at htl
        generalize hBB : (encLen true false xF ++ xF.elems.flatMap (enc ver true fS)) = B at htl hB
        have hBS : (pre ++ (keys.take i).flatMap (tagE ver xS e xF z)).length = pre.length + ((keys.take i).flatMap (tagE ver xS e xF z)).length := List.length_append
        generalize hbs : (pre ++ (keys.take i).flatMap (tagE ver xS e xF z)) = bs at hkw hBS
        simp only [List.length_append] at htl
        have hup := uvar_pos (word B.length)
        have huk := uvar_pos 2
        refine CWL.cons (CW.scope 1 rfl (by decide +kernel) (by decide +kernel) (fun σ' w' => ∃ d2, σ' 0 = .pointer (some ⟨g, 0, none⟩) ∧ σ' 1 = d2 ∧ σ' 5 = .int .i16 ver ∧ σ' 6 = .bool true ∧ σ' 27 = .slice aF xF.elems.length ccF ∧ σ' 28 = .bool true ∧ σ' 29 = .int .i64 ((bs ++ uvar 2).length : Int) ∧ σ' 162 = .slice (some a') keys.length ct ∧ σ' 163 = .int .i64 (keys.length : Int) ∧ σ' 164 = .int .i64 (i : Int) ∧
          KW 5 53 w (.slice (some a') keys.length ct) keys w' d2 ((bs ++ uvar 2) ++ uvar (word B.length))) (CW.of_flat ?_) ?_)
        · simp only [flat, List.cons_append, List.nil_append, List.append_nil]
          refine CWL.reg (ops := [(.nilCheck (.tmp 0), 0), (.fieldAddr 45 (.tmp 1) 6, 0), (.load 40 (.tmp 3), 40)]) (b := [(27, 5), (265, 5), (264, 3), (263, 1), (262, 0)]) (by kernel_rfl) ?_
          refine OpK.nilCheck rfl ?_
          refine OpK.fieldAddr (off := 6) (by kernel_rfl) rfl ?_
          refine OpK.load (by kernel_rfl) rfl (hld wl hcwl 6 _ (hat4 2 _ rfl)) ?_
          show CWL _ _ _ _ _ _
          refine CWL.reg (ops := [(.call ⟨.value (.func 18), #[.tmp 2, .const (Go.Value.int Go.IntKind.u32 2)], #[22, 53]⟩, 22)]) (b := [(1, 1), (267, 1), (266, 2)]) (by kernel_rfl) ?_
          refine OpK.asCall rfl calUv rfl (((hsnd.ok 18 .uv (by kernel_rfl)).2 wl 2 d _ (by omega) hkw.grew.own (by omega)).mono ?_)
          rintro en w5 ⟨d5, he5, hg5⟩
          refine ⟨_, he5, ?_⟩
          show CWL _ _ _ _ _ _
          have hkw5 := hkw.more hg5
          obtain ⟨a5, cc5, rfl, hcc5, _⟩ := hkw5.grew.own.len
          refine CWL.reg (ops := [(.assign (.const (Go.Value.bool false)), 4)]) (b := [(28, 1)]) (by kernel_rfl) ?_
          refine OpK.assign ?_
          show CWL _ _ _ _ _ _
          refine CWL.reg (ops := [(.call ⟨.builtin .len, #[.tmp 2], #[22]⟩, 3)]) (b := [(29, 1), (269, 1), (268, 2)]) (by kernel_rfl) ?_
          refine OpK.len (e := 5) (by kernel_rfl) rfl ?_
          show CWL _ _ _ _ _ _
          refine CWL.cons (CW.label_ ?_)
          simp only [Then]
          refine CWL.pin [(0, .pointer (some ⟨g, 0, none⟩)), (1, .slice a5 (bs ++ uvar 2).length cc5), (5, .int .i16 ver), (6, .bool true), (27, .slice aF xF.elems.length ccF), (28, .bool false), (29, .int .i64 ((bs ++ uvar 2).length : Int)), (162, .slice (some a') keys.length ct), (163, .int .i64 (keys.length : Int)), (164, .int .i64 (i : Int))] (all_pinE rfl (all_pinE rfl (all_pinE rfl (all_pinE rfl (all_pinE rfl (all_pinE rfl (all_pinE rfl (all_pinE rfl (all_pinE rfl (all_pinE rfl (fun _ h => by cases h))))))))))) fun σ => ?_
          have hc5 := hkw5.grew.new_ch
          have hs5 := hc5.size
          refine arrTail_use (x := ⟨5, some 6, 1⟩) (ver := ver) (fx := true) (tab := Snd.tab) (p := 0) (g := g) (o := 0) (s := 27) (t := eF) (L := [0, 5, 6, 27, 28, 29, 162, 163, 164]) (v := xF) (f := fS) 4 hsnd (S := fun k => k < w.heap.size) (w0 := w5) (d0 := .slice a5 (bs ++ uvar 2).length cc5) (fun k hk => ⟨by omega, fun h => by rcases hkw5.grew.blk k h with h1 | h1; (cases h1); omega⟩) (fun h => by cases h) (cs1 := [.slice aF xF.elems.length ccF]) (hrF.keep fun k hk => hc5.block k hk fun h => h) (by simp) (fun t ht => by cases ht; simp) (by simp) rfl (by kernel_rfl) ⟨rfl, fun t ht => by cases ht; rfl, rfl⟩ rfl (Grew.refl hkw5.grew.own) (by rw [hBB]; simp only [List.length_append]; omega) ?_
          intro σ' w6 hg6 he
          rw [hBB] at hg6
          have hkw6 := hkw5.more hg6
          obtain ⟨d6, hd6⟩ : ∃ d6, σ' 1 = d6 := ⟨_, rfl⟩
          rw [hd6] at hkw6
          obtain ⟨a6, cc6, rfl, hcc6, _⟩ := hkw6.grew.own.len
          simp only [List.drop_succ_cons, List.drop_zero]
          refine CWL.pin [(0, .pointer (some ⟨g, 0, none⟩)), (1, .slice a6 ((bs ++ uvar 2) ++ B).length cc6), (5, .int .i16 ver), (6, .bool true), (27, .slice aF xF.elems.length ccF), (28, .bool false), (29, .int .i64 ((bs ++ uvar 2).length : Int)), (162, .slice (some a') keys.length ct), (163, .int .i64 (keys.length : Int)), (164, .int .i64 (i : Int))] (all_pinE ((he 0 (by simp)).trans rfl) (all_pinE hd6 (all_pinE ((he 5 (by simp)).trans rfl) (all_pinE ((he 6 (by simp)).trans rfl) (all_pinE ((he 27 (by simp)).trans rfl) (all_pinE ((he 28 (by simp)).trans rfl) (all_pinE ((he 29 (by simp)).trans rfl) (all_pinE ((he 162 (by simp)).trans rfl) (all_pinE ((he 163 (by simp)).trans rfl) (all_pinE ((he 164 (by simp)).trans rfl) (fun _ h => by cases h))))))))))) fun σ => ?_
          refine CWL.reg (ops := [(.unOp .not 4 (.tmp 56), 4)]) (b := [(328, 1), (327, 56)]) (by kernel_rfl) ?_
          refine OpK.not rfl ?_
          show CWL _ _ _ _ _ _
          refine CWL.condT rfl ?_
          simp only [flat, List.cons_append, List.nil_append, List.append_nil]
          have hkw6d : KW 5 53 w (.slice (some a') keys.length ct) keys w6.drew (.slice a6 (bs ++ uvar 2).length cc6) (bs ++ uvar 2) := by
            have := (hkw6.calm (Ch.drew _ _)).cut (j := (bs ++ uvar 2).length) (by simp only [List.length_append]; omega)
            rw [List.take_append_of_le_length (Nat.le_refl _), List.take_of_length_le (Nat.le_refl _)] at this
            exact this
          have hle6 : (bs ++ uvar 2).length ≤ ((bs ++ uvar 2) ++ B).length := by simp only [List.length_append]; omega
          refine CWL.regD mixed ((fun _ => True)) [(0, true), (1, true), (2, true), (3, true), (4, true), (5, true), (6, false), (7, true), (8, false), (9, true)] (by decide +kernel) (trivial) ?_
          refine HW.early rfl rfl (Yi.move) ?_
          refine HW.early rfl rfl (Yi.move) ?_
          refine HW.early rfl rfl (Yi.sliceTo (j := (bs ++ uvar 2).length) undOc oneOc rfl rfl (by omega)) ?_
          refine HW.early rfl rfl (Yi.move) ?_
          refine HW.early rfl rfl (Yi.move) ?_
          refine HW.early rfl rfl (Yi.sliceFrom (j := (bs ++ uvar 2).length) undOc oneOc rfl rfl hle6 hcc6) ?_
          refine HW.step (trivial) rfl rfl (OpK.len (e := 5) (by kernel_rfl) rfl ⟨rfl, rfl⟩) ?_
          refine HW.early rfl rfl (Yi.convInt (k' := .u32) (by kernel_rfl) (by kernel_rfl) rfl) ?_
          refine HW.next rfl rfl ?_
          refine OpK.asCall rfl calUv rfl ?_
          show Calls _ _ #[.slice a6 (bs ++ uvar 2).length cc6, .int .u32 (IntKind.u32.wrap ((((bs ++ uvar 2) ++ B).length - (bs ++ uvar 2).length : Nat) : Int))] _ _
          rw [show IntKind.u32.wrap ((((bs ++ uvar 2) ++ B).length - (bs ++ uvar 2).length : Nat) : Int) = ((word B.length : Nat) : Int) by rw [List.length_append, Nat.add_sub_cancel_left, IntKind.wrap_u32]; unfold word; omega]
          refine ((hsnd.ok 18 .uv (by kernel_rfl)).2 w6.drew (word B.length) (.slice a6 (bs ++ uvar 2).length cc6) _ (word_lt _) hkw6d.grew.own (by simp only [List.length_append]; omega)).mono ?_
          rintro en w7 ⟨d7, he7, hg7⟩
          refine ⟨_, he7, trivial, ?_⟩
          refine HW.early rfl rfl (Yi.assign) ?_
          refine HW.done ?_
          have hkw7 := hkw6d.more hg7
          refine CWL.reg (ops := [(.assign (.const (Go.Value.bool true)), 4)]) (b := [(28, 1)]) (by kernel_rfl) ?_
          refine OpK.assign ?_
          show CWL _ _ _ _ _ _
          exact CWL.cons (CW.goto_ ⟨rfl, _, rfl, rfl, rfl, rfl, rfl, rfl, rfl, rfl, rfl, rfl, hkw7⟩)
        · rintro σ w7 ⟨d7, p0, p1, p5, p6, pl, pz, pa, p162, p163, p164, hkw7⟩
          refine CW.pin [(0, .pointer (some ⟨g, 0, none⟩)), (1, d7), (5, .int .i16 ver), (6, .bool true), (27, .slice aF xF.elems.length ccF), (28, .bool true), (29, .int .i64 ((bs ++ uvar 2).length : Int)), (162, .slice (some a') keys.length ct), (163, .int .i64 (keys.length : Int)), (164, .int .i64 (i : Int))] (all_pinE p0 (all_pinE p1 (all_pinE p5 (all_pinE p6 (all_pinE pl (all_pinE pz (all_pinE pa (all_pinE p162 (all_pinE p163 (all_pinE p164 (fun _ h => by cases h))))))))))) fun σ => ?_
          simp only [flat, List.cons_append, List.nil_append, List.append_nil]
          have hc7 := hkw7.grew.new_ch
          have hs7 := hc7.size
          refine arrTail_use (x := ⟨5, some 6, 1⟩) (ver := ver) (fx := true) (tab := Snd.tab) (p := 0) (g := g) (o := 0) (s := 27) (t := eF) (L := [0, 5, 6, 27, 28, 29, 162, 163, 164]) (v := xF) (f := fS) 4 hsnd (S := fun k => k < w.heap.size) (w0 := w7) (d0 := d7) (fun k hk => ⟨by omega, fun h => by rcases hkw7.grew.blk k h with h1 | h1; (cases h1); omega⟩) (fun h => by cases h) (cs1 := [.slice aF xF.elems.length ccF]) (hrF.keep fun k hk => hc7.block k hk fun h => h) (by simp) (fun t ht => by cases ht; simp) (by simp) rfl (by kernel_rfl) ⟨rfl, fun t ht => by cases ht; rfl, rfl⟩ rfl (Grew.refl hkw7.grew.own) (by rw [hBB]; simp only [List.length_append]; omega) ?_
          intro σ' w8 hg8 he
          rw [hBB] at hg8
          have hkw8 := hkw7.more hg8
          obtain ⟨d8, hd6⟩ : ∃ d8, σ' 1 = d8 := ⟨_, rfl⟩
          rw [hd6] at hkw8
          simp only [List.drop_succ_cons, List.drop_zero]
          refine CWL.pin [(0, .pointer (some ⟨g, 0, none⟩)), (1, d8), (5, .int .i16 ver), (6, .bool true), (27, .slice aF xF.elems.length ccF), (28, .bool true), (29, .int .i64 ((bs ++ uvar 2).length : Int)), (162, .slice (some a') keys.length ct), (163, .int .i64 (keys.length : Int)), (164, .int .i64 (i : Int))] (all_pinE ((he 0 (by simp)).trans rfl) (all_pinE hd6 (all_pinE ((he 5 (by simp)).trans rfl) (all_pinE ((he 6 (by simp)).trans rfl) (all_pinE ((he 27 (by simp)).trans rfl) (all_pinE ((he 28 (by simp)).trans rfl) (all_pinE ((he 29 (by simp)).trans rfl) (all_pinE ((he 162 (by simp)).trans rfl) (all_pinE ((he 163 (by simp)).trans rfl) (all_pinE ((he 164 (by simp)).trans rfl) (fun _ h => by cases h))))))))))) fun σ => ?_
          refine CWL.reg (ops := [(.unOp .not 4 (.tmp 56), 4)]) (b := [(328, 1), (327, 56)]) (by kernel_rfl) ?_
          refine OpK.not rfl ?_
          show CWL _ _ _ _ _ _
          refine CWL.condF rfl ?_
          simp only [flat, List.cons_append, List.nil_append, List.append_nil]
          show CWL _ _ _ _ _ _
          try refine CWL.nil_ (P := Tryd.prog) (n := 0) ?_
          show CWL _ _ _ _ _ _
          refine CWL.reg (ops := [(.binOp .add 3 (.tmp 328) (.const (Go.Value.int Go.IntKind.i64 1)) 3, 3)]) (b := [(164, 1), (351, 1)]) (by kernel_rfl) ?_
          refine OpK.arith rfl rfl rfl ?_
          show CWL _ _ _ _ _ _
          try refine CWL.nil_ (P := Tryd.prog) (n := 0) ?_
          refine ⟨mm - 1, by omega, i + 1, d8, by omega, rfl, rfl, rfl, rfl, rfl, rfl, ?_, ?_⟩
          · show Value.int .i64 (IntKind.i64.wrap ((i : Int) + 1)) = _
            congr 1
            rw [IntKind.wrap_i64]
            omega
          · rw [htk, ← List.append_assoc pre, hbs, hB]
            simp only [List.append_assoc] at hkw8 ⊢
            exact hkw8
      refine CWL.condF (congrArg Value.bool (by simp; omega)) ?_
      simp only [flat, List.cons_append, List.nil_append, List.append_nil]
      refine CWL.reg (ops := [(.binOp .eql 53 (.tmp 336) (.const (Go.Value.int Go.IntKind.u32 3)) 53, 4)]) (b := [(338, 1), (339, 1)]) (by kernel_rfl) ?_
      refine OpK.cmp rfl rfl rfl ?_
      show CWL _ _ _ _ _ _
      have hq3 : key = 3 := by omega
      refine CWL.condT (congrArg Value.bool (by rw [hq3]; rfl)) ?_
      simp only [flat, List.cons_append, List.nil_append, List.append_nil]
      have hB : tagE ver xS e xF z key = uvar 3 ++ uvar 1 ++ encW false .bool (.b z) := by rw [hq3]; exact tag_Z _ _ _ _ _
      rw [hB] at htl
      have hBS : (pre ++ (keys.take i).flatMap (tagE ver xS e xF z)).length = pre.length + ((keys.take i).flatMap (tagE ver xS e xF z)).length := List.length_append
      generalize hbs : (pre ++ (keys.take i).flatMap (tagE ver xS e xF z)) = bs at hkw hBS
      simp only [List.length_append] at htl
      refine CWL.reg (ops := [(.nilCheck (.tmp 0), 0), (.fieldAddr 45 (.tmp 1) 7, 0), (.load 4 (.tmp 3), 4)]) (b := [(35, 5), (343, 5), (342, 3), (341, 1), (340, 0)]) (by kernel_rfl) ?_
      refine OpK.nilCheck rfl ?_
      refine OpK.fieldAddr (off := 7) (by kernel_rfl) rfl ?_
      refine OpK.load (by kernel_rfl) rfl (hld wl hcwl 7 _ (hat4 3 _ rfl)) ?_
      show CWL _ _ _ _ _ _
      refine CWL.reg (ops := [(.call ⟨.value (.func 18), #[.tmp 2, .const (Go.Value.int Go.IntKind.u32 3)], #[22, 53]⟩, 22)]) (b := [(1, 1), (345, 1), (344, 2)]) (by kernel_rfl) ?_
      refine OpK.asCall rfl calUv rfl (((hsnd.ok 18 .uv (by kernel_rfl)).2 wl 3 d _ (by omega) hkw.grew.own (by omega)).mono ?_)
      rintro en w5 ⟨d5, he5, hg5⟩
      refine ⟨_, he5, ?_⟩
      show CWL _ _ _ _ _ _
      have hkw5 := hkw.more hg5
      refine CWL.reg (ops := [(.call ⟨.value (.func 18), #[.tmp 2, .const (Go.Value.int Go.IntKind.u32 1)], #[22, 53]⟩, 22)]) (b := [(1, 1), (347, 1), (346, 2)]) (by kernel_rfl) ?_
      refine OpK.asCall rfl calUv rfl (((hsnd.ok 18 .uv (by kernel_rfl)).2 w5 1 d5 _ (by omega) hkw5.grew.own (by simp only [List.length_append]; omega)).mono ?_)
      rintro en w6 ⟨d6, he6, hg6⟩
      refine ⟨_, he6, ?_⟩
      show CWL _ _ _ _ _ _
      have hkw6 := hkw5.more hg6
      refine CWL.reg (ops := [(.call ⟨.value (.func 25), #[.tmp 2, .tmp 70], #[22, 4]⟩, 22)]) (b := [(1, 1), (350, 1), (349, 70), (348, 2)]) (by kernel_rfl) ?_
      refine OpK.asCall rfl calAb rfl (((hsnd.ok 25 (.val false .bool) (by kernel_rfl)).2 w6 (fun _ => False) (.b z) [.bool z] d6 _ rfl hkw6.grew.own (fun k h => h.elim) (by simp only [List.length_append]; omega)).mono ?_)
      rintro en w7 ⟨d7, he7, hg7⟩
      refine ⟨_, he7, ?_⟩
      show CWL _ _ _ _ _ _
      have hkw7 := hkw6.more hg7
      show CWL _ _ _ _ _ _
      try refine CWL.nil_ (P := Tryd.prog) (n := 0) ?_
      show CWL _ _ _ _ _ _
      refine CWL.reg (ops := [(.binOp .add 3 (.tmp 328) (.const (Go.Value.int Go.IntKind.i64 1)) 3, 3)]) (b := [(164, 1), (351, 1)]) (by kernel_rfl) ?_
      refine OpK.arith rfl rfl rfl ?_
      show CWL _ _ _ _ _ _
      try refine CWL.nil_ (P := Tryd.prog) (n := 0) ?_
      refine ⟨mm - 1, by omega, i + 1, d7, by omega, rfl, rfl, rfl, rfl, rfl, rfl, ?_, ?_⟩
      · show Value.int .i64 (IntKind.i64.wrap ((i : Int) + 1)) = _
        congr 1
        rw [IntKind.wrap_i64]
        omega
      · rw [htk, ← List.append_assoc pre, hbs, hB]
        simp only [List.append_assoc] at hkw7 ⊢
        exact hkw7
    · refine CWL.condF (congrArg Value.bool (decide_eq_false (by omega))) ?_
      simp only [flat, List.cons_append, List.nil_append, List.append_nil]
      refine CWL.cons (CW.exit ?_)
      show CWL _ _ _ _ _ _
      rw [List.take_of_length_le (by omega)] at hkw
      have hrtl := hrt.keepMono (w' := wl) (S' := fun k => k < w.heap.size) (fun k hk => hcwl.block k hk fun h => h) (fun k hk => hk)
      have htagl : Is wl (fun k => k < w.heap.size) g 8 .tags (.tags tl) := ⟨[c], hrtl, fun j x hj => by
        cases j with
        | zero => simp only [List.getElem?_cons_zero, Option.some.injEq] at hj; subst hj; exact hld wl hcwl 8 _ (hat4 4 _ rfl)
        | succ j => simp at hj⟩
      refine CWL.reg (ops := [(.nilCheck (.tmp 0), 0), (.fieldAddr 45 (.tmp 1) 8, 0), (.call ⟨.value (.func 20), #[.tmp 3, .tmp 2], #[43, 22]⟩, 22)]) (b := [(1, 5), (356, 5), (355, 2), (354, 3), (353, 1), (352, 0)]) (by kernel_rfl) ?_
      refine OpK.nilCheck rfl ?_
      refine OpK.fieldAddr (off := 8) (by kernel_rfl) rfl ?_
      refine OpK.asCall rfl calTe rfl (((hsnd.ok 20 .teach (by kernel_rfl)).2 wl (fun k => k < w.heap.size) g 8 (.tags tl) d _ (.inl rfl) htagl hg hkw.grew.own (fun k hk => ⟨by have := hcwl.size; omega, fun h => by rcases hkw.grew.blk k h with h1 | h1; (cases h1); omega⟩) (by rw [List.length_append]; show _ + (encEach tl).length ≤ _; omega)).mono ?_)
      rintro en w6 ⟨d6, he6, hg6⟩
      refine ⟨_, he6, ?_⟩
      show CWL _ _ _ _ _ _
      show CWL _ _ _ _ _ _
      refine CWL.reg (ops := []) (b := [(4, 2), (357, 2)]) (by kernel_rfl) ?_
      show CWL _ _ _ _ _ _
      refine CWL.ret ?_
      refine ⟨_, rfl, ?_⟩
      have := hkw.grew.trans hg6
      rw [← hpre] at this
      simp only [List.append_assoc] at this ⊢
      exact this

end Go.Proofs.YtkgelojkhmjhkaaDoor.ApiVersionsResponse
