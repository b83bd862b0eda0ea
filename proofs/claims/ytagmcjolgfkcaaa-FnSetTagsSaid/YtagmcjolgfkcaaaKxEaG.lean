/- Going through a map of tags with any function. -/
import Derived.Test.YtagmcjolgfkcaaaKxEach6
import Derived.Test.YtagmcjolgfkcaaaKxSnd
import Derived.Test.YtagmcjolgfkcaaaKxSaid
namespace Go.Proofs.Ytagmcjolgfkcaaa.EaG
open Go.Kx Go.RowKit Go.Proofs Ytagmcjolgfkcaaa.Snd
set_option maxRecDepth 100000
set_option linter.unusedSimpArgs false
set_option linter.unusedVariables false

theorem callE : Callable Try.prog 18 := ⟨Try.f18, Try.func18, by kernel_rfl, by kernel_rfl⟩
theorem u32 : U32 Try.prog 33 := by unfold U32; kernel_rfl
theorem undK : Try.prog.underlying 52 = some (.slice 33) := by kernel_rfl
theorem undk : Try.prog.underlying 33 = some (.int .u32) := by kernel_rfl

set_option maxHeartbeats 8000000 in
theorem eachG (hsort : SortIs Try.prog 22 23 52 33) {g o r clk : Nat} {es : Array MapEntry} {l : List (Nat × List UInt8)} {S : Nat → Prop} {w : World}
    {f : FuncId} (hf : Callable Try.prog f) {caps : Array Value} {Inv : (Nat → Prop) → World → List (Nat × List UInt8) → Prop} (T : Tells Try.prog f caps S l Inv) {F : Nat → Prop} (hF : Inv F w [])
    (hc0 : w.cell? ⟨g, o + 0, none⟩ = some (.map (some r))) (hSg : S g) (hSr : S r) (hm : w.heap[r]? = some (.map es clk))
    (hst : (l.map (·.1)).Nodup ∧ MapKept.Stamped es clk) (hA : All2 (TagAt w S) es.toList l) (hS : ∀ i, S i → i < w.heap.size ∧ ¬ F i) (hne : l ≠ []) :
    Calls Try.prog 18 #[.pointer (some ⟨g, o, none⟩), .func (.func f) #[] caps] w fun en w' => en = .returned (.tuple #[]) ∧ ∃ F', Inv F' w' (sortTags l) ∧ (∀ i, F' i → F i ∨ w.heap.size ≤ i) ∧ Ch F w w' := by
  have hlen : es.size = l.length := by rw [← hA.len]; simp
  have hpos : 0 < l.length := List.length_pos_iff.2 hne
  have hks : ∀ x ∈ l, x.1 < 4294967296 := fun x hx => by
    obtain ⟨i, hi⟩ := List.mem_iff_getElem?.1 hx
    have hil : i < es.toList.length := by rw [hA.len]; exact (List.getElem?_eq_some_iff.1 hi).1
    exact (hA.at_ i es.toList[i] x (List.getElem?_eq_getElem hil) hi).2.1
  have hfew := few_tags hst.1 hks
  have cellN : ∀ {w' : World}, Ch (fun _ => False) w w' → w'.cell? ((⟨g, o, none⟩ : Addr).add 0) = some (.map (some r)) := fun h => by
    rw [addr_add_zero]
    exact (World.cell?_of_block (w := w) (h.block g (hS g hSg).1 fun h => h)).trans (by simpa using hc0)
  have mapN : ∀ {w' : World}, Ch (fun _ => False) w w' → w'.heap[r]? = some (.map es clk) := fun h => (h.block r (hS r hSr).1 fun h => h).trans hm
  refine (Calls.of_CW (R := fun x w' => x = .tuple #[] ∧ ∃ F', Inv F' w' (sortTags l) ∧ (∀ i, F' i → F i ∨ w.heap.size ≤ i) ∧ Ch F w w') Try.func18 rfl (by decide +kernel) (Nat.le_of_ble_eq_true (by kernel_rfl)) (CW.of_flat ?_)).mono fun en w' ⟨x, he, hx, hR⟩ => ⟨by rw [he, hx], hR⟩
  simp only [flat, List.cons_append, List.nil_append, List.append_nil]
  refine CWL.reg (ops := [(.nilCheck (.tmp 0), 0), (.fieldAddr 41 (.tmp 1) 0, 0), (.load 39 (.tmp 3), 39), (.call ⟨.builtin .len, #[.tmp 5], #[39]⟩, 3), (.binOp .eql 3 (.tmp 7) (.const (Go.Value.int Go.IntKind.i64 0)) 3, 4)]) (b := [(13, 9), (12, 7), (11, 5), (10, 3), (9, 1), (8, 0)]) (by kernel_rfl) ?_
  refine OpK.nilCheck rfl ?_
  refine OpK.fieldAddr (off := 0) (by kernel_rfl) rfl ?_
  refine OpK.load (by kernel_rfl) rfl (cellN (Ch.refl _ _)) ?_
  refine OpK.lenMap undm rfl hm ?_
  refine OpK.cmp (op := .eql) (k := .i64) (a := (es.size : Int)) (b := 0) rfl rfl rfl ?_
  show CWL _ _ _ _ _ _
  refine CWL.condF (congrArg Value.bool (show _ = false by first | exact beq_eq_false_iff_ne.2 (by omega) | exact decide_eq_false (by omega))) ?_
  simp only [flat, List.cons_append, List.nil_append, List.append_nil]
  refine CWL.reg (ops := [(.nilCheck (.tmp 0), 0), (.fieldAddr 41 (.tmp 1) 0, 0), (.load 39 (.tmp 3), 39), (.call ⟨.builtin .len, #[.tmp 5], #[39]⟩, 3), (.makeSlice 52 (.const (Go.Value.int Go.IntKind.i64 0)) (.tmp 7), 52), (.alloc 52, 0), (.store 52 (.tmp 11) (.tmp 9), 0)]) (b := [(4, 11), (19, 9), (18, 7), (17, 5), (16, 3), (15, 1), (14, 0)]) (by kernel_rfl) ?_
  refine OpK.nilCheck rfl ?_
  refine OpK.fieldAddr (off := 0) (by kernel_rfl) rfl ?_
  refine OpK.load (by kernel_rfl) rfl (cellN (Ch.refl _ _)) ?_
  refine OpK.lenMap undm rfl hm ?_
  refine OpK.makeKeys undK u32 rfl rfl (by omega) fun w1 v1 hown1 hv1 hch1 hlt1 => ?_
  refine OpK.allocArr (i := _) (z := .slice none 0 0) rfl rfl ?_
  have hbB : Blk (w1.alloc (.cells (Value.slice none 0 0).cells 52)) w1.heap.size 52 [Value.slice none 0 0] := Blk.new w1 52 [.slice none 0 0]
  refine OpK.store (a := ⟨w1.heap.size, 0, none⟩) (v := v1) (by kernel_rfl) rfl rfl (by rw [hv1]; rfl) (show ((w1.alloc (.cells (Value.slice none 0 0).cells 52)).cell? ⟨w1.heap.size, 0, none⟩).isSome = true by rw [hbB.cell 0]; rfl) (hbB.free 0) ?_
  show CWL _ _ _ _ _ _
  have hK : KJ 33 52 w w1.heap.size ((w1.alloc (.cells (Value.slice none 0 0).cells 52)).setCell ⟨w1.heap.size, 0, none⟩ v1) v1 [] := by
    have hsc : Ch (fun i => i = w1.heap.size) (w1.alloc (.cells (Value.slice none 0 0).cells 52)) ((w1.alloc (.cells (Value.slice none 0 0).cells 52)).setCell ⟨w1.heap.size, 0, none⟩ v1) := Ch.set (S := fun i => i = w1.heap.size) _ (a := ⟨w1.heap.size, 0, none⟩) rfl v1
    have hal : Ch (fun _ => False) w1 (w1.alloc (.cells (Value.slice none 0 0).cells 52)) := Ch.alloc _ w1 _
    have hch1s := hch1.size
    refine ⟨(hch1.trans hal fun i _ h => h).trans hsc fun i hi e => by omega, hbB.set 0 v1, ?_, ?_, by omega, ?_⟩
    · refine hown1.keep fun k hk => ?_
      have := hown1.lt hk
      rw [hsc.block k (by simp; omega) (by omega), hal.block k this fun h => h]
    · rw [hv1]
      simp only [Value.ownBlock, ne_eq, Option.some.injEq]
      omega
    · intro i hi
      rw [hv1] at hi
      simp only [Value.ownBlock, Option.some.injEq] at hi
      omega
  show CWL _ _ _ _ _ _
  generalize ((w1.alloc (.cells (Value.slice none 0 0).cells 52)).setCell ⟨w1.heap.size, 0, none⟩ v1) = w2 at hK ⊢
  clear hbB
  generalize w1.heap.size = B at hK ⊢
  clear hown1 hch1 hlt1 hv1
  obtain ⟨hkeys, hkey⟩ := keys_of hA
  have hborn := hst.2
  refine CWL.reg (ops := [(.nilCheck (.tmp 0), 0), (.fieldAddr 41 (.tmp 1) 0, 0), (.load 39 (.tmp 3), 39), (.range 39 (.tmp 5), 0)]) (b := [(24, 7), (23, 5), (22, 3), (21, 1), (20, 0)]) (by kernel_rfl) ?_
  refine OpK.nilCheck rfl ?_
  refine OpK.fieldAddr (off := 0) (by kernel_rfl) rfl ?_
  refine OpK.load (by kernel_rfl) rfl (cellN hK.chw) ?_
  refine OpK.range undm rfl (mapN hK.chw) ?_
  show CWL _ _ _ _ _ _
  have hK3 := hK.other (Ch.alloc (fun _ => False) w2 (.mapIter (some r) clk #[] clk)) (fun _ _ hf => hf.elim)
  have hI : (w2.alloc (.mapIter (some r) clk #[] clk)).heap[w2.heap.size]? = some (.mapIter (some r) clk #[] clk) := heap_alloc_new w2 _
  have hIlo : w.heap.size ≤ w2.heap.size ∧ w2.heap.size ≠ B ∧ v1.ownBlock ≠ some w2.heap.size := by
    have h1 := hK.chw.size
    have h3 := hK.blk.lt
    exact ⟨h1, by omega, fun h => by have := hK.own.lt h; omega⟩
  generalize w2.heap.size = I at hI hIlo ⊢
  generalize w2.alloc (.mapIter (some r) clk #[] clk) = w3 at hK3 hI ⊢
  refine CWL.cons (CW.block (CW.loop (fun m σ wl => ∃ seen v ks, m = (leftOf es seen).size ∧ σ 0 = .pointer (some ⟨g, o, none⟩) ∧ σ 1 = .func (.func f) #[] caps ∧ σ 4 = .pointer (some ⟨B, 0, none⟩) ∧ σ 24 = .pointer (some ⟨I, 0, none⟩) ∧ KJ 33 52 w B wl v ks ∧
      wl.heap[I]? = some (.mapIter (some r) clk seen clk) ∧ v.ownBlock ≠ some I ∧ (ks ++ (leftOf es seen).toList.map keyN).Perm (l.map (·.1))) es.size
    ⟨#[], v1, [], by rw [left_none], rfl, rfl, rfl, rfl, hK3, hI, hIlo.2.2, by rw [left_none, List.nil_append, hkeys]⟩ ?_))
  rintro m σ wl ⟨seen, v, ks, rfl, hσ0, hσ1, hσ4, hσ24, hKl, hIl, hvI, hperm⟩
  refine CW.pin [(0, .pointer (some ⟨g, o, none⟩)), (1, .func (.func f) #[] caps), (4, .pointer (some ⟨B, 0, none⟩)), (24, .pointer (some ⟨I, 0, none⟩))] (all_pin hσ0 (all_pin hσ1 (all_pin hσ4 (all_pin hσ24 (fun _ h => by cases h))))) fun σ => ?_
  simp only [flat, List.cons_append, List.nil_append, List.append_nil]
  refine CWL.reg (ops := [(.next (.tmp 48) false, 0), (.extract (.tmp 1) 0, 4)]) (b := [(26, 3), (25, 1)]) (by kernel_rfl) ?_
  refine OpK.next rfl hIl (mapN hKl.chw) hborn.1 (Nat.le_refl _) (fun h0 => ?_) (fun e he w4 hw4 => ?_)
  · refine OpK.extract (vs := #[.bool false]) (v := .bool false) rfl rfl ?_
    have hks2 : ks.Perm (l.map (·.1)) := by
      have : (leftOf es seen).toList = [] := List.eq_nil_of_length_eq_zero (by simpa using h0)
      rw [this, List.map_nil, List.append_nil] at hperm
      exact hperm
    have hklen : ks.length = l.length := by simpa using hks2.length_eq
    obtain ⟨gK, cK, rfl⟩ : ∃ gK cK, v = .slice (some ⟨gK, 0, none⟩) ks.length cK := by
      rcases hKl.own.2 with ⟨_, h⟩ | ⟨gK, cK, _, h, _⟩
      · omega
      · exact ⟨gK, cK, h⟩
    refine CWL.condF rfl ?_
    simp only [flat, List.cons_append, List.nil_append, List.append_nil]
    refine CWL.cons (CW.exit ?_)
    show CWL _ _ _ _ _ _
    have hlt : (∀ k ∈ ks, k < 4294967296) := fun k hk => by
      obtain ⟨x, hx, rfl⟩ := List.mem_map.1 (hks2.mem_iff.1 hk)
      exact hks x hx
    have hgB : gK ≠ B := fun e => hKl.ne (by rw [e]; rfl)
    have hgKlo : w.heap.size ≤ gK := hKl.vlo gK rfl
    refine CWL.reg (ops := [(.load 52 (.tmp 8), 52), (.makeInterface 52 (.tmp 1), 20), (.makeFunc (.func 23) #[] #[.tmp 8], 54), (.call ⟨.value (.func 22), #[.tmp 3, .tmp 5], #[20, 54]⟩, 0)]) (b := [(36, 7), (35, 5), (34, 3), (33, 1)]) (by kernel_rfl) ?_
    refine OpK.load (by kernel_rfl) rfl (hKl.blk.cell 0) ?_
    refine OpK.makeIf (v := .slice (some ⟨gK, 0, none⟩) ks.length cK) undK rfl ?_
    refine OpK.makeFunc ?_
    refine OpK.asCall rfl hsort.1 rfl ?_
    refine calls_args (a := #[.iface 52 (.slice (some ⟨gK, 0, none⟩) ks.length cK), .func (.func 23) #[] #[.pointer (some ⟨B, 0, none⟩)]]) (by simp [upd, enF, outF, Go.Kx.look, Go.Kx.pin]) ?_
    refine (hsort.2 wl gK B cK ks hKl.blk hKl.own hgB (by omega) (by omega) hlt).mono ?_
    rintro en w5 ⟨he5, ds, hdp, hds, hch5, hown5⟩
    refine ⟨_, he5, ?_⟩
    show CWL _ _ _ _ _ _
    have hdk : ds = (sortTags l).map (·.1) := sorted_keys hst.1 (hdp.trans hks2) hds
    have hdlen : ds.length = ks.length := hdp.length_eq
    have hsl : (sortTags l).length = l.length := sortTags_len l
    have hcw5 : Ch (fun _ => False) w w5 := hKl.chw.trans hch5 fun i hi e => by omega
    have hb5 : Blk w5 B 52 [.slice (some ⟨gK, 0, none⟩) ks.length cK] := hKl.blk.keep (hch5.block B hKl.blk.lt fun e => hgB e.symm)
    have hgK5 : gK < w5.heap.size := Nat.lt_of_lt_of_le (hKl.own.lt rfl) hch5.size
    have hcellK : ∀ i x, (sortTags l)[i]? = some x → w5.cell? ((⟨gK, 0, none⟩ : Addr).add i) = some (kv x.1) := fun i x hx => by
      refine World.ownsRow.cells hown5 (g := gK) rfl i (kv x.1) ?_
      rw [hdk]
      simp [hx]
    refine CWL.reg (ops := [(.load 52 (.tmp 8), 52), (.call ⟨.builtin .len, #[.tmp 1], #[52]⟩, 3), (.move (.const (Go.Value.int Go.IntKind.i64 0)), 3)]) (b := [(39, 5), (38, 3), (37, 1)]) (by kernel_rfl) ?_
    refine OpK.load (by kernel_rfl) rfl (hb5.cell 0) ?_
    refine OpK.len (e := 33) (by kernel_rfl) rfl ?_
    refine OpK.move ?_
    show CWL _ _ _ _ _ _
    have hInv5 : Inv F w5 [] := T.keep hF hcw5.size fun i hi => hcw5.block i (T.lt hF i hi) fun h => h
    refine CWL.cons (CW.block (CW.loop (fun m σ wl => ∃ i F', m = l.length - i ∧ i ≤ l.length ∧ σ 0 = .pointer (some ⟨g, o, none⟩) ∧ σ 1 = .func (.func f) #[] caps ∧ σ 37 = .slice (some ⟨gK, 0, none⟩) ks.length cK ∧ σ 38 = .int .i64 (ks.length : Int) ∧ σ 39 = .int .i64 (i : Int) ∧
        Inv F' wl ((sortTags l).take i) ∧ (∀ i, F' i → F i ∨ w5.heap.size ≤ i) ∧ Ch F w5 wl) l.length
      ⟨0, F, by omega, by omega, rfl, rfl, rfl, rfl, rfl, by simpa using hInv5, fun _ h => .inl h, Ch.refl _ _⟩ ?_))
    rintro m σ wl ⟨i, F', rfl, hi, hσ0, hσ1, hσ37, hσ38, hσ39, hIv, hFF, hcl⟩
    refine CW.pin [(0, .pointer (some ⟨g, o, none⟩)), (1, .func (.func f) #[] caps), (37, .slice (some ⟨gK, 0, none⟩) ks.length cK), (38, .int .i64 (ks.length : Int)), (39, .int .i64 (i : Int))] (all_pin hσ0 (all_pin hσ1 (all_pin hσ37 (all_pin hσ38 (all_pin hσ39 (fun _ h => by cases h)))))) fun σ => ?_
    simp only [flat, List.cons_append, List.nil_append, List.append_nil]
    refine CWL.reg (ops := [(.binOp .lss 3 (.tmp 78) (.tmp 76) 3, 0)]) (b := [(40, 1)]) (by kernel_rfl) ?_
    refine OpK.cmp rfl rfl rfl ?_
    show CWL _ _ _ _ _ _
    by_cases hil : i < l.length
    rotate_left
    · have hie : i = l.length := by omega
      refine CWL.condF (congrArg Value.bool (decide_eq_false (by omega))) ?_
      simp only [flat, List.cons_append, List.nil_append, List.append_nil]
      refine CWL.cons (CW.exit ?_)
      simp only [Then, InBlock, if_true]
      refine CWL.nil_ ⟨_, rfl, rfl, F', ?_, fun j hj => ?_, (hcw5.mono fun _ _ h => h.elim).trans' hcl⟩
      · rw [hie, ← hsl, List.take_length] at hIv
        exact hIv
      · rcases hFF j hj with h | h
        · exact .inl h
        · exact .inr (Nat.le_trans hcw5.size h)
    refine CWL.condT (congrArg Value.bool (decide_eq_true (by omega))) ?_
    simp only [flat, List.cons_append, List.nil_append, List.append_nil]
    refine CWL.block ?_
    simp only [flat, List.cons_append, List.nil_append, List.append_nil]
    have hil2 : i < (sortTags l).length := by omega
    obtain ⟨x, hx⟩ : ∃ x, (sortTags l)[i]? = some x := ⟨_, List.getElem?_eq_getElem hil2⟩
    have hxl : x ∈ l := sortTags_mem.1 (List.mem_of_getElem? hx)
    have hcx : wl.cell? ((⟨gK, 0, none⟩ : Addr).add (i * 1)) = some (kv x.1) := by
      rw [Nat.mul_one]
      exact (World.cell?_of_block (w := w5) (by rw [block_add]; exact hcl.block gK hgK5 fun h => by have := T.lt hF _ h; omega)).trans (hcellK i x hx)
    have keepL : ∀ i, S i → wl.heap[i]? = w.heap[i]? := fun i hi => (hcl.block i (Nat.lt_of_lt_of_le (hS i hi).1 hcw5.size) (hS i hi).2).trans (hcw5.block i (hS i hi).1 fun h => h)
    have hAl : All2 (TagAt wl S) es.toList l := All2.of_get hA.len fun i a b ha hb => (hA.at_ i a b ha hb).keep keepL
    have hSl : ∀ i, S i → i < wl.heap.size ∧ ¬ F' i := fun i hi => ⟨by have := (hS i hi).1; have := hcw5.size; have := hcl.size; omega, fun h => by
      rcases hFF i h with h1 | h1
      · exact (hS i hi).2 h1
      · have := (hS i hi).1; have := hcw5.size; omega⟩
    refine CWL.reg (ops := [(.indexAddr 52 (.tmp 74) (.tmp 78), 0), (.load 33 (.tmp 1), 33)]) (b := [(7, 3), (42, 3), (41, 1)]) (by kernel_rfl) ?_
    refine OpK.indexAddr (s := 1) (j := i) (by kernel_rfl) rfl rfl (by omega) ?_
    refine OpK.load (by kernel_rfl) rfl (hcx) ?_
    show CWL _ _ _ _ _ _
    have hsplit : (sortTags l).take i ++ x :: (sortTags l).drop (i + 1) = sortTags l := by
      have : (sortTags l).drop i = x :: (sortTags l).drop (i + 1) := by
        rw [List.drop_eq_getElem_cons hil2]
        congr 1
        exact (List.getElem?_eq_some_iff.1 hx).2
      rw [← this, List.take_append_drop]
    refine CWL.reg (ops := [(.nilCheck (.tmp 0), 0), (.fieldAddr 41 (.tmp 1) 0, 0), (.load 39 (.tmp 3), 39), (.lookup 39 (.tmp 5) (.tmp 14) false, 27), (.call ⟨.value (.tmp 2), #[.tmp 14, .tmp 7], #[33, 27]⟩, 0)]) (b := [(51, 9), (50, 7), (49, 14), (48, 5), (47, 3), (46, 1), (45, 0), (44, 14), (43, 2)]) (by kernel_rfl) ?_
    refine OpK.nilCheck rfl ?_
    refine OpK.fieldAddr (off := 0) (by kernel_rfl) rfl ?_
    refine OpK.load (by kernel_rfl) rfl ((by rw [addr_add_zero]; exact (World.cell?_of_block (w := w) (keepL g hSg)).trans (by simpa using hc0))) ?_
    refine OpK.lookTag (r := r) (k := x.1) (xs := x.2) undm undk rfl rfl ((keepL r hSr).trans hm) hst.1 hAl hxl fun vx hvx => ?_
    refine OpK.callVal (f := f) (caps := caps) rfl hf ?_
    refine calls_args (a := #[.int .u32 (x.1 : Int), vx] ++ caps) (by simp [upd, enF, outF, Go.Kx.look, Go.Kx.pin, kv]) ?_
    refine (T.next hIv hsplit (hks x hxl) hvx hSl).mono ?_
    rintro en w7 ⟨he7, F7, hI7, hF7, hc7⟩
    refine ⟨_, he7, ?_⟩
    show CWL _ _ _ _ _ _
    try refine CWL.nil_ (P := Try.prog) (n := 0) ?_
    show CWL _ _ _ _ _ _
    have hi1 := i64_succ i (by omega)
    refine CWL.reg (ops := [(.binOp .add 3 (.tmp 78) (.const (Go.Value.int Go.IntKind.i64 1)) 3, 3)]) (b := [(39, 1), (52, 1)]) (by kernel_rfl) ?_
    refine OpK.arith (r := ((i + 1 : Nat) : Int)) (by rw [← hi1]; rfl) rfl rfl ?_
    show CWL _ _ _ _ _ _
    try refine CWL.nil_ (P := Try.prog) (n := 0) ?_
    refine ⟨l.length - (i + 1), by omega, i + 1, F7, rfl, by omega, rfl, rfl, rfl, rfl, rfl, ?_, fun j hj => ?_, hcl.trans hc7 fun j hj h => ?_⟩
    · rw [List.take_add_one, hx]
      exact hI7
    · rcases hF7 j hj with h | h
      · exact hFF j h
      · exact .inr (Nat.le_trans hcl.size h)
    · rcases hFF j h with h1 | h1
      · exact h1
      · omega
  · refine OpK.extract (vs := #[.bool true, e.key, e.val]) (v := .bool true) rfl rfl ?_
    have hIlt : I < wl.heap.size := (Array.getElem?_eq_some_iff.1 hIl).1
    have hch4 := step_ch hw4 I (.mapIter (some r) clk (seen.push e.born) clk)
    have hI4 := step_at hw4 (.mapIter (some r) clk (seen.push e.born) clk) hIlt
    generalize ChangeMaps.setBlock w4 I (.mapIter (some r) clk (seen.push e.born) clk) = w5 at hch4 hI4 ⊢
    have hK5 := hKl.other hch4 (fun i _ hi => by subst hi; exact ⟨hIlo.1, hIlo.2.1, hvI⟩)
    have het : e ∈ es.toList := by
      unfold leftOf at he
      rw [Array.toList_filter] at he
      exact (List.mem_filter.1 he).1
    have hbn := (MapKept.stamped_iff es clk).1 hborn
    refine CWL.condT rfl ?_
    simp only [flat, List.cons_append, List.nil_append, List.append_nil]
    refine CWL.block ?_
    simp only [flat, List.cons_append, List.nil_append, List.append_nil]
    refine CWL.reg (ops := [(.entry (.tmp 48), 0), (.extract (.tmp 1) 0, 33)]) (b := [(5, 3), (28, 3), (27, 1)]) (by kernel_rfl) ?_
    refine OpK.entry rfl hI4 (mapN hK5.chw) het hbn.2.1 ?_
    refine OpK.extract (vs := #[e.key, e.val]) (v := kv (keyN e)) rfl (by rw [← hkey e het]; rfl) ?_
    show CWL _ _ _ _ _ _
    have hkl : ks.length < 4294967296 := by
      have h1 := hperm.length_eq
      simp only [List.length_append, List.length_map] at h1
      have h2 : 0 < (leftOf es seen).toList.length := List.length_pos_iff.2 (fun h => by rw [h] at he; cases he)
      omega
    obtain ⟨v', w6, hr6, hown6, hch6, hv6⟩ := append_key (ty := 52) undK u32 hK5.own (keyN e) hkl
    obtain ⟨hK6, hb6⟩ := hK5.push hch6 hown6 hv6
    have one : v'.oneCell' = true := by
      rcases hown6.2 with ⟨rfl, _⟩ | ⟨_, _, _, rfl, _⟩ <;> rfl
    refine CWL.reg (ops := [(.load 52 (.tmp 8), 52), (.buildSlice 52 1 #[(0, .tmp 10)], 52), (.call ⟨.builtin .append, #[.tmp 1, .tmp 3], #[52, 52]⟩, 52), (.store 52 (.tmp 8) (.tmp 5), 0)]) (b := [(32, 5), (31, 3), (30, 10), (29, 1)]) (by kernel_rfl) ?_
    refine OpK.load (by kernel_rfl) rfl (hK5.blk.cell 0) ?_
    refine OpK.buildS (by simp only [List.map_toArray, List.map_cons, List.map_nil]; exact run_bsK undK u32 (keyN e)) ?_
    refine OpK.run rfl (v := v') (w' := w6) hr6 ?_
    refine OpK.store (a := ⟨B, 0, none⟩) (v := v') (by kernel_rfl) rfl rfl one (by rw [hb6.cell 0]; rfl) (hb6.free 0) ?_
    show CWL _ _ _ _ _ _
    have hstep := left_step hbn.2.1 he
    have hI6 : (w6.setCell ⟨B, 0, none⟩ v').heap[I]? = some (.mapIter (some r) clk (seen.push e.born) clk) := by
      have hIlt5 : I < w5.heap.size := (Array.getElem?_eq_some_iff.1 hI4).1
      have hsc : Ch (fun i => i = B) w6 (w6.setCell ⟨B, 0, none⟩ v') := Ch.set (S := fun i => i = B) w6 (a := ⟨B, 0, none⟩) rfl v'
      rw [hsc.block I (Nat.lt_of_lt_of_le hIlt5 hch6.size) hIlo.2.1, hch6.block I hIlt5 hvI]
      exact hI4
    try refine CWL.nil_ (P := Try.prog) (n := 0) ?_
    refine ⟨(leftOf es (seen.push e.born)).size, ?_, seen.push e.born, v', ks ++ [keyN e], rfl, rfl, rfl, rfl, rfl, hK6, hI6, ?_, ?_⟩
    · have := hstep.length_eq
      simp only [List.length_cons, Array.length_toList] at this
      omega
    · intro hh
      rcases hv6 I hh with h1 | h1
      · exact hvI h1
      · have hIlt5 : I < w5.heap.size := (Array.getElem?_eq_some_iff.1 hI4).1
        omega
    · refine List.Perm.trans ?_ hperm
      rw [List.append_assoc]
      refine List.Perm.append_left ks ?_
      exact ((hstep.map keyN).symm : List.Perm _ _)
end Go.Proofs.Ytagmcjolgfkcaaa.EaG
