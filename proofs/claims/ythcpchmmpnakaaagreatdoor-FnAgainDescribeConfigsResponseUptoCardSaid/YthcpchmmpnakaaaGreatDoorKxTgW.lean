/- The writing of unknown tags: the function value, and going through the map. -/
import Derived.Test.YthcpchmmpnakaaaGreatDoorKxSortP
import Derived.Test.YthcpchmmpnakaaaGreatDoorKxSnd
import Derived.Test.YthcpchmmpnakaaaGreatDoorKxSaid
namespace Go.Proofs.YthcpchmmpnakaaaGreatDoor.TgW
open Go.Kx Go.RowKit Go.Proofs YthcpchmmpnakaaaGreatDoor.Snd
set_option maxRecDepth 100000
set_option linter.unusedSimpArgs false
set_option linter.unusedVariables false

theorem call75 : Callable Tryz.prog 75 := ⟨Tryz.f75, Tryz.func75, by kernel_rfl, by kernel_rfl⟩
set_option maxHeartbeats 4000000 in
theorem one75 {w0 : World} {d0 : Value} {bo : Nat} {X : Nat → Prop} {w : World} {d : Value} {bs : List UInt8} (hB : BoxSt 5 w0 d0 bo 22 X w d bs) {k : Nat} (hk : k < 4294967296) {xs : List UInt8} {S : Nat → Prop} {v : Value} (hv : OctIs w0 S xs v)
    (hS : ∀ i, S i → i < w0.heap.size ∧ d0.ownBlock ≠ some i) (hl : bs.length + (encTag (k, xs)).length ≤ Lim) :
    Calls Tryz.prog 75 #[.int .u32 (k : Int), v, .pointer (some ⟨bo, 0, none⟩)] w fun en w' => en = .returned (.tuple #[]) ∧ (∃ d', BoxSt 5 w0 d0 bo 22 X w' d' (bs ++ encTag (k, xs))) ∧ ∀ i, X i → w'.heap[i]? = w.heap[i]? := by
  simp only [encTag, List.length_append] at hl
  obtain ⟨a, c, rfl, ha, hO⟩ : ∃ (a : Option Addr) (c : Nat), v = .slice a xs.length c ∧ (a = none → xs = []) ∧ ∀ a', a = some a' → Oct w0 a' xs ∧ S a'.block := by
    rcases hv with ⟨rfl, rfl⟩ | ⟨a, c, rfl, _, h3, h4⟩
    · exact ⟨none, 0, rfl, (fun _ => rfl), (fun _ h => by cases h)⟩
    · exact ⟨some a, c, rfl, (fun h => by cases h), (fun a' h => by cases h; exact ⟨h4, h3⟩)⟩
  have form : ∀ {w' : World} {v' : Value} {b' : List UInt8}, Own 5 w' v' b' → ∃ a c, v' = .slice a b'.length c := fun h => by obtain ⟨a, c, h, _⟩ := h.len; exact ⟨a, c, h⟩
  have one : ∀ {w' : World} {v' : Value} {b' : List UInt8}, Own 5 w' v' b' → v'.oneCell' = true := fun h => by obtain ⟨a, c, rfl⟩ := form h; rfl
  have octIn : ∀ {w' : World} {v' : Value} {b' : List UInt8}, Grew 5 w0 d0 w' v' b' → ∀ a', a = some a' → Oct w' a' xs := fun h a' e => (hO a' e).1.keep (h.keep (hS _ (hO a' e).2).1 (hS _ (hO a' e).2).2)
  refine (Calls.of_CW (R := fun x w' => x = .tuple #[] ∧ (∃ d', BoxSt 5 w0 d0 bo 22 X w' d' (bs ++ encTag (k, xs))) ∧ ∀ i, X i → w'.heap[i]? = w.heap[i]?) Tryz.func75 rfl (by decide +kernel) (Nat.le_of_ble_eq_true (by kernel_rfl)) (CW.of_flat ?_)).mono fun en w' ⟨x, he, hx, hR⟩ => ⟨by rw [he, hx], hR⟩
  simp only [flat, List.cons_append, List.nil_append, List.append_nil]
  refine CWL.reg (ops := [(.load 22 (.tmp 4), 22), (.call ⟨.value (.func 41), #[.tmp 1, .tmp 0], #[22, 53]⟩, 22), (.store 22 (.tmp 4) (.tmp 3), 0)]) (b := [(7, 3), (6, 0), (5, 1)]) (by kernel_rfl) ?_
  refine OpK.load (by kernel_rfl) rfl (hB.blk.cell 0) ?_
  refine OpK.asCall rfl call41 rfl ((c41 w k _ rfl hk d bs hB.grew.own (by omega)).mono ?_)
  rintro en w1 ⟨d1, he1, hg1⟩
  refine ⟨d1, he1, ?_⟩
  obtain ⟨hB1, hX1, hb1⟩ := hB.put hg1
  refine OpK.store (by kernel_rfl) rfl rfl (one hg1.own) (by rw [hb1.cell 0]; rfl) (hb1.free 0) ?_
  refine CWL.reg (ops := [(.load 22 (.tmp 4), 22), (.call ⟨.builtin .len, #[.tmp 2], #[22]⟩, 3), (.convert 3 53 (.tmp 3), 53), (.call ⟨.value (.func 41), #[.tmp 1, .tmp 5], #[22, 53]⟩, 22), (.store 22 (.tmp 4) (.tmp 7), 0)]) (b := [(12, 7), (11, 5), (10, 3), (9, 2), (8, 1)]) (by kernel_rfl) ?_
  refine OpK.load (by kernel_rfl) rfl (hB1.blk.cell 0) ?_
  refine OpK.len (e := 5) (by kernel_rfl) rfl ?_
  refine OpK.convInt (k' := .u32) (by kernel_rfl) (by kernel_rfl) rfl ?_
  refine OpK.asCall rfl call41 rfl ((c41 _ (word xs.length) _ (by exact IntKind.wrap_u32 _) (word_lt _) d1 _ hB1.grew.own (by simp only [List.length_append]; omega)).mono ?_)
  rintro en w2 ⟨d2, he2, hg2⟩
  refine ⟨d2, he2, ?_⟩
  obtain ⟨hB2, hX2, hb2⟩ := hB1.put hg2
  refine OpK.store (by kernel_rfl) rfl rfl (one hg2.own) (by rw [hb2.cell 0]; rfl) (hb2.free 0) ?_
  obtain ⟨d3, w3, hr3, hg3⟩ := run_append_oct (ty := 22) (t := 22) u8 und hB2.grew.own (a := a) (l := xs) (c := c) ha (octIn hB2.grew) (by simp only [List.length_append]; omega)
  obtain ⟨hB3, hX3, hb3⟩ := hB2.put hg3
  refine CWL.reg (ops := [(.load 22 (.tmp 4), 22), (.call ⟨.builtin .append, #[.tmp 1, .tmp 2], #[22, 22]⟩, 22), (.store 22 (.tmp 4) (.tmp 3), 0)]) (b := [(15, 3), (14, 2), (13, 1)]) (by kernel_rfl) ?_
  refine OpK.load (by kernel_rfl) rfl (hB2.blk.cell 0) ?_
  refine OpK.run rfl hr3 ?_
  refine OpK.store (by kernel_rfl) rfl rfl (one hg3.own) (by rw [hb3.cell 0]; rfl) (hb3.free 0) ?_
  refine ⟨_, rfl, rfl, ⟨d3, ?_⟩, fun i hi => (hX3 i hi).trans ((hX2 i hi).trans (hX1 i hi))⟩
  rw [show bs ++ encTag (k, xs) = bs ++ uvar k ++ uvar (word xs.length) ++ xs by simp [encTag]]
  exact hB3

theorem call74 : Callable Tryz.prog 74 := ⟨Tryz.f74, Tryz.func74, by kernel_rfl, by kernel_rfl⟩
theorem u32 : U32 Tryz.prog 53 := by unfold U32; kernel_rfl
theorem undK : Tryz.prog.underlying 126 = some (.slice 53) := by kernel_rfl
theorem undk : Tryz.prog.underlying 53 = some (.int .u32) := by kernel_rfl

set_option maxHeartbeats 8000000 in
theorem each74 (hsort : SortIs Tryz.prog 83 84 126 53) {w0 : World} {d0 : Value} {bo g o r clk : Nat} {es : Array MapEntry} {l : List (Nat × List UInt8)} {S : Nat → Prop} {w : World} {d : Value} {bs : List UInt8}
    (hB : BoxSt 5 w0 d0 bo 22 (fun _ => False) w d bs) (hc0 : w0.cell? ⟨g, o + 0, none⟩ = some (.map (some r))) (hSg : S g) (hSr : S r) (hm : w0.heap[r]? = some (.map es clk))
    (hst : (l.map (·.1)).Nodup ∧ MapKept.Stamped es clk) (hA : All2 (TagAt w0 S) es.toList l) (hS : ∀ i, S i → i < w0.heap.size ∧ d0.ownBlock ≠ some i) (hne : l ≠ []) (hl : bs.length + (encEach l).length ≤ Lim) :
    Calls Tryz.prog 74 #[.pointer (some ⟨g, o, none⟩), .func (.func 75) #[] #[.pointer (some ⟨bo, 0, none⟩)]] w fun en w' => en = .returned (.tuple #[]) ∧ ∃ d', BoxSt 5 w0 d0 bo 22 (fun _ => False) w' d' (bs ++ encEach l) := by
  have hlen : es.size = l.length := by rw [← hA.len]; simp
  have hpos : 0 < l.length := List.length_pos_iff.2 hne
  have hks : ∀ x ∈ l, x.1 < 4294967296 := fun x hx => by
    obtain ⟨i, hi⟩ := List.mem_iff_getElem?.1 hx
    have hil : i < es.toList.length := by rw [hA.len]; exact (List.getElem?_eq_some_iff.1 hi).1
    exact (hA.at_ i es.toList[i] x (List.getElem?_eq_getElem hil) hi).2.1
  have hfew := few_tags hst.1 hks
  have keepS : ∀ {w' : World} {d' : Value} {bs' : List UInt8}, BoxSt 5 w0 d0 bo 22 (fun _ => False) w' d' bs' → ∀ i, S i → w'.heap[i]? = w0.heap[i]? := fun h i hi => h.grew.keep (hS i hi).1 (hS i hi).2
  have cellS : ∀ {w' : World} {d' : Value} {bs' : List UInt8}, BoxSt 5 w0 d0 bo 22 (fun _ => False) w' d' bs' → w'.cell? ⟨g, o + 0, none⟩ = some (.map (some r)) := fun h => (World.cell?_of_block (w := w0) (keepS h g hSg)).trans hc0
  have mapS : ∀ {w' : World} {d' : Value} {bs' : List UInt8}, BoxSt 5 w0 d0 bo 22 (fun _ => False) w' d' bs' → w'.heap[r]? = some (.map es clk) := fun h => (keepS h r hSr).trans hm
  refine (Calls.of_CW (R := fun x w' => x = .tuple #[] ∧ ∃ d', BoxSt 5 w0 d0 bo 22 (fun _ => False) w' d' (bs ++ encEach l)) Tryz.func74 rfl (by decide +kernel) (Nat.le_of_ble_eq_true (by kernel_rfl)) (CW.of_flat ?_)).mono fun en w' ⟨x, he, hx, hR⟩ => ⟨by rw [he, hx], hR⟩
  simp only [flat, List.cons_append, List.nil_append, List.append_nil]
  refine CWL.reg (ops := [(.nilCheck (.tmp 0), 0), (.fieldAddr 60 (.tmp 1) 0, 0), (.load 58 (.tmp 3), 58), (.call ⟨.builtin .len, #[.tmp 5], #[58]⟩, 3), (.binOp .eql 3 (.tmp 7) (.const (Go.Value.int Go.IntKind.i64 0)) 3, 4)]) (b := [(13, 9), (12, 7), (11, 5), (10, 3), (9, 1), (8, 0)]) (by kernel_rfl) ?_
  refine OpK.nilCheck rfl ?_
  refine OpK.fieldAddr (off := 0) (by kernel_rfl) rfl ?_
  refine OpK.load (by kernel_rfl) rfl (cellS hB) ?_
  refine OpK.lenMap undm rfl (mapS hB) ?_
  refine OpK.cmp (op := .eql) (k := .i64) (a := (es.size : Int)) (b := 0) rfl rfl rfl ?_
  refine CWL.condF (congrArg Value.bool (show _ = false by first | exact beq_eq_false_iff_ne.2 (by omega) | exact decide_eq_false (by omega))) ?_
  simp only [flat, List.cons_append, List.nil_append, List.append_nil]
  refine CWL.reg (ops := [(.nilCheck (.tmp 0), 0), (.fieldAddr 60 (.tmp 1) 0, 0), (.load 58 (.tmp 3), 58), (.call ⟨.builtin .len, #[.tmp 5], #[58]⟩, 3), (.makeSlice 126 (.const (Go.Value.int Go.IntKind.i64 0)) (.tmp 7), 126), (.alloc 126, 0), (.store 126 (.tmp 11) (.tmp 9), 0)]) (b := [(4, 11), (19, 9), (18, 7), (17, 5), (16, 3), (15, 1), (14, 0)]) (by kernel_rfl) ?_
  refine OpK.nilCheck rfl ?_
  refine OpK.fieldAddr (off := 0) (by kernel_rfl) rfl ?_
  refine OpK.load (by kernel_rfl) rfl (cellS hB) ?_
  refine OpK.lenMap undm rfl (mapS hB) ?_
  refine OpK.makeKeys undK u32 rfl rfl (by omega) fun w1 v1 hown1 hv1 hch1 hlt1 => ?_
  refine OpK.allocArr (i := _) (z := .slice none 0 0) rfl rfl ?_
  have hbB : Blk (w1.alloc (.cells (Value.slice none 0 0).cells 126)) w1.heap.size 126 [Value.slice none 0 0] := Blk.new w1 126 [.slice none 0 0]
  refine OpK.store (a := ⟨w1.heap.size, 0, none⟩) (v := v1) (by kernel_rfl) rfl rfl (by rw [hv1]; rfl) (show ((w1.alloc (.cells (Value.slice none 0 0).cells 126)).cell? ⟨w1.heap.size, 0, none⟩).isSome = true by rw [hbB.cell 0]; rfl) (hbB.free 0) ?_
  have hBlt : w1.heap.size < w1.heap.size + 1 := by omega
  have hsc : Ch (fun i => i = w1.heap.size) (w1.alloc (.cells (Value.slice none 0 0).cells 126)) ((w1.alloc (.cells (Value.slice none 0 0).cells 126)).setCell ⟨w1.heap.size, 0, none⟩ v1) := Ch.set (S := fun i => i = w1.heap.size) _ (a := ⟨w1.heap.size, 0, none⟩) rfl v1
  have hal : Ch (fun _ => False) w1 (w1.alloc (.cells (Value.slice none 0 0).cells 126)) := Ch.alloc _ w1 _
  have hall : Ch (fun _ => False) w ((w1.alloc (.cells (Value.slice none 0 0).cells 126)).setCell ⟨w1.heap.size, 0, none⟩ v1) := (hch1.trans hal fun i _ h => h).trans hsc fun i hi e => by have := hch1.size; omega
  have hlo := hB.grew.ch.size
  have hbolt := hB.blk.lt
  have hK : KSt 5 53 22 126 w0 d0 bo d bs w1.heap.size ((w1.alloc (.cells (Value.slice none 0 0).cells 126)).setCell ⟨w1.heap.size, 0, none⟩ v1) v1 [] := by
    have hch1s := hch1.size
    refine ⟨hB.other hall (fun _ _ hf => hf.elim) (fun _ hf => hf.elim), hbB.set 0 v1, ?_, ?_, ⟨by omega, by omega, fun hd => by have := hB.grew.own.lt hd; omega⟩, ?_⟩
    · refine hown1.keep fun k hk => ?_
      have := hown1.lt hk
      rw [hsc.block k (by simp; omega) (by omega), hal.block k this fun h => h]
    · rw [hv1]
      simp only [Value.ownBlock, ne_eq, Option.some.injEq]
      omega
    · intro i hi
      rw [hv1] at hi
      simp only [Value.ownBlock, Option.some.injEq] at hi
      subst hi
      exact ⟨by omega, by omega, fun hd => by have := hB.grew.own.lt hd; omega⟩
  generalize ((w1.alloc (.cells (Value.slice none 0 0).cells 126)).setCell ⟨w1.heap.size, 0, none⟩ v1) = w2 at hK hall ⊢
  clear hsc hal hBlt hbB
  generalize w1.heap.size = B at hK ⊢
  clear hown1 hch1 hlt1 hv1
  obtain ⟨hkeys, hkey⟩ := keys_of hA
  have hborn := hst.2
  refine CWL.reg (ops := [(.nilCheck (.tmp 0), 0), (.fieldAddr 60 (.tmp 1) 0, 0), (.load 58 (.tmp 3), 58), (.range 58 (.tmp 5), 0)]) (b := [(24, 7), (23, 5), (22, 3), (21, 1), (20, 0)]) (by kernel_rfl) ?_
  refine OpK.nilCheck rfl ?_
  refine OpK.fieldAddr (off := 0) (by kernel_rfl) rfl ?_
  refine OpK.load (by kernel_rfl) rfl (cellS hK.box) ?_
  refine OpK.range undm rfl (mapS hK.box) ?_
  have hK3 := hK.other (Ch.alloc (fun _ => False) w2 (.mapIter (some r) clk #[] clk)) (fun _ _ hf => hf.elim)
  have hI : (w2.alloc (.mapIter (some r) clk #[] clk)).heap[w2.heap.size]? = some (.mapIter (some r) clk #[] clk) := heap_alloc_new w2 _
  have hIlo : w0.heap.size ≤ w2.heap.size ∧ w2.heap.size ≠ bo ∧ d.ownBlock ≠ some w2.heap.size ∧ w2.heap.size ≠ B ∧ v1.ownBlock ≠ some w2.heap.size := by
    have h1 := hK.box.grew.ch.size
    have h2 := hK.box.blk.lt
    have h3 := hK.blk.lt
    exact ⟨h1, by omega, fun h => by have := hK.box.grew.own.lt h; omega, by omega, fun h => by have := hK.own.lt h; omega⟩
  generalize w2.heap.size = I at hI hIlo ⊢
  generalize w2.alloc (.mapIter (some r) clk #[] clk) = w3 at hK3 hI ⊢
  refine CWL.cons (CW.block (CW.loop (fun m σ wl => ∃ seen v ks, m = (leftOf es seen).size ∧ σ 0 = .pointer (some ⟨g, o, none⟩) ∧ σ 1 = .func (.func 75) #[] #[.pointer (some ⟨bo, 0, none⟩)] ∧ σ 4 = .pointer (some ⟨B, 0, none⟩) ∧ σ 24 = .pointer (some ⟨I, 0, none⟩) ∧ KSt 5 53 22 126 w0 d0 bo d bs B wl v ks ∧
      wl.heap[I]? = some (.mapIter (some r) clk seen clk) ∧ v.ownBlock ≠ some I ∧ (ks ++ (leftOf es seen).toList.map keyN).Perm (l.map (·.1))) es.size
    ⟨#[], v1, [], by rw [left_none], rfl, rfl, rfl, rfl, hK3, hI, hIlo.2.2.2.2, by rw [left_none, List.nil_append, hkeys]⟩ ?_))
  rintro m σ wl ⟨seen, v, ks, rfl, hσ0, hσ1, hσ4, hσ24, hKl, hIl, hvI, hperm⟩
  refine CW.of_flat ?_
  simp only [flat, List.cons_append, List.nil_append, List.append_nil]
  refine CWL.regG (ops := [(.next (.tmp 48) false, 0), (.extract (.tmp 1) 0, 4)]) (b := [(26, 3), (25, 1)]) (by kernel_rfl) ?_
  refine OpK.next ((enF_two σ 24).trans hσ24) hIl (mapS hKl.box) hborn.1 (Nat.le_refl _) (fun h0 => ?_) (fun e he w4 hw4 => ?_)
  · refine OpK.extract (vs := #[.bool false]) (v := .bool false) (by simp [upd]) rfl ?_
    intro σ2 hσ2
    have q26 : σ2 26 = .bool false := by rw [hσ2]; rfl
    have q0 : σ2 0 = .pointer (some ⟨g, o, none⟩) := by rw [hσ2]; exact (enF_two σ 0).trans hσ0
    have q1 : σ2 1 = .func (.func 75) #[] #[.pointer (some ⟨bo, 0, none⟩)] := by rw [hσ2]; exact (enF_two σ 1).trans hσ1
    have q4 : σ2 4 = .pointer (some ⟨B, 0, none⟩) := by rw [hσ2]; exact (enF_two σ 4).trans hσ4
    have hks2 : ks.Perm (l.map (·.1)) := by
      have : (leftOf es seen).toList = [] := List.eq_nil_of_length_eq_zero (by simpa using h0)
      rw [this, List.map_nil, List.append_nil] at hperm
      exact hperm
    have hklen : ks.length = l.length := by simpa using hks2.length_eq
    obtain ⟨gK, cK, rfl⟩ : ∃ gK cK, v = .slice (some ⟨gK, 0, none⟩) ks.length cK := by
      rcases hKl.own.2 with ⟨_, h⟩ | ⟨gK, cK, _, h, _⟩
      · omega
      · exact ⟨gK, cK, h⟩
    refine CWL.condF q26 ?_
    simp only [flat, List.cons_append, List.nil_append, List.append_nil]
    refine CWL.cons (CW.exit ?_)
    simp only [Then, InBlock, if_true]
    refine CWL.regG (ops := [(.load 126 (.tmp 8), 126), (.makeInterface 126 (.tmp 1), 20), (.makeFunc (.func 84) #[] #[.tmp 8], 128), (.call ⟨.value (.func 83), #[.tmp 3, .tmp 5], #[20, 128]⟩, 0)]) (b := [(36, 7), (35, 5), (34, 3), (33, 1)]) (by kernel_rfl) ?_
    refine OpK.load (by kernel_rfl) ((enF_two σ2 4).trans q4) (hKl.blk.cell 0) ?_
    refine OpK.makeIf (v := .slice (some ⟨gK, 0, none⟩) ks.length cK) undK (by simp [upd]) ?_
    refine OpK.makeFunc ?_
    refine OpK.asCall rfl hsort.1 rfl ?_
    have hlt : (∀ k ∈ ks, k < 4294967296) := fun k hk => by
      obtain ⟨x, hx, rfl⟩ := List.mem_map.1 (hks2.mem_iff.1 hk)
      exact hks x hx
    have e8 : enF σ2 8 = .pointer (some ⟨B, 0, none⟩) := (enF_two σ2 4).trans q4
    have hgB : gK ≠ B := fun e => hKl.ne (by rw [e]; rfl)
    refine calls_args (a := #[.iface 126 (.slice (some ⟨gK, 0, none⟩) ks.length cK), .func (.func 84) #[] #[.pointer (some ⟨B, 0, none⟩)]]) (by simp [upd, e8]) ?_
    refine (hsort.2 wl gK B cK ks hKl.blk hKl.own hgB (by omega) (by omega) hlt).mono ?_
    rintro en w4 ⟨he4, ds, hds, hsorted, hch4, hown4⟩
    refine ⟨_, he4, ?_⟩
    obtain rfl := sorted_keys hst.1 (hds.trans hks2) hsorted
    have hK4 : KSt 5 53 22 126 w0 d0 bo d bs B w4 (.slice (some ⟨gK, 0, none⟩) ks.length cK) ((sortTags l).map (·.1)) := by
      have hv := hKl.vlo gK rfl
      refine ⟨hKl.box.other hch4 (fun i _ hi => by subst hi; exact hv) (fun _ hf => hf.elim), hKl.blk.keep (hch4.block B hKl.blk.lt fun e => hgB e.symm), ?_, hKl.ne, hKl.lo, hKl.vlo⟩
      exact hown4
    intro σ3 hσ3
    have r0 : σ3 0 = .pointer (some ⟨g, o, none⟩) := by rw [hσ3]; exact (enF_two σ2 0).trans q0
    have r1 : σ3 1 = .func (.func 75) #[] #[.pointer (some ⟨bo, 0, none⟩)] := by rw [hσ3]; exact (enF_two σ2 1).trans q1
    have r4 : σ3 4 = .pointer (some ⟨B, 0, none⟩) := by rw [hσ3]; exact (enF_two σ2 4).trans q4
    refine CWL.regG (ops := [(.load 126 (.tmp 8), 126), (.call ⟨.builtin .len, #[.tmp 1], #[126]⟩, 3), (.move (.const (Go.Value.int Go.IntKind.i64 0)), 3)]) (b := [(39, 5), (38, 3), (37, 1)]) (by kernel_rfl) ?_
    refine OpK.load (by kernel_rfl) ((enF_two σ3 4).trans r4) (hK4.blk.cell 0) ?_
    refine OpK.len (e := 53) undK (by simp [upd]; exact ⟨rfl, rfl, rfl⟩) ?_
    refine OpK.move ?_
    intro σ4 hσ4
    have hgv := hK4.vlo gK rfl
    have hglt : gK < w4.heap.size := hK4.own.lt rfl
    have hB4 : BoxSt 5 w0 d0 bo 22 (fun j => j = gK) w4 d bs := hK4.box.other (Ch.refl (fun _ => False) w4) (fun _ _ hf => hf.elim) (fun i hi => by subst hi; exact ⟨hglt, hgv.2.2, hgv.2.1⟩)
    have hsl : (sortTags l).length = l.length := sortTags_len l
    have hcellK : ∀ (i : Nat) (x : Nat × List UInt8), (sortTags l)[i]? = some x → w4.cell? ((⟨gK, 0, none⟩ : Addr).add i) = some (kv x.1) := fun i x hx => World.ownsRow.cells hK4.own (g := gK) rfl i (kv x.1) (by simp [hx])
    have s37 : σ4 37 = .slice (some ⟨gK, 0, none⟩) ks.length cK := by rw [hσ4]; rfl
    have s38 : σ4 38 = .int .i64 (ks.length : Int) := by rw [hσ4]; rfl
    have s39 : σ4 39 = .int .i64 ((0 : Nat) : Int) := by rw [hσ4]; rfl
    have s0 : σ4 0 = .pointer (some ⟨g, o, none⟩) := by rw [hσ4]; exact (enF_two σ3 0).trans r0
    have s1 : σ4 1 = .func (.func 75) #[] #[.pointer (some ⟨bo, 0, none⟩)] := by rw [hσ4]; exact (enF_two σ3 1).trans r1
    refine CWL.cons (CW.block (CW.loop (fun m σ wl => ∃ i d', m = l.length - i ∧ i ≤ l.length ∧ σ 0 = .pointer (some ⟨g, o, none⟩) ∧ σ 1 = .func (.func 75) #[] #[.pointer (some ⟨bo, 0, none⟩)] ∧ σ 37 = .slice (some ⟨gK, 0, none⟩) ks.length cK ∧ σ 38 = .int .i64 (ks.length : Int) ∧ σ 39 = .int .i64 (i : Int) ∧
        BoxSt 5 w0 d0 bo 22 (fun j => j = gK) wl d' (bs ++ ((sortTags l).take i).flatMap encTag) ∧ wl.heap[gK]? = w4.heap[gK]?) l.length
      ⟨0, d, by omega, by omega, s0, s1, s37, s38, s39, by simpa using hB4, rfl⟩ ?_))
    rintro m σ wl ⟨i, d', rfl, hi, hσ0, hσ1, hσ37, hσ38, hσ39, hBl, hgl⟩
    refine CW.of_flat ?_
    simp only [flat, List.cons_append, List.nil_append, List.append_nil]
    refine CWL.regG (ops := [(.binOp .lss 3 (.tmp 78) (.tmp 76) 3, 0)]) (b := [(40, 1)]) (by kernel_rfl) ?_
    refine OpK.cmp (op := .lss) (k := .i64) (a := (i : Int)) (b := (ks.length : Int)) rfl ((enF_two σ 39).trans hσ39) ((enF_two σ 38).trans hσ38) ?_
    intro σ5 hσ5
    have t40 : σ5 40 = .bool (decide ((i : Int) < ks.length)) := by rw [hσ5]; rfl
    have t0 : σ5 0 = .pointer (some ⟨g, o, none⟩) := by rw [hσ5]; exact (enF_two σ 0).trans hσ0
    have t1 : σ5 1 = .func (.func 75) #[] #[.pointer (some ⟨bo, 0, none⟩)] := by rw [hσ5]; exact (enF_two σ 1).trans hσ1
    have t37 : σ5 37 = .slice (some ⟨gK, 0, none⟩) ks.length cK := by rw [hσ5]; exact (enF_two σ 37).trans hσ37
    have t38 : σ5 38 = .int .i64 (ks.length : Int) := by rw [hσ5]; exact (enF_two σ 38).trans hσ38
    have t39 : σ5 39 = .int .i64 (i : Int) := by rw [hσ5]; exact (enF_two σ 39).trans hσ39
    by_cases hil : i < l.length
    rotate_left
    · have hie : i = l.length := by omega
      refine CWL.condF (t40.trans (congrArg Value.bool (decide_eq_false (by omega)))) ?_
      simp only [flat, List.cons_append, List.nil_append, List.append_nil]
      refine CWL.cons (CW.exit ?_)
      simp only [Then, InBlock, if_true]
      refine CWL.nil_ ⟨_, rfl, rfl, d', ?_⟩
      have := hBl.other (X' := fun _ => False) (Ch.refl (fun _ => False) wl) (fun _ _ hf => hf.elim) (fun _ hf => hf.elim)
      rw [hie, ← hsl, List.take_length] at this
      exact this
    refine CWL.condT (t40.trans (congrArg Value.bool (decide_eq_true (by omega)))) ?_
    simp only [flat, List.cons_append, List.nil_append, List.append_nil]
    refine CWL.block ?_
    simp only [flat, List.cons_append, List.nil_append, List.append_nil]
    have hil2 : i < (sortTags l).length := by omega
    obtain ⟨x, hx⟩ : ∃ x, (sortTags l)[i]? = some x := ⟨_, List.getElem?_eq_getElem hil2⟩
    have hxl : x ∈ l := sortTags_mem.1 (List.mem_of_getElem? hx)
    have hcx : wl.cell? ((⟨gK, 0, none⟩ : Addr).add (i * 1)) = some (kv x.1) := by
      rw [Nat.mul_one]
      exact (World.cell?_of_block (w := w4) (by rw [block_add]; exact hgl)).trans (hcellK i x hx)
    refine CWL.regG (ops := [(.indexAddr 126 (.tmp 74) (.tmp 78), 0), (.load 53 (.tmp 1), 53)]) (b := [(7, 3), (42, 3), (41, 1)]) (by kernel_rfl) ?_
    refine OpK.indexAddr (s := 1) (j := i) (by kernel_rfl) ((enF_two σ5 37).trans t37) ((enF_two σ5 39).trans t39) (by omega) ?_
    refine OpK.load (by kernel_rfl) (by simp [upd]) hcx ?_
    intro σ6 hσ6
    have u7 : σ6 7 = kv x.1 := by rw [hσ6]; rfl
    have u0 : σ6 0 = .pointer (some ⟨g, o, none⟩) := by rw [hσ6]; exact (enF_two σ5 0).trans t0
    have u1 : σ6 1 = .func (.func 75) #[] #[.pointer (some ⟨bo, 0, none⟩)] := by rw [hσ6]; exact (enF_two σ5 1).trans t1
    have u37 : σ6 37 = .slice (some ⟨gK, 0, none⟩) ks.length cK := by rw [hσ6]; exact (enF_two σ5 37).trans t37
    have u38 : σ6 38 = .int .i64 (ks.length : Int) := by rw [hσ6]; exact (enF_two σ5 38).trans t38
    have u39 : σ6 39 = .int .i64 (i : Int) := by rw [hσ6]; exact (enF_two σ5 39).trans t39
    have keepL : ∀ i, S i → wl.heap[i]? = w0.heap[i]? := fun i hi => hBl.grew.keep (hS i hi).1 (hS i hi).2
    have hAl : All2 (TagAt wl S) es.toList l := All2.of_get hA.len fun i a b ha hb => (hA.at_ i a b ha hb).keep keepL
    refine CWL.regG (ops := [(.nilCheck (.tmp 0), 0), (.fieldAddr 60 (.tmp 1) 0, 0), (.load 58 (.tmp 3), 58), (.lookup 58 (.tmp 5) (.tmp 14) false, 22), (.call ⟨.value (.tmp 2), #[.tmp 14, .tmp 7], #[53, 22]⟩, 0)]) (b := [(51, 9), (50, 7), (49, 14), (48, 5), (47, 3), (46, 1), (45, 0), (44, 14), (43, 2)]) (by kernel_rfl) ?_
    refine OpK.nilCheck (a := ⟨g, o, none⟩) ((enF_two σ6 0).trans u0) ?_
    refine OpK.fieldAddr (off := 0) (a := ⟨g, o, none⟩) (by kernel_rfl) (by simp [upd]) ?_
    refine OpK.load (v := .map (some r)) (a := (⟨g, o, none⟩ : Addr).add 0) (by kernel_rfl) (by simp [upd]) (by rw [addr_add_zero]; exact (World.cell?_of_block (w := w0) (keepL g hSg)).trans hc0) ?_
    refine OpK.lookTag (r := r) (k := x.1) (xs := x.2) undm undk (by simp [upd]) ((enF_two σ6 7).trans u7) ((keepL r hSr).trans hm) hst.1 hAl hxl fun vx hvx => ?_
    refine OpK.callVal (f := 75) (caps := #[.pointer (some ⟨bo, 0, none⟩)]) ((enF_two σ6 1).trans u1) call75 ?_
    have e14 : enF σ6 14 = kv x.1 := (enF_two σ6 7).trans u7
    refine calls_args (a := #[.int .u32 (x.1 : Int), vx, .pointer (some ⟨bo, 0, none⟩)]) (by simp [upd, e14, kv]) ?_
    have hv0 : OctIs w0 S x.2 vx := hvx.keep fun i hi => (keepL i hi).symm
    have hsplit : (sortTags l).take (i + 1) = (sortTags l).take i ++ [x] := by
      rw [List.take_add_one, hx]; rfl
    have hle : ((sortTags l).take (i + 1)).flatMap encTag = ((sortTags l).take i).flatMap encTag ++ encTag x := by rw [hsplit]; simp
    have htot : (((sortTags l).take (i + 1)).flatMap encTag).length ≤ (encEach l).length := by
      unfold encEach
      conv => rhs; rw [← List.take_append_drop (i + 1) (sortTags l)]
      rw [List.flatMap_append, List.length_append]
      omega
    rw [hle, List.length_append] at htot
    refine (one75 hBl (hks x hxl) hv0 hS (by rw [show encTag (x.1, x.2) = encTag x from rfl, List.length_append]; omega)).mono ?_
    rintro en w7 ⟨he7, ⟨d7, hB7⟩, hX7⟩
    refine ⟨_, he7, ?_⟩
    intro σ7 hσ7
    have x0 : σ7 0 = .pointer (some ⟨g, o, none⟩) := by rw [hσ7]; exact (enF_two σ6 0).trans u0
    have x1 : σ7 1 = .func (.func 75) #[] #[.pointer (some ⟨bo, 0, none⟩)] := by rw [hσ7]; exact (enF_two σ6 1).trans u1
    have x37 : σ7 37 = .slice (some ⟨gK, 0, none⟩) ks.length cK := by rw [hσ7]; exact (enF_two σ6 37).trans u37
    have x38 : σ7 38 = .int .i64 (ks.length : Int) := by rw [hσ7]; exact (enF_two σ6 38).trans u38
    have x39 : σ7 39 = .int .i64 (i : Int) := by rw [hσ7]; exact (enF_two σ6 39).trans u39
    refine CWL.nil_ ?_
    simp only [Then, InBlock]
    refine CWL.regG (ops := [(.binOp .add 3 (.tmp 78) (.const (Go.Value.int Go.IntKind.i64 1)) 3, 3)]) (b := [(39, 1), (52, 1)]) (by kernel_rfl) ?_
    refine OpK.arith (op := .add) (k := .i64) (a := (i : Int)) (b := 1) rfl ((enF_two σ7 39).trans x39) rfl ?_
    intro σ8 hσ8
    refine CWL.nil_ ?_
    simp only [Then, InBlock]
    refine ⟨l.length - (i + 1), by omega, i + 1, d7, rfl, by omega, by rw [hσ8]; exact (enF_two σ7 0).trans x0, by rw [hσ8]; exact (enF_two σ7 1).trans x1, by rw [hσ8]; exact (enF_two σ7 37).trans x37, by rw [hσ8]; exact (enF_two σ7 38).trans x38, ?_, ?_, (hX7 gK rfl).trans hgl⟩
    · rw [hσ8]
      show Value.int .i64 (IntKind.i64.wrap ((i : Int) + 1)) = _
      congr 1
      rw [IntKind.wrap_i64]
      omega
    · rw [hle, ← List.append_assoc]
      exact hB7
  · refine OpK.extract (vs := #[.bool true, e.key, e.val]) (v := .bool true) (by simp [upd]) rfl ?_
    intro σ2 hσ2
    have hIlt : I < wl.heap.size := (Array.getElem?_eq_some_iff.1 hIl).1
    have hch4 := step_ch hw4 I (.mapIter (some r) clk (seen.push e.born) clk)
    have hI4 := step_at hw4 (.mapIter (some r) clk (seen.push e.born) clk) hIlt
    generalize ChangeMaps.setBlock w4 I (.mapIter (some r) clk (seen.push e.born) clk) = w5 at hch4 hI4 ⊢
    have hK5 := hKl.other hch4 (fun i _ hi => by subst hi; exact ⟨hIlo.1, hIlo.2.1, hIlo.2.2.1, hIlo.2.2.2.1, hvI⟩)
    have het : e ∈ es.toList := by
      unfold leftOf at he
      rw [Array.toList_filter] at he
      exact (List.mem_filter.1 he).1
    have hbn := (MapKept.stamped_iff es clk).1 hborn
    have q26 : σ2 26 = .bool true := by rw [hσ2]; rfl
    have q0 : σ2 0 = .pointer (some ⟨g, o, none⟩) := by rw [hσ2]; exact (enF_two σ 0).trans hσ0
    have q1 : σ2 1 = .func (.func 75) #[] #[.pointer (some ⟨bo, 0, none⟩)] := by rw [hσ2]; exact (enF_two σ 1).trans hσ1
    have q4 : σ2 4 = .pointer (some ⟨B, 0, none⟩) := by rw [hσ2]; exact (enF_two σ 4).trans hσ4
    have q24 : σ2 24 = .pointer (some ⟨I, 0, none⟩) := by rw [hσ2]; exact (enF_two σ 24).trans hσ24
    refine CWL.condT q26 ?_
    simp only [flat, List.cons_append, List.nil_append, List.append_nil]
    refine CWL.block ?_
    simp only [flat, List.cons_append, List.nil_append, List.append_nil]
    refine CWL.regG (ops := [(.entry (.tmp 48), 0), (.extract (.tmp 1) 0, 53)]) (b := [(5, 3), (28, 3), (27, 1)]) (by kernel_rfl) ?_
    refine OpK.entry ((enF_two σ2 24).trans q24) hI4 (mapS hK5.box) het hbn.2.1 ?_
    refine OpK.extract (vs := #[e.key, e.val]) (v := e.key) (by simp [upd]) rfl ?_
    intro σ3 hσ3
    have r5 : σ3 5 = kv (keyN e) := by rw [hσ3]; exact hkey e het
    have r0 : σ3 0 = .pointer (some ⟨g, o, none⟩) := by rw [hσ3]; exact (enF_two σ2 0).trans q0
    have r1 : σ3 1 = .func (.func 75) #[] #[.pointer (some ⟨bo, 0, none⟩)] := by rw [hσ3]; exact (enF_two σ2 1).trans q1
    have r4 : σ3 4 = .pointer (some ⟨B, 0, none⟩) := by rw [hσ3]; exact (enF_two σ2 4).trans q4
    have r24 : σ3 24 = .pointer (some ⟨I, 0, none⟩) := by rw [hσ3]; exact (enF_two σ2 24).trans q24
    have hkl : ks.length < 4294967296 := by
      have h1 := hperm.length_eq
      simp only [List.length_append, List.length_map] at h1
      have h2 : 0 < (leftOf es seen).toList.length := List.length_pos_iff.2 (fun h => by rw [h] at he; cases he)
      omega
    obtain ⟨v', w6, hr6, hown6, hch6, hv6⟩ := append_key (ty := 126) undK u32 hK5.own (keyN e) hkl
    obtain ⟨hK6, hb6⟩ := hK5.push hch6 hown6 hv6
    refine CWL.regG (ops := [(.load 126 (.tmp 8), 126), (.buildSlice 126 1 #[(0, .tmp 10)], 126), (.call ⟨.builtin .append, #[.tmp 1, .tmp 3], #[126, 126]⟩, 126), (.store 126 (.tmp 8) (.tmp 5), 0)]) (b := [(32, 5), (31, 3), (30, 10), (29, 1)]) (by kernel_rfl) ?_
    refine OpK.load (by kernel_rfl) ((enF_two σ3 4).trans r4) (hK5.blk.cell 0) ?_
    refine OpK.buildS (v := .slice (some ⟨w5.heap.size, 0, none⟩) 1 1) (w' := w5.alloc (.cells #[kv (keyN e)] 53)) (by
      have : (#[(0, Operand.tmp 10)] : Array (Nat × Operand)).map (fun (i, x) => (i, ev (upd (enF σ3) (some (2 * 0 + 1)) v) x)) = #[(0, kv (keyN e))] := by
        simp only [List.map_toArray, List.map_cons, List.map_nil, ev_tmp]
        rw [show upd (enF σ3) (some (2 * 0 + 1)) v 10 = kv (keyN e) from (enF_two σ3 5).trans r5]
      rw [this]
      exact run_bsK undK u32 (keyN e)) ?_
    refine OpK.run rfl (v := v') (w' := w6) hr6 ?_
    have one : v'.oneCell' = true := by
      rcases hown6.2 with ⟨rfl, _⟩ | ⟨_, _, _, rfl, _⟩ <;> rfl
    refine OpK.store (a := ⟨B, 0, none⟩) (v := v') (by kernel_rfl) ((enF_two σ3 4).trans r4) (by simp [upd]) one (by rw [hb6.cell 0]; rfl) (hb6.free 0) ?_
    intro σ4 hσ4
    have hstep := left_step hbn.2.1 he
    have hI6 : (w6.setCell ⟨B, 0, none⟩ v').heap[I]? = some (.mapIter (some r) clk (seen.push e.born) clk) := by
      have hIlt5 : I < w5.heap.size := (Array.getElem?_eq_some_iff.1 hI4).1
      have hsc : Ch (fun i => i = B) w6 (w6.setCell ⟨B, 0, none⟩ v') := Ch.set (S := fun i => i = B) w6 (a := ⟨B, 0, none⟩) rfl v'
      rw [hsc.block I (Nat.lt_of_lt_of_le hIlt5 hch6.size) hIlo.2.2.2.1, hch6.block I hIlt5 hvI]
      exact hI4
    refine CWL.nil_ ?_
    simp only [Then, InBlock]
    refine CWL.nil_ ?_
    simp only [Then, InBlock]
    refine ⟨(leftOf es (seen.push e.born)).size, ?_, seen.push e.born, v', ks ++ [keyN e], rfl, by rw [hσ4]; exact (enF_two σ3 0).trans r0, by rw [hσ4]; exact (enF_two σ3 1).trans r1, by rw [hσ4]; exact (enF_two σ3 4).trans r4, by rw [hσ4]; exact (enF_two σ3 24).trans r24, hK6, hI6, ?_, ?_⟩
    · have := hstep.length_eq
      simp only [List.length_cons, Array.length_toList] at this
      omega
    · intro hh
      rcases hv6 I hh with h1 | h1
      · exact hvI h1
      · have hIlt5 : I < w5.heap.size := (Array.getElem?_eq_some_iff.1 hI4).1
        omega
    · refine List.Perm.trans ?_ hperm
      rw [List.append_assoc]
      refine List.Perm.append_left ks ?_
      exact ((hstep.map keyN).symm : List.Perm _ _)

set_option maxHeartbeats 4000000 in
theorem ok43 (hsort : SortIs Tryz.prog 83 84 126 53) : ApOk Tryz.prog 5 true 43 .teach := by
  intro w S g o v d bs hf hi hS hd hcl hl
  have hi0 := hi
  obtain ⟨cs, hr, ha⟩ := hi
  cases v <;> simp only [Rep] at hr
  rename_i l
  by_cases hl0 : l = []
  · subst hl0
    exact ok430 w S g o (.tags []) d bs (.inr rfl) hi0 hS hd hcl hl
  rcases hr with ⟨_, h⟩ | ⟨r, es, clk, rfl, hSr, hm, hst, hA⟩
  · exact absurd h hl0
  have hc0 := ha 0 _ rfl
  obtain ⟨ad, cp, hdv⟩ : ∃ ad cp, d = .slice ad bs.length cp := by obtain ⟨a, c, h, _⟩ := hd.len; exact ⟨a, c, h⟩
  have hcells : d.cells = #[d] := by rw [hdv]; rfl
  refine Calls.of_CW Tryz.func43 rfl (by decide +kernel) (Nat.le_of_ble_eq_true (by kernel_rfl)) (CW.of_flat ?_)
  simp only [flat, List.cons_append, List.nil_append, List.append_nil]
  refine CWL.reg (ops := [(.box 22 (.tmp 2), 0), (.assign (.const (Go.Value.slice none 0 0)), 22)]) (b := [(4, 3), (3, 1)]) (by kernel_rfl) ?_
  refine OpK.box ?_
  refine OpK.assign ?_
  refine CWL.reg (ops := [(.makeFunc (.func 75) #[] #[.tmp 6], 118), (.call ⟨.value (.func 74), #[.tmp 0, .tmp 1], #[116, 118]⟩, 0)]) (b := [(7, 3), (6, 1), (5, 0)]) (by kernel_rfl) ?_
  refine OpK.makeFunc ?_
  have hB : BoxSt 5 w d w.heap.size 22 (fun _ => False) (w.alloc (.cells #[d] 22)) d bs :=
    ⟨Blk.new w 22 [d], (Grew.refl hd).alloc _, fun h => by have := hd.lt h; omega, Nat.le_refl _, fun _ h => h.elim⟩
  have hw : (w.alloc (.cells (ev (enF (frame0 #[Value.pointer (some ⟨g, o, none⟩), d])) (.tmp 2)).cells 22)) = w.alloc (.cells #[d] 22) := by
    rw [show ev (enF (frame0 #[Value.pointer (some ⟨g, o, none⟩), d])) (.tmp 2) = d from rfl, hcells]
  rw [hw]
  have hE := each74 hsort hB hc0 hS hSr hm hst hA (fun i hi => hcl i hi) hl0 hl
  refine OpK.asCall rfl call74 rfl ?_
  refine calls_args (a := #[.pointer (some ⟨g, o, none⟩), .func (.func 75) #[] #[.pointer (some ⟨w.heap.size, 0, none⟩)]]) (by simp [upd, enF, outF, Go.Kx.look, frame0]) ?_
  refine hE.mono ?_
  rintro en w1 ⟨he1, d1, hB1⟩
  refine ⟨_, he1, ?_⟩
  refine CWL.reg (ops := [(.load 22 (.tmp 6), 22)]) (b := [(4, 1), (8, 1)]) (by kernel_rfl) ?_
  refine OpK.load (by kernel_rfl) rfl (hB1.blk.cell 0) ?_
  refine CWL.ret ?_
  exact ⟨_, rfl, hB1.grew⟩
theorem sound1 (hsort : SortIs Tryz.prog 83 84 126 53) : Sound Tryz.prog 5 true Snd.tab := Sound.of_all u8 (all_cons ⟨call40, Snd.ok40 true⟩ (all_cons ⟨call37, Snd.ok37 true⟩ (all_cons ⟨call34, Snd.ok34 true⟩ (all_cons ⟨call72, Snd.ok72 true⟩ (all_cons ⟨call31, Snd.ok31 true⟩ (all_cons ⟨call39, Snd.ok39 true⟩ (all_cons ⟨call38, Snd.ok38 true⟩ (all_cons ⟨call36, Snd.ok36 true⟩ (all_cons ⟨call35, Snd.ok35 true⟩ (all_cons ⟨call33, Snd.ok33 true⟩ (all_cons ⟨call32, Snd.ok32 true⟩ (all_cons ⟨call41, Snd.ok41 true⟩ (all_cons ⟨call42, Snd.ok42 true⟩ (all_cons ⟨call43, ok43 hsort⟩ all_nil))))))))))))))
end Go.Proofs.YthcpchmmpnakaaaGreatDoor.TgW
