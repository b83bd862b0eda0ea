/- What the reading functions of the package read. -/
import Derived.Test.YtagmcjolgfkcaaaKxAgain2
import Derived.Test.YtagmcjolgfkcaaaProg
namespace Go.Proofs.Ytagmcjolgfkcaaa.Rd
open Go.Kx Go.RowKit Go.Proofs
set_option maxRecDepth 100000
set_option linter.unusedSimpArgs false
set_option linter.unusedVariables false

theorem mixed : Try.prog.follows .mixedOrders = true := by kernel_rfl

theorem call13 : Callable Try.prog 13 := ⟨Try.f13, Try.func13, by kernel_rfl, by kernel_rfl⟩
set_option maxHeartbeats 4000000 in
theorem set13 (w : World) (S N : Nat → Prop) (g o : Nat) (t : TypeId) (cells : List Value) (c : Value) (l : List (Nat × List UInt8)) (key : Nat) (xs : List UInt8) (v : Value) (hb : Blk w g t cells) (hc : cells[o]? = some c) (hm : TM w S N c l)
    (hS : ∀ k, S k → k < w.heap.size) (hg : ¬ S g) (hN : ∀ r, N r → ¬ S r ∧ r < w.heap.size ∧ r ≠ g) (hkey : key < 4294967296) (hv : OctIs w S xs v) :
    Calls Try.prog 13 #[.pointer (some ⟨g, o, none⟩), .int .u32 (key : Int), v] w fun en w' => en = .returned (.tuple #[]) ∧ ∃ c', Blk w' g t (cells.set o c') ∧ TM w' S (fun r => N r ∨ (w.heap.size ≤ r ∧ r < w'.heap.size)) c' (setTag l key xs) ∧ Ch (fun k => k = g ∨ N k) w w' := by
  refine (Calls.of_CW (R := fun x w' => x = .tuple #[] ∧ ∃ c', Blk w' g t (cells.set o c') ∧ TM w' S (fun r => N r ∨ (w.heap.size ≤ r ∧ r < w'.heap.size)) c' (setTag l key xs) ∧ Ch (fun k => k = g ∨ N k) w w') Try.func13 rfl (by decide +kernel) (Nat.le_of_ble_eq_true (by kernel_rfl)) (CW.of_flat ?_)).mono fun en w' ⟨x, he, hx, hR⟩ => ⟨by rw [he, hx], hR⟩
  simp only [flat, List.cons_append, List.nil_append, List.append_nil]
  have hc0 : w.cell? ((⟨g, o, none⟩ : Addr).add 0) = some c := by rw [addr_add_zero, hb.cell]; exact hc
  have hgl := hb.lt
  have hol : o < cells.length := (List.getElem?_eq_some_iff.1 hc).1
  rcases hm with ⟨rfl, rfl⟩ | ⟨r, es, clk, rfl, hNr, hh, hst, hA⟩
  · -- a new map
    refine CWL.reg (ops := [(.nilCheck (.tmp 0), 0), (.fieldAddr 41 (.tmp 1) 0, 0), (.load 39 (.tmp 3), 39), (.binOp .eql 39 (.tmp 5) (.const (Go.Value.map none)) 39, 4)]) (b := [(10, 7), (9, 5), (8, 3), (7, 1), (6, 0)]) (by kernel_rfl) ?_
    refine OpK.nilCheck rfl ?_
    refine OpK.fieldAddr (off := 0) (by kernel_rfl) rfl ?_
    refine OpK.load (by kernel_rfl) rfl hc0 ?_
    refine OpK.eqNilMap (k := _) (e := _) rfl rfl rfl ?_
    refine CWL.condT rfl ?_
    simp only [flat, List.cons_append, List.nil_append, List.append_nil]
    refine CWL.reg (ops := [(.makeMap 39 none, 39), (.nilCheck (.tmp 0), 0), (.fieldAddr 41 (.tmp 3) 0, 0), (.store 39 (.tmp 5) (.tmp 1), 0)]) (b := [(14, 5), (13, 3), (12, 1), (11, 0)]) (by kernel_rfl) ?_
    refine OpK.makeMap ?_
    refine OpK.nilCheck rfl ?_
    refine OpK.fieldAddr (off := 0) (by kernel_rfl) rfl ?_
    refine OpK.store (v := .map (some w.heap.size)) (by kernel_rfl) rfl rfl rfl (show ((w.alloc (.map #[] 0)).cell? ((⟨g, o, none⟩ : Addr).add 0)).isSome = true by rw [addr_add_zero, (hb.keep (alloc_old w _ g hgl)).cell, hc]; rfl) (by rw [addr_add_zero]; exact (hb.keep (alloc_old w _ g hgl)).free o) ?_
    simp only [addr_add_zero]
    have hb1 := (hb.keep (alloc_old w (.map #[] 0) g hgl)).set o (.map (some w.heap.size))
    have hh : ((w.alloc (.map #[] 0)).setCell ⟨g, o, none⟩ (.map (some w.heap.size))).heap[w.heap.size]? = some (.map #[] 0) := by rw [setCell_other _ _ _ _ (by simp only; omega)]; exact heap_alloc_new w _
    have hk1 : ∀ k, S k → ((w.alloc (.map #[] 0)).setCell ⟨g, o, none⟩ (.map (some w.heap.size))).heap[k]? = w.heap[k]? := fun k hk => (setCell_other _ _ _ _ (fun e => hg (by rw [← show k = g from e]; exact hk))).trans (alloc_old w _ k (hS k hk))
    have hs1 : ((w.alloc (.map #[] 0)).setCell ⟨g, o, none⟩ (.map (some w.heap.size))).heap.size = w.heap.size + 1 := by simp [World.setCell]
    have hch1 : Ch (fun k => k = g ∨ N k) w ((w.alloc (.map #[] 0)).setCell ⟨g, o, none⟩ (.map (some w.heap.size))) := (Ch.alloc _ w _).trans' (Ch.set (S := fun k => k = g ∨ N k) _ (.inl rfl) _)
    generalize (w.alloc (.map #[] 0)).setCell ⟨g, o, none⟩ (.map (some w.heap.size)) = w1 at hb1 hh hk1 hs1 hch1 ⊢
    have hc1 : w1.cell? ((⟨g, o, none⟩ : Addr).add 0) = some (.map (some w.heap.size)) := by rw [addr_add_zero, hb1.cell, List.getElem?_set, if_pos rfl, if_pos hol]
    refine CWL.reg (ops := [(.nilCheck (.tmp 0), 0), (.fieldAddr 41 (.tmp 1) 0, 0), (.load 39 (.tmp 3), 39), (.mapUpdate 39 (.tmp 5) (.tmp 2) (.tmp 4), 0)]) (b := [(20, 4), (19, 2), (18, 5), (17, 3), (16, 1), (15, 0)]) (by kernel_rfl) ?_
    refine OpK.nilCheck rfl ?_
    refine OpK.fieldAddr (off := 0) (by kernel_rfl) rfl ?_
    refine OpK.load (by kernel_rfl) rfl hc1 ?_
    refine OpK.mapTag (l := []) rfl rfl rfl rfl rfl hh ⟨by simp, MapKept.stamped_empty 0⟩ .nil (fun h => by have := hS _ h; omega) hkey (hv.keep hk1) fun w2 es2 clk2 hsz2 hh2 hch2 hst2 hA2 => ?_
    refine ⟨_, rfl, rfl, .map (some w.heap.size), hb1.keep (hch2.block g hb1.lt (by omega)), .inr ⟨w.heap.size, es2, clk2, rfl, .inr ⟨Nat.le_refl _, by omega⟩, hh2, hst2, hA2⟩, hch1.trans hch2 fun i hi e => by omega⟩
  · -- a map that is there
    obtain ⟨hSr, hrl, hrg⟩ := hN r hNr
    refine CWL.reg (ops := [(.nilCheck (.tmp 0), 0), (.fieldAddr 41 (.tmp 1) 0, 0), (.load 39 (.tmp 3), 39), (.binOp .eql 39 (.tmp 5) (.const (Go.Value.map none)) 39, 4)]) (b := [(10, 7), (9, 5), (8, 3), (7, 1), (6, 0)]) (by kernel_rfl) ?_
    refine OpK.nilCheck rfl ?_
    refine OpK.fieldAddr (off := 0) (by kernel_rfl) rfl ?_
    refine OpK.load (by kernel_rfl) rfl hc0 ?_
    refine OpK.eqNilMap (k := _) (e := _) rfl rfl rfl ?_
    refine CWL.condF rfl ?_
    simp only [flat, List.cons_append, List.nil_append, List.append_nil]
    refine CWL.reg (ops := [(.nilCheck (.tmp 0), 0), (.fieldAddr 41 (.tmp 1) 0, 0), (.load 39 (.tmp 3), 39), (.mapUpdate 39 (.tmp 5) (.tmp 2) (.tmp 4), 0)]) (b := [(20, 4), (19, 2), (18, 5), (17, 3), (16, 1), (15, 0)]) (by kernel_rfl) ?_
    refine OpK.nilCheck rfl ?_
    refine OpK.fieldAddr (off := 0) (by kernel_rfl) rfl ?_
    refine OpK.load (by kernel_rfl) rfl hc0 ?_
    refine OpK.mapTag (l := l) rfl rfl rfl rfl rfl hh hst hA hSr hkey hv fun w2 es2 clk2 hsz2 hh2 hch2 hst2 hA2 => ?_
    have hset : cells.set o (.map (some r)) = cells := by
      apply List.ext_getElem?
      intro i
      rw [List.getElem?_set]
      split
      · rename_i hi; subst hi; first | exact hc.symm | (rw [if_pos hol]; exact hc.symm)
      · rfl
    refine ⟨_, rfl, rfl, .map (some r), by rw [hset]; exact hb.keep (hch2.block g hgl fun e => hrg e.symm), .inr ⟨r, es2, clk2, rfl, .inl hNr, hh2, hst2, hA2⟩, hch2.mono fun i hi e => by subst e; exact .inr hNr⟩

end Go.Proofs.Ytagmcjolgfkcaaa.Rd
