/- The library's sort over keys. -/
import Derived.Test.YthcpchmmpnakaaaGreatDoorKxSortP
import Derived.Test.YthcpchmmpnakaaaGreatDoorProg
import Derived.Deep.QuietTactic
import Derived.WalkKit
import Derived.Shelf.GgSortFunc.Whole
import Derived.Shelf.GgSortFunc.Tiny
import Derived.Shelf.Lay
import Derived.Ground.GgsProg
import Derived.Lib.RowBridge
import Derived.Lib.SortBridge
/- The keys' own order: the closure that the sort asks. -/
namespace Go.Proofs.YthcpchmmpnakaaaGreatDoor.Srt
open Go.RowKit
set_option linter.unusedSimpArgs false
set_option linter.unusedVariables false
set_option maxRecDepth 100000
set_option maxHeartbeats 2000000 in
theorem less (blk off c Bs size : Nat) (W : World) (G : Nat → Nat) (hs : W.cell? ⟨Bs, 0, none⟩ = some (.slice (some ⟨blk, off, none⟩) size c))
    (hc : ∀ t, t < size → W.cell? ⟨blk, off + t, none⟩ = some (.int .u32 (G t : Int))) (i j : Nat) (hi : i < size) (hj : j < size) :
    Calls Tryz.prog 84 #[.int .i64 i, .int .i64 j, .pointer (some ⟨Bs, 0, none⟩)] W fun e w' => e = .returned (.bool (decide (G i < G j))) ∧ ∃ q, w' = W.drewN q := by
  have ci := hc i hi
  have cj := hc j hj
  go_enter Tryz.func84, Tryz.ntmps84
  go_wp2
  go_quiet (fail)
  go_wp2
  go_ret
  exact ⟨rfl, nq, rfl⟩
end Go.Proofs.YthcpchmmpnakaaaGreatDoor.Srt

/- The library's sort over keys (DRAFT, NOT BUILT: Derived.Shelf.GgSortFunc.Whole and .Tiny were not compiled yet). -/
namespace Go.Proofs
open Go.Shelf
shelf_lay LaysGg.n6 Ggs 6 at Tryz as Tryz.sa6
end Go.Proofs
namespace Go.Proofs.YthcpchmmpnakaaaGreatDoor.Srt
open Go.Shelf Go.RowKit Go.Lib Go.Sort Go.Kx
set_option linter.unusedSimpArgs false
set_option linter.unusedVariables false
set_option maxRecDepth 100000
noncomputable def siT : TypeInfo := (Tryz.prog.info? 126).get (by kernel_rfl)
noncomputable def siE : TypeInfo := (Tryz.prog.info? 53).get (by kernel_rfl)
theorem siK (n : Nat) (h2 : 2 ≤ n) : Lib.swapperK n siE 10 = 6 := by
  have a : siE.hasPointers = false := by kernel_rfl
  have b : siE.bytes = 4 := by kernel_rfl
  have c : (n == 0) = false := by simp; omega
  have d : (n == 1) = false := by simp; omega
  simp [Lib.swapperK, a, b, c, d]
theorem call83 : Callable Tryz.prog 83 := ⟨Tryz.f83, Tryz.func83, by kernel_rfl, by kernel_rfl⟩

set_option maxHeartbeats 2000000 in
theorem sortIs : SortIs Tryz.prog 83 84 126 53 := by
  refine ⟨call83, fun w g bo c ks hb hown hne hpos hlen hk => ?_⟩
  have hg : g < w.heap.size := hown.lt rfl
  obtain ⟨g', cap', hv, _, _, _, _, _, hH⟩ := Lib.holds_of_ownsRow (enc := kv) hown (by intro h; cases h)
  obtain rfl : g' = g := by injection hv with h1; injection h1 with h1; injection h1 with h1; exact h1.symm
  by_cases h2 : 2 ≤ ks.length
  · have hless : LessReads Tryz.prog 84 #[.pointer (some ⟨bo, 0, none⟩)] kv ltNat g' 0 ks.toArray.size w := by
      intro m os dk hs i j hi hj
      have e : sortWorld kv w g' 0 m dk os = putRow kv (Sort.grow (Sort.ahead w m) os) g' 0 dk := by
        unfold sortWorld; rw [putRow_grow _ (Sort.ahead w m) _ g' 0 _ hg]
      have hHg : Holds kv (Sort.grow (Sort.ahead w m) os) g' 0 ks.toArray := holds_grow _ _ _ g' 0 _ hg (holds_ahead _ _ _ _ _ _ hH)
      refine less g' 0 c bo ks.toArray.size _ (fun t => dk[t]!) ?_ (fun t ht => ?_) i j hi hj
      · rw [e, cell?_putRow_other _ _ g' 0 dk _ (Or.inl (by show bo ≠ g'; omega)), cell?_grow _ _ _ hb.lt]
        exact (hb.cell 0).trans (by simp)
      · rw [e]; exact cell?_putRow _ _ g' 0 ks.toArray dk hHg hs t (by omega)
    have hS := Any.sort_Slice_sorted Tryz.sa6 126 53 siT siE (by kernel_rfl) (by kernel_rfl) (by kernel_rfl) (by kernel_rfl) 10 (fun _ => by kernel_rfl) (by kernel_rfl) (fun _ => by kernel_rfl) kv (fun _ => rfl) ltNat swo_ltNat 84 _
      (enters_of Tryz.func84 (by kernel_rfl) rfl) g' 0 c ks.toArray (by simpa using h2) (by simp; omega) 96 (by rw [siK _ (by simpa using h2)]; kernel_rfl) true
      (fun args W => run_callFunc_extern Tryz.func96 (by kernel_rfl) (by kernel_rfl) (by kernel_rfl) (e := Extern.ReflectliteSwapper.swap true) (by kernel_rfl) args W) w hless hH hg
    change Calls Tryz.prog 83 _ _ _ at hS
    refine Calls.mono hS ?_
    rintro en w' ⟨rfl, d', n, os, hp, hso, rfl⟩
    obtain rfl := nat_sorted_eq ks.toArray d' hp hso
    obtain ⟨q1, q2⟩ := sort_end (n := n) (os := os) (ds := ks.mergeSort fun x y => decide (x ≤ y)) hown (by simp)
    exact ⟨rfl, _, sorted_perm ks, sorted_rises ks, q2, q1⟩
  · have h1 : ks.length = 1 := by omega
    have hS := Any.sort_Slice_tiny Tryz.sa6 126 53 siT siE (by kernel_rfl) (by kernel_rfl) (by kernel_rfl) (by kernel_rfl) 10 (fun _ => by kernel_rfl) (some ⟨g', 0, none⟩) ks.length c (by omega) 92 (by rw [h1, show Lib.swapperK 1 siE 10 = 2 by simp [Lib.swapperK]]; kernel_rfl) (.func 84) #[] #[.pointer (some ⟨bo, 0, none⟩)] w
    change Calls Tryz.prog 83 _ _ _ at hS
    refine Calls.mono hS ?_
    rintro en w' ⟨rfl, os, rfl⟩
    have hgr : ∀ k, k < w.heap.size → (Sort.grow w os).heap[k]? = w.heap[k]? := fun k hk => by simp only [Sort.grow]; rw [Array.getElem?_append_left hk]
    exact ⟨rfl, ks, List.Perm.refl _, pw_one h1, ⟨rfl, rfl, rfl, by simp [Sort.grow], fun k hk _ => hgr k hk⟩, hown.keep fun k hk => hgr k (hown.lt hk)⟩
end Go.Proofs.YthcpchmmpnakaaaGreatDoor.Srt
