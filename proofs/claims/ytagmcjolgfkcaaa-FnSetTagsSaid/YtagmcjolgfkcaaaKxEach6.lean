/- Going through a map of tags with any function: what stands while the keys are collected. -/
import Derived.Test.YtagmcjolgfkcaaaKxSortP
import Derived.Test.YtagmcjolgfkcaaaKxSpecA
namespace Go.Kx
open Go.RowKit
set_option linter.unusedSimpArgs false
set_option linter.unusedVariables false

/-- Keys collected in a box of their own. -/
structure KJ (eK tK : TypeId) (w0 : World) (B : Nat) (w : World) (v : Value) (ks : List Nat) : Prop where
  chw : Ch (fun _ => False) w0 w
  blk : Blk w B tK [v]
  own : KOwn eK w v ks
  ne : v.ownBlock ≠ some B
  lo : w0.heap.size ≤ B
  vlo : ∀ i, v.ownBlock = some i → w0.heap.size ≤ i

theorem KJ.other {eK tK : TypeId} {w0 : World} {B : Nat} {w w' : World} {v : Value} {ks : List Nat} (h : KJ eK tK w0 B w v ks) {Y : Nat → Prop} (hch : Ch Y w w')
    (hY : ∀ i, i < w.heap.size → Y i → w0.heap.size ≤ i ∧ i ≠ B ∧ v.ownBlock ≠ some i) : KJ eK tK w0 B w' v ks :=
  ⟨h.chw.trans hch fun i hi hy => by have := h.chw.size; have := (hY i (by omega) hy).1; omega, h.blk.keep (hch.block B h.blk.lt fun hy => (hY B h.blk.lt hy).2.1 rfl),
    h.own.keep fun k hk => hch.block k (h.own.lt hk) fun hy => (hY k (h.own.lt hk) hy).2.2 hk, h.ne, h.lo, h.vlo⟩

/-- One key more, stored. -/
theorem KJ.push {eK tK : TypeId} {w0 : World} {B : Nat} {w w' : World} {v v' : Value} {ks : List Nat} {k : Nat} (h : KJ eK tK w0 B w v ks) (hch : Ch (fun i => v.ownBlock = some i) w w') (hown : KOwn eK w' v' (ks ++ [k]))
    (hv : ∀ i, v'.ownBlock = some i → v.ownBlock = some i ∨ w.heap.size ≤ i) : KJ eK tK w0 B (w'.setCell ⟨B, 0, none⟩ v') v' (ks ++ [k]) ∧ Blk w' B tK [v] := by
  have hB : B < w.heap.size := h.blk.lt
  have hb' : Blk w' B tK [v] := h.blk.keep (hch.block B hB h.ne)
  have hne : v'.ownBlock ≠ some B := fun hh => by
    rcases hv B hh with h1 | h1
    · exact h.ne h1
    · omega
  have hsc : Ch (fun i => i = B) w' (w'.setCell ⟨B, 0, none⟩ v') := Ch.set (S := fun i => i = B) w' (a := ⟨B, 0, none⟩) rfl v'
  have hs0 := h.chw.size
  have hlo := h.lo
  refine ⟨⟨(h.chw.trans hch fun i hi hy => by have := h.vlo i hy; omega).trans hsc fun i hi hy => by omega, by simpa using hb'.set 0 v', hown.keep fun i hi => hsc.block i (hown.lt hi) fun hy => hne (hy ▸ hi), hne, h.lo, fun i hi => ?_⟩, hb'⟩
  rcases hv i hi with h1 | h1
  · exact h.vlo i h1
  · omega

/-- What a function value does with a tag, while Inv says what was done. -/
structure Tells (P : Program) (f : FuncId) (caps : Array Value) (S : Nat → Prop) (l : List (Nat × List UInt8)) (Inv : (Nat → Prop) → World → List (Nat × List UInt8) → Prop) : Prop where
  lt : ∀ {F w d}, Inv F w d → ∀ i, F i → i < w.heap.size
  keep : ∀ {F w w' d}, Inv F w d → w.heap.size ≤ w'.heap.size → (∀ i, F i → w'.heap[i]? = w.heap[i]?) → Inv F w' d
  next : ∀ {F w d x v r}, Inv F w d → d ++ x :: r = sortTags l → x.1 < 4294967296 → OctIs w S x.2 v → (∀ i, S i → i < w.heap.size ∧ ¬ F i) →
    Calls P f (#[.int .u32 (x.1 : Int), v] ++ caps) w fun en w' => en = .returned (.tuple #[]) ∧ ∃ F', Inv F' w' (d ++ [x]) ∧ (∀ i, F' i → F i ∨ w.heap.size ≤ i) ∧ Ch F w w'
end Go.Kx
