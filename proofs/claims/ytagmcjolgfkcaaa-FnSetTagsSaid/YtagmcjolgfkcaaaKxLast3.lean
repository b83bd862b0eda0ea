/- Tags told one by one into a slice. -/
import Derived.Test.YtagmcjolgfkcaaaKxLast2
import Derived.Test.YtagmcjolgfkcaaaKxEach6
namespace Go.Kx
open Go.RowKit
set_option linter.unusedSimpArgs false
set_option linter.unusedVariables false

/-- Octets in blocks of S. -/
def OcS (w : World) (S : Nat → Prop) (x : List UInt8) (v : Value) : Prop := ∃ a c, v = .slice a x.length c ∧ x.length ≤ c ∧ c ≤ maxLen ∧ (a = none → x = []) ∧ ∀ a', a = some a' → Oct w a' x ∧ S a'.block
theorem OcS.keep {w w' : World} {S : Nat → Prop} {x : List UInt8} {v : Value} (h : OcS w S x v) (hk : ∀ k, S k → w'.heap[k]? = w.heap[k]?) : OcS w' S x v := by
  obtain ⟨a, c, h1, h2, h3, h4, h5⟩ := h
  exact ⟨a, c, h1, h2, h3, h4, fun a' ha => ⟨(h5 a' ha).1.keep (hk _ (h5 a' ha).2), (h5 a' ha).2⟩⟩
theorem OcS.mono {w : World} {S S' : Nat → Prop} {x : List UInt8} {v : Value} (h : OcS w S x v) (hk : ∀ k, S k → S' k) : OcS w S' x v := by
  obtain ⟨a, c, h1, h2, h3, h4, h5⟩ := h
  exact ⟨a, c, h1, h2, h3, h4, fun a' ha => ⟨(h5 a' ha).1, hk _ (h5 a' ha).2⟩⟩
theorem OcS.oc {w : World} {S : Nat → Prop} {x : List UInt8} {v : Value} (h : OcS w S x v) (hS : ∀ k, S k → k < w.heap.size) : Oc w x v := by
  obtain ⟨a, c, h1, h2, h3, h4, h5⟩ := h
  exact ⟨a, c, h1, h2, h3, h4, fun a' ha => ⟨(h5 a' ha).1, fun _ => hS _ (h5 a' ha).2⟩⟩
theorem Own.ocS {e : TypeId} {w : World} {v : Value} {bs : List UInt8} (h : Own e w v bs) : OcS w (fun k => v.ownBlock = some k) bs v := by
  obtain ⟨a, c, h1, h2, h3, h4, h5⟩ := h.oc
  subst h1
  exact ⟨a, c, rfl, h2, h3, h4, fun a' ha => ⟨(h5 a' ha).1, by subst ha; rfl⟩⟩
theorem Own.octIs {e : TypeId} {w : World} {v : Value} {bs : List UInt8} {S : Nat → Prop} (h : Own e w v bs) (hS : ∀ k, v.ownBlock = some k → S k) : OctIs w S bs v := by
  rcases h.2 with ⟨rfl, hn⟩ | ⟨g, cap, cur, rfl, hb, hg, hnc, hcm, hcs, htake⟩
  · exact .inl ⟨rfl, List.eq_nil_of_length_eq_zero hn⟩
  · obtain ⟨a, c, h1, h2, h3, h4, h5⟩ := h.oc
    simp only [Value.slice.injEq, true_and] at h1
    obtain ⟨rfl, rfl⟩ := h1
    exact .inr ⟨_, _, rfl, hnc, hS g rfl, (h5 _ rfl).1⟩

/-- What was told, in the slice of box bo. -/
structure ToldSt (e t : TypeId) (bo : Nat) (F : Nat → Prop) (w : World) (d : List (Nat × List UInt8)) : Prop where
  ex : ∃ v us, Blk w bo t [v] ∧ v.ownBlock ≠ some bo ∧ TOwn e w v us ∧ (∀ k, v.ownBlock = some k → F k) ∧ All2 (fun u x => u.1 = x.1 ∧ OcS w (fun k => F k ∧ k ≠ bo ∧ v.ownBlock ≠ some k) x.2 u.2) us d
  bo : F bo
  lt : ∀ i, F i → i < w.heap.size
theorem ToldSt.keep {e t : TypeId} {bo : Nat} {F : Nat → Prop} {w w' : World} {d : List (Nat × List UInt8)} (h : ToldSt e t bo F w d) (hs : w.heap.size ≤ w'.heap.size) (hk : ∀ i, F i → w'.heap[i]? = w.heap[i]?) : ToldSt e t bo F w' d := by
  obtain ⟨⟨v, us, h1, h2, h3, h4, h5⟩, hb, hl⟩ := h
  exact ⟨⟨v, us, h1.keep (hk _ hb), h2, h3.keep fun k hk' => hk k (h4 k hk'), h4, h5.imp fun _ _ hR => ⟨hR.1, hR.2.keep fun k hk' => hk k hk'.1⟩⟩, hb, fun i hi => Nat.lt_of_lt_of_le (hl i hi) hs⟩
/-- One more. -/
theorem ToldSt.next {e e8 t : TypeId} {bo : Nat} {F : Nat → Prop} {w w1 w2 w3 : World} {d : List (Nat × List UInt8)} {x : Nat × List UInt8} {v v1 v3 : Value} {us : List (Nat × Value)} (hbo : F bo) (hlt : ∀ i, F i → i < w.heap.size)
    (hb : Blk w bo t [v]) (hne : v.ownBlock ≠ some bo) (how : TOwn e w v us) (hoF : ∀ k, v.ownBlock = some k → F k) (hA : All2 (fun u x => u.1 = x.1 ∧ OcS w (fun k => F k ∧ k ≠ bo ∧ v.ownBlock ≠ some k) x.2 u.2) us d)
    (hg1 : Grew e8 w (.slice none 0 0) w1 v1 x.2) (hc2 : Ch (fun _ => False) w1 w2) (hs2 : w1.heap.size < w2.heap.size) (hown3 : TOwn e w3 v3 (us ++ [(x.1, v1)])) (hc3 : Ch (fun i => v.ownBlock = some i) w2 w3) (hb3 : ∀ i, v3.ownBlock = some i → v.ownBlock = some i ∨ w2.heap.size ≤ i) :
    Blk w3 bo t [v] ∧ ToldSt e t bo (fun i => F i ∨ (w.heap.size ≤ i ∧ i < (w3.setCell ⟨bo, 0, none⟩ v3).heap.size)) (w3.setCell ⟨bo, 0, none⟩ v3) (d ++ [x]) ∧ Ch F w (w3.setCell ⟨bo, 0, none⟩ v3) := by
  have hbw : bo < w.heap.size := hb.lt
  have hc1 := hg1.new_ch
  have hs1 := hc1.size
  have hc12 : Ch (fun _ => False) w w2 := hc1.trans' hc2
  have hbw2 : Blk w2 bo t [v] := hb.ch hc12
  have hbw3 : Blk w3 bo t [v] := hbw2.keep (hc3.block bo hbw2.lt hne)
  have hs23 := hc3.size
  have hsc : Ch (fun i => i = bo) w3 (w3.setCell ⟨bo, 0, none⟩ v3) := Ch.set (S := fun i => i = bo) w3 (a := ⟨bo, 0, none⟩) rfl v3
  have hss := hsc.size
  have hne3 : v3.ownBlock ≠ some bo := fun hh => by
    rcases hb3 bo hh with h1 | h1
    · exact hne h1
    · omega
  -- what is elsewhere stays
  have stay : ∀ k, k < w2.heap.size → k ≠ bo → v.ownBlock ≠ some k → (w3.setCell ⟨bo, 0, none⟩ v3).heap[k]? = w2.heap[k]? := fun k hk h1 h2 => (hsc.block k (by omega) h1).trans (hc3.block k hk h2)
  refine ⟨hbw3, ⟨⟨v3, _, by simpa using hbw3.set 0 v3, hne3, hown3.keep fun k hk => hsc.block k (hown3.lt hk) fun hy => hne3 (hy ▸ hk), fun k hk => ?_, ?_⟩, .inl hbo, fun i hi => ?_⟩, ?_⟩
  · rcases hb3 k hk with h1 | h1
    · exact .inl (hoF k h1)
    · exact .inr ⟨by omega, Nat.lt_of_lt_of_le (hown3.lt hk) hss⟩
  · refine All2.app (hA.imp fun u y hR => ⟨hR.1, ?_⟩) (.cons ⟨rfl, ?_⟩ .nil)
    · refine (hR.2.keep fun k hk => ?_).mono fun k hk => ⟨.inl hk.1, hk.2.1, fun hh => ?_⟩
      · have := hlt k hk.1
        exact (stay k (by omega) hk.2.1 hk.2.2).trans (hc12.block k this fun h => h)
      · have := hlt k hk.1
        rcases hb3 k hh with h1 | h1
        · exact hk.2.2 h1
        · omega
    · refine (hg1.own.ocS.keep fun k hk => ?_).mono fun k hk => ?_
      · have h1 := hg1.own.lt hk
        have h2 := hg1.new_lo hk
        exact (stay k (by omega) (by omega) (fun hh => by have := how.lt hh; omega)).trans (hc2.block k h1 fun h => h)
      · have h1 := hg1.own.lt hk
        have h2 := hg1.new_lo hk
        refine ⟨.inr ⟨h2, by omega⟩, by omega, fun hh => ?_⟩
        rcases hb3 k hh with h3 | h3
        · have := how.lt h3; omega
        · omega
  · rcases hi with h | h
    · have := hlt i h; omega
    · exact h.2
  · refine ((hc12.mono fun _ _ h => h.elim).trans hc3 fun k hk e => hoF k e).trans hsc fun k hk e => by subst e; exact hbo
end Go.Kx
