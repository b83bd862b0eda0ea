/- Library texts Each Each2 Each3, joined. -/
import Derived.Test.YthcpchmmpnakaaaGreatDoorKxSaid
import Derived.Maps.RangeRun
import Derived.Test.YthcpchmmpnakaaaGreatDoorKxDraw
/- Going through a map of tags: what the steps do. -/
namespace Go.Kx
open Go.RowKit
set_option linter.unusedSimpArgs false
set_option linter.unusedVariables false
theorem nodup_at {α : Type} {l : List α} (h : l.Nodup) {i j : Nat} {hi : i < l.length} {hj : j < l.length} (e : l[i] = l[j]) : i = j := by
  have hp := List.pairwise_iff_getElem.1 h
  rcases Nat.lt_trichotomy i j with h1 | h1 | h1
  · exact absurd e (hp i j hi hj h1)
  · exact h1
  · exact absurd e.symm (hp j i hj hi h1)
section
variable {P : Program} {ρ : Operand → Value} {w : World} {K : Value → World → Prop} {d : Option Tmp} {ty : TypeId} {pos : String} {af : Array Edge} {g : Option (Nat × Bool)}

theorem OpK.range {x : Operand} {t kt et : TypeId} {r : Nat} {es : Array MapEntry} {clk : Nat} (ht : P.underlying t = some (.map kt et)) (hx : ρ x = .map (some r)) (hr : w.heap[r]? = some (.map es clk))
    (h : K (.pointer (some ⟨w.heap.size, 0, none⟩)) (w.alloc (.mapIter (some r) clk #[] clk))) : OpK P ρ ⟨d, .range t x, ty, pos, af, g⟩ w K := by
  simp only [OpK, execOp, hx, run_range_map w t kt et r es clk ht hr, Sem.run_bind, Result.andThen_ok, Sem.run_pure, After]
  exact h

theorem OpK.next {x : Operand} {r bm since c0 : Nat} {seen : Array Nat} {es : Array MapEntry} {clk : Nat} (hx : ρ x = .pointer (some ⟨r, 0, none⟩)) (hr : w.heap[r]? = some (.mapIter (some bm) since seen c0)) (hb : w.heap[bm]? = some (.map es clk))
    (hold : ∀ e ∈ es.toList, e.born < since) (hsc : since ≤ c0)
    (h0 : (leftOf es seen).size = 0 → K (.tuple #[.bool false]) w)
    (h1 : ∀ e ∈ (leftOf es seen).toList, ∀ w1 : World, (w1 = w ∨ w1 = w.drew) → K (.tuple #[.bool true, e.key, e.val]) (ChangeMaps.setBlock w1 r (.mapIter (some bm) since (seen.push e.born) clk))) : OpK P ρ ⟨d, .next x false, ty, pos, af, g⟩ w K := by
  rcases run_next_at (P := P) w ty r bm since c0 seen es clk hr hb hold hsc with ⟨hs, hrun⟩ | ⟨e, he, w1, hw, hrun⟩
  · simp only [OpK, execOp, hx, hrun, Sem.run_bind, Result.andThen_ok, Sem.run_pure, After]
    exact h0 hs
  · simp only [OpK, execOp, hx, hrun, Sem.run_bind, Result.andThen_ok, Sem.run_pure, After]
    exact h1 e he w1 hw

theorem OpK.entry {x : Operand} {r bm since : Nat} {seen : Array Nat} {es : Array MapEntry} {clk : Nat} {e : MapEntry} (hx : ρ x = .pointer (some ⟨r, 0, none⟩)) (hr : w.heap[r]? = some (.mapIter (some bm) since (seen.push e.born) clk)) (hb : w.heap[bm]? = some (.map es clk))
    (he : e ∈ es.toList) (hn : (es.toList.map (·.born)).Nodup) (h : K (.tuple #[e.key, e.val]) w) : OpK P ρ ⟨d, .entry x, ty, pos, af, g⟩ w K := by
  simp only [OpK, execOp, hx, run_entry_at w r bm since seen es clk e hr hb he hn, Sem.run_bind, Result.andThen_ok, Sem.run_pure, After]
  exact h

/-- The value at a key that is there. -/
theorem OpK.lookTag {x y : Operand} {t kt et : TypeId} {r : Nat} {es : Array MapEntry} {clk k : Nat} {S : Nat → Prop} {l : List (Nat × List UInt8)} {xs : List UInt8} (ht : P.underlying t = some (.map kt et)) (hk : P.underlying kt = some (.int .u32)) (hx : ρ x = .map (some r)) (hy : ρ y = .int .u32 (k : Int)) (hr : w.heap[r]? = some (.map es clk))
    (hn : (l.map (·.1)).Nodup) (hA : All2 (TagAt w S) es.toList l) (hm : (k, xs) ∈ l)
    (h : ∀ v, OctIs w S xs v → K v w) : OpK P ρ ⟨d, .lookup t x y false, ty, pos, af, g⟩ w K := by
  have hkey : MapKept.IsKey (.int .u32) (.int .u32 (k : Int)) := rfl
  have hlen := hA.len
  have hkeys : ∀ e ∈ es.toList, MapKept.IsKey (.int .u32) e.key := by
    intro e he
    obtain ⟨i, hi⟩ := List.mem_iff_getElem?.1 he
    have hlt : i < l.length := by rw [← hlen]; exact (List.getElem?_eq_some_iff.1 hi).1
    have := (hA.at_ i e l[i] hi (List.getElem?_eq_getElem hlt)).1
    rw [this]
    rfl
  obtain ⟨i, hi⟩ := List.mem_iff_getElem?.1 hm
  have hie : i < es.toList.length := by rw [hlen]; exact (List.getElem?_eq_some_iff.1 hi).1
  have hT := hA.at_ i es.toList[i] (k, xs) (List.getElem?_eq_getElem hie) hi
  rcases MapKept.findNow_spec hkey es.toList 0 hkeys with ⟨h1, h2⟩ | ⟨j, e, h1, h2, h3⟩
  · exact absurd hT.1 (h2 _ (List.getElem_mem hie))
  · simp only [Nat.zero_add] at h1
    have hjl : j < l.length := by rw [← hlen]; exact (List.getElem?_eq_some_iff.1 h2).1
    have hTj := hA.at_ j e l[j] h2 (List.getElem?_eq_getElem hjl)
    have hkj : l[j].1 = k := by
      have := hTj.1
      rw [h3] at this
      simp only [Value.int.injEq] at this
      omega
    have hij : l[j] = (k, xs) := by
      have hil : i < l.length := (List.getElem?_eq_some_iff.1 hi).1
      have hi2 : l[i] = (k, xs) := (List.getElem?_eq_some_iff.1 hi).2
      have e1 : (l.map (·.1))[j]'(by simpa using hjl) = (l.map (·.1))[i]'(by simpa using hil) := by simp [hkj, hi2]
      have := nodup_at hn e1
      subst this
      exact hi2
    have hrun : (Instr.lookup t (.map (some r)) (.int .u32 (k : Int)) false).run P w = .ok e.val w := by
      simp [Instr.lookup, run_underlying ht, MapKept.run_getObj_map hr, MapKept.run_checkKey hk hkey, MapKept.run_findKey hk h1, Result.andThen]
    simp only [OpK, execOp, hx, hy, hrun, Sem.run_bind, Result.andThen_ok, Sem.run_pure, After]
    refine h _ ?_
    rw [hij] at hTj
    rcases hTj.2.2 with ⟨q1, q2⟩ | ⟨a, c, q1, q2, q3, q4⟩
    · exact .inl ⟨q1, q2⟩
    · exact .inr ⟨a, c, q1, q2, q3, q4⟩
end
end Go.Kx

/- Going through a map of tags: the plain law: the keys that are collected, sorted, are the keys of the sorted tags. -/
namespace Go.Kx
open Go.RowKit
set_option linter.unusedSimpArgs false
set_option linter.unusedVariables false

theorem insTag_perm (x : Nat × List UInt8) : ∀ l : List (Nat × List UInt8), (insTag x l).Perm (x :: l)
  | [] => List.Perm.refl _
  | y :: l => by
    unfold insTag
    split
    · exact List.Perm.refl _
    · exact ((insTag_perm x l).cons y).trans (List.Perm.swap x y l)
theorem sortTags_perm : ∀ l : List (Nat × List UInt8), (sortTags l).Perm l
  | [] => List.Perm.refl _
  | x :: l => (insTag_perm x _).trans ((sortTags_perm l).cons x)

theorem sorted_keys {l : List (Nat × List UInt8)} {ds : List Nat} (hn : (l.map (·.1)).Nodup) (hp : ds.Perm (l.map (·.1))) (hs : ds.Pairwise (· ≤ ·)) : ds = (sortTags l).map (·.1) := by
  refine List.Perm.eq_of_pairwise (le := (· ≤ ·)) (fun a b _ _ h1 h2 => Nat.le_antisymm h1 h2) hs ?_ (hp.trans ((sortTags_perm l).map _).symm)
  have pw : ∀ {t : List (Nat × List UInt8)}, Rising t → (t.map (·.1)).Pairwise (· ≤ ·) := by
    intro t
    induction t with
    | nil => intro _; exact List.Pairwise.nil
    | cons x t ih =>
      intro h
      refine List.pairwise_cons.2 ⟨fun a ha => ?_, ih h.2⟩
      obtain ⟨y, hy, rfl⟩ := List.mem_map.1 ha
      exact Nat.le_of_lt (h.1 y hy)
  exact pw (sortTags_rising (t := l) hn)

/-- Without one of them. -/
theorem filter_born_perm {e : MapEntry} : ∀ {l : List MapEntry}, (l.map (·.born)).Nodup → e ∈ l → l.Perm (e :: l.filter fun x => x.born != e.born)
  | x :: l, hn, he => by
    have hn' : x.born ∉ l.map (·.born) ∧ (l.map (·.born)).Nodup := List.nodup_cons.1 hn
    rcases List.mem_cons.1 he with rfl | h
    · rw [List.filter_cons, if_neg (by simp), List.filter_eq_self.2]
      intro y hy
      rw [bne_iff_ne]
      intro e1
      exact hn'.1 (List.mem_map.2 ⟨y, hy, e1⟩)
    · have hx : x.born ≠ e.born := fun e1 => hn'.1 (List.mem_map.2 ⟨e, h, e1.symm⟩)
      rw [List.filter_cons, if_pos (by simpa using hx)]
      exact ((filter_born_perm hn'.2 h).cons x).trans (List.Perm.swap e x _)

theorem left_step {es : Array MapEntry} {seen : Array Nat} {e : MapEntry} (hn : (es.toList.map (·.born)).Nodup) (he : e ∈ (leftOf es seen).toList) :
    (leftOf es seen).toList.Perm (e :: (leftOf es (seen.push e.born)).toList) := by
  have h1 : ((leftOf es seen).toList.map (·.born)).Nodup := by
    unfold leftOf
    rw [Array.toList_filter]
    exact hn.sublist (List.filter_sublist.map _)
  have h2 : (leftOf es (seen.push e.born)).toList = (leftOf es seen).toList.filter fun x => x.born != e.born := by
    unfold leftOf
    rw [Array.toList_filter, Array.toList_filter, List.filter_filter]
    refine List.filter_congr fun x _ => ?_
    simp only [Array.contains_push, Bool.not_or]
    rw [Bool.and_comm]
    congr 1
  rw [h2]
  exact filter_born_perm h1 he
theorem left_none (es : Array MapEntry) : leftOf es #[] = es := by
  unfold leftOf
  exact Array.filter_eq_self.2 fun x _ => by simp
end Go.Kx

/- Going through a map of tags: the box of the slice that grows; calls of a function value. -/
namespace Go.Kx
open Go.RowKit
set_option linter.unusedSimpArgs false
set_option linter.unusedVariables false
section
variable {P : Program} {ρ : Operand → Value} {w : World} {K : Value → World → Prop} {d : Option Tmp} {ty : TypeId} {pos : String} {af : Array Edge} {g : Option (Nat × Bool)}
theorem OpK.callVal {x : Operand} {f : FuncId} {args : Array Operand} {ats : Array TypeId} {caps : Array Value} (hx : ρ x = .func (.func f) #[] caps) (hf : Callable P f)
    (h : Calls P f (args.map ρ ++ caps) w fun e w' => ∃ v, e = .returned v ∧ K v w') : OpK P ρ ⟨d, .call ⟨.value x, args, ats⟩, ty, pos, af, g⟩ w K := by
  simp only [OpK, execOp, resolve, hx, Deferred.ofValue, invoke, Sem.run_bind, Sem.run_pure, Result.andThen_ok]
  simp [invoke, run_callFunc hf, After]
  exact h
end

/-- The slice of octets that grows lies in a box; what lies in blocks of X is left alone. -/
structure BoxSt (e : TypeId) (w0 : World) (d0 : Value) (bo : Nat) (tS : TypeId) (X : Nat → Prop) (w : World) (d : Value) (bs : List UInt8) : Prop where
  blk : Blk w bo tS [d]
  grew : Grew e w0 d0 w d bs
  ne : d.ownBlock ≠ some bo
  lo : w0.heap.size ≤ bo
  prot : ∀ i, X i → i < w.heap.size ∧ d.ownBlock ≠ some i ∧ i ≠ bo

/-- The slice has grown, and is stored in its box. -/
theorem BoxSt.put {e : TypeId} {w0 : World} {d0 : Value} {bo : Nat} {tS : TypeId} {X : Nat → Prop} {w : World} {d : Value} {bs : List UInt8} (h : BoxSt e w0 d0 bo tS X w d bs) {w' : World} {d' : Value} {bs' : List UInt8} (hg : Grew e w d w' d' bs') :
    BoxSt e w0 d0 bo tS X (w'.setCell ⟨bo, 0, none⟩ d') d' bs' ∧ (∀ i, X i → (w'.setCell ⟨bo, 0, none⟩ d').heap[i]? = w.heap[i]?) ∧ Blk w' bo tS [d] := by
  have hbo : bo < w.heap.size := h.blk.lt
  have hb' : Blk w' bo tS [d] := h.blk.keep (hg.keep hbo h.ne)
  have hne : d'.ownBlock ≠ some bo := fun hh => by
    rcases hg.blk bo hh with h1 | h1
    · exact h.ne h1
    · omega
  have hoth : ∀ k, k ≠ bo → (w'.setCell ⟨bo, 0, none⟩ d').heap[k]? = w'.heap[k]? := fun k hk => setCell_other w' ⟨bo, 0, none⟩ d' k hk
  have hsc : Ch (fun k => k = bo) w' (w'.setCell ⟨bo, 0, none⟩ d') := Ch.set (S := fun k => k = bo) w' (a := ⟨bo, 0, none⟩) rfl d'
  have hX : ∀ i, X i → (w'.setCell ⟨bo, 0, none⟩ d').heap[i]? = w.heap[i]? := fun i hi => by
    obtain ⟨h1, h2, h3⟩ := h.prot i hi
    rw [hoth i h3]
    exact hg.keep h1 h2
  refine ⟨⟨by simpa using hb'.set 0 d', ?_, hne, h.lo, fun i hi => ?_⟩, hX, hb'⟩
  · have ht := h.grew.trans hg
    refine ⟨ht.own.keep fun k hk => hoth k fun e => hne (e ▸ hk), ?_, ht.blk⟩
    refine ht.ch.trans (T := fun k => k = bo) ?_ fun i hi e => by have := h.lo; omega
    exact hsc
  · obtain ⟨h1, h2, h3⟩ := h.prot i hi
    refine ⟨Nat.lt_of_lt_of_le h1 (Nat.le_trans hg.ch.size hsc.size), fun hh => ?_, h3⟩
    rcases hg.blk i hh with h4 | h4
    · exact h2 h4
    · omega
end Go.Kx
