/- Library texts Each2 Each3 Each4, joined. -/
import Derived.Test.YtmhliehkbkanmaaDoorKxEach
import Derived.Test.YtmhliehkbkanmaaDoorKxDraw
import Derived.Laws.MakeOwn
/- Going through a map of tags: the plain law: the keys that are collected, sorted, are the keys of the sorted tags. -/
namespace Go.Kx
open Go.RowKit
set_option linter.unusedSimpArgs false
set_option linter.unusedVariables false

theorem insTag_perm (x : Nat × List UInt8) : ∀ l : List (Nat × List UInt8), (insTag x l).Perm (x :: l)
  | [] => List.Perm.refl _
  | y :: l => by
    unfold insTag
    split
    · exact List.Perm.refl _
    · exact ((insTag_perm x l).cons y).trans (List.Perm.swap x y l)
theorem sortTags_perm : ∀ l : List (Nat × List UInt8), (sortTags l).Perm l
  | [] => List.Perm.refl _
  | x :: l => (insTag_perm x _).trans ((sortTags_perm l).cons x)

theorem sorted_keys {l : List (Nat × List UInt8)} {ds : List Nat} (hn : (l.map (·.1)).Nodup) (hp : ds.Perm (l.map (·.1))) (hs : ds.Pairwise (· ≤ ·)) : ds = (sortTags l).map (·.1) := by
  refine List.Perm.eq_of_pairwise (le := (· ≤ ·)) (fun a b _ _ h1 h2 => Nat.le_antisymm h1 h2) hs ?_ (hp.trans ((sortTags_perm l).map _).symm)
  have pw : ∀ {t : List (Nat × List UInt8)}, Rising t → (t.map (·.1)).Pairwise (· ≤ ·) := by
    intro t
    induction t with
    | nil => intro _; exact List.Pairwise.nil
    | cons x t ih =>
      intro h
      refine List.pairwise_cons.2 ⟨fun a ha => ?_, ih h.2⟩
      obtain ⟨y, hy, rfl⟩ := List.mem_map.1 ha
      exact Nat.le_of_lt (h.1 y hy)
  exact pw (sortTags_rising (t := l) hn)

/-- Without one of them. -/
theorem filter_born_perm {e : MapEntry} : ∀ {l : List MapEntry}, (l.map (·.born)).Nodup → e ∈ l → l.Perm (e :: l.filter fun x => x.born != e.born)
  | x :: l, hn, he => by
    have hn' : x.born ∉ l.map (·.born) ∧ (l.map (·.born)).Nodup := List.nodup_cons.1 hn
    rcases List.mem_cons.1 he with rfl | h
    · rw [List.filter_cons, if_neg (by simp), List.filter_eq_self.2]
      intro y hy
      rw [bne_iff_ne]
      intro e1
      exact hn'.1 (List.mem_map.2 ⟨y, hy, e1⟩)
    · have hx : x.born ≠ e.born := fun e1 => hn'.1 (List.mem_map.2 ⟨e, h, e1.symm⟩)
      rw [List.filter_cons, if_pos (by simpa using hx)]
      exact ((filter_born_perm hn'.2 h).cons x).trans (List.Perm.swap e x _)

theorem left_step {es : Array MapEntry} {seen : Array Nat} {e : MapEntry} (hn : (es.toList.map (·.born)).Nodup) (he : e ∈ (leftOf es seen).toList) :
    (leftOf es seen).toList.Perm (e :: (leftOf es (seen.push e.born)).toList) := by
  have h1 : ((leftOf es seen).toList.map (·.born)).Nodup := by
    unfold leftOf
    rw [Array.toList_filter]
    exact hn.sublist (List.filter_sublist.map _)
  have h2 : (leftOf es (seen.push e.born)).toList = (leftOf es seen).toList.filter fun x => x.born != e.born := by
    unfold leftOf
    rw [Array.toList_filter, Array.toList_filter, List.filter_filter]
    refine List.filter_congr fun x _ => ?_
    simp only [Array.contains_push, Bool.not_or]
    rw [Bool.and_comm]
    congr 1
  rw [h2]
  exact filter_born_perm h1 he
theorem left_none (es : Array MapEntry) : leftOf es #[] = es := by
  unfold leftOf
  exact Array.filter_eq_self.2 fun x _ => by simp
end Go.Kx

/- Going through a map of tags: the box of the slice that grows; calls of a function value. -/
namespace Go.Kx
open Go.RowKit
set_option linter.unusedSimpArgs false
set_option linter.unusedVariables false
section
variable {P : Program} {ρ : Operand → Value} {w : World} {K : Value → World → Prop} {d : Option Tmp} {ty : TypeId} {pos : String} {af : Array Edge} {g : Option (Nat × Bool)}
theorem OpK.callVal {x : Operand} {f : FuncId} {args : Array Operand} {ats : Array TypeId} {caps : Array Value} (hx : ρ x = .func (.func f) #[] caps) (hf : Callable P f)
    (h : Calls P f (args.map ρ ++ caps) w fun e w' => ∃ v, e = .returned v ∧ K v w') : OpK P ρ ⟨d, .call ⟨.value x, args, ats⟩, ty, pos, af, g⟩ w K := by
  simp only [OpK, execOp, resolve, hx, Deferred.ofValue, invoke, Sem.run_bind, Sem.run_pure, Result.andThen_ok]
  simp [invoke, run_callFunc hf, After]
  exact h
end

/-- The slice of octets that grows lies in a box; what lies in blocks of X is left alone. -/
structure BoxSt (e : TypeId) (w0 : World) (d0 : Value) (bo : Nat) (tS : TypeId) (X : Nat → Prop) (w : World) (d : Value) (bs : List UInt8) : Prop where
  blk : Blk w bo tS [d]
  grew : Grew e w0 d0 w d bs
  ne : d.ownBlock ≠ some bo
  lo : w0.heap.size ≤ bo
  prot : ∀ i, X i → i < w.heap.size ∧ d.ownBlock ≠ some i ∧ i ≠ bo

/-- The slice has grown, and is stored in its box. -/
theorem BoxSt.put {e : TypeId} {w0 : World} {d0 : Value} {bo : Nat} {tS : TypeId} {X : Nat → Prop} {w : World} {d : Value} {bs : List UInt8} (h : BoxSt e w0 d0 bo tS X w d bs) {w' : World} {d' : Value} {bs' : List UInt8} (hg : Grew e w d w' d' bs') :
    BoxSt e w0 d0 bo tS X (w'.setCell ⟨bo, 0, none⟩ d') d' bs' ∧ (∀ i, X i → (w'.setCell ⟨bo, 0, none⟩ d').heap[i]? = w.heap[i]?) ∧ Blk w' bo tS [d] := by
  have hbo : bo < w.heap.size := h.blk.lt
  have hb' : Blk w' bo tS [d] := h.blk.keep (hg.keep hbo h.ne)
  have hne : d'.ownBlock ≠ some bo := fun hh => by
    rcases hg.blk bo hh with h1 | h1
    · exact h.ne h1
    · omega
  have hoth : ∀ k, k ≠ bo → (w'.setCell ⟨bo, 0, none⟩ d').heap[k]? = w'.heap[k]? := fun k hk => setCell_other w' ⟨bo, 0, none⟩ d' k hk
  have hsc : Ch (fun k => k = bo) w' (w'.setCell ⟨bo, 0, none⟩ d') := Ch.set (S := fun k => k = bo) w' (a := ⟨bo, 0, none⟩) rfl d'
  have hX : ∀ i, X i → (w'.setCell ⟨bo, 0, none⟩ d').heap[i]? = w.heap[i]? := fun i hi => by
    obtain ⟨h1, h2, h3⟩ := h.prot i hi
    rw [hoth i h3]
    exact hg.keep h1 h2
  refine ⟨⟨by simpa using hb'.set 0 d', ?_, hne, h.lo, fun i hi => ?_⟩, hX, hb'⟩
  · have ht := h.grew.trans hg
    refine ⟨ht.own.keep fun k hk => hoth k fun e => hne (e ▸ hk), ?_, ht.blk⟩
    refine ht.ch.trans (T := fun k => k = bo) ?_ fun i hi e => by have := h.lo; omega
    exact hsc
  · obtain ⟨h1, h2, h3⟩ := h.prot i hi
    refine ⟨Nat.lt_of_lt_of_le h1 (Nat.le_trans hg.ch.size hsc.size), fun hh => ?_, h3⟩
    rcases hg.blk i hh with h4 | h4
    · exact h2 h4
    · omega
end Go.Kx

/- Going through a map of tags: the slice of the keys. -/
namespace Go.Kx
open Go.RowKit
set_option linter.unusedSimpArgs false
set_option linter.unusedVariables false

def kv (k : Nat) : Value := .int .u32 (k : Int)
def U32 (P : Program) (e : TypeId) : Prop := (P.info? e).map (fun i => (i.zero, i.size, i.bytes)) = some (some (.int .u32 0), 1, 4)
/-- A slice of keys, its row its own. -/
def KOwn (e : TypeId) (w : World) (v : Value) (ks : List Nat) : Prop := w.ownsRow 0 e 1 v ks.length (ks.map kv)

theorem KOwn.lt {e : TypeId} {w : World} {v : Value} {ks : List Nat} (h : KOwn e w v ks) {k : Nat} (hk : v.ownBlock = some k) : k < w.heap.size := (World.ownsRow.lt h k hk).2
theorem KOwn.keep {e : TypeId} {w w' : World} {v : Value} {ks : List Nat} (h : KOwn e w v ks) (hk : ∀ k, v.ownBlock = some k → w'.heap[k]? = w.heap[k]?) : KOwn e w' v ks := by
  refine ⟨h.1, ?_⟩
  rcases h.2 with hn | ⟨g, cap, cur, rfl, hb, hg, rest⟩
  · exact .inl hn
  · exact .inr ⟨g, cap, cur, rfl, hb, (hk g rfl).trans hg, rest⟩

section
variable {P : Program} {w : World} {t e : TypeId}
theorem u32_parts (he : U32 P e) : ∃ i, P.info? e = some i ∧ i.zero = some (.int .u32 0) ∧ i.size = 1 ∧ i.bytes = 4 := by
  unfold U32 at he
  obtain ⟨i, hi, hh⟩ := Option.map_eq_some_iff.1 he
  simp only [Prod.mk.injEq] at hh
  exact ⟨i, hi, hh.1, hh.2.1, hh.2.2⟩
theorem run_bsK (ht : P.underlying t = some (.slice e)) (he : U32 P e) (k : Nat) :
    (Instr.buildSlice t 1 #[(0, kv k)]).run P w = .ok (.slice (some ⟨w.heap.size, 0, none⟩) 1 1) (w.alloc (.cells #[kv k] e)) := by
  obtain ⟨i, hi, hz, hs, hb⟩ := u32_parts he
  simp [Instr.buildSlice, run_underlying ht, sizeOf, typeInfo, hi, hs, hz, zeroValue, Instr.fill, Value.cells, newRow, kv]
  refine congrArg (fun c => w.alloc (.cells c e)) (Array.ext' ?_)
  simp [List.range_succ]

/-- append(keys, key): behind the row's own making. -/
theorem append_key {v : Value} {ks : List Nat} {ty : TypeId} (ht : P.underlying t = some (.slice e)) (he : U32 P e) (hv : KOwn e w v ks) (k : Nat) (hl : ks.length < 4294967296) :
    ∃ v' w', (Builtin.append_ #[t, t] ty #[v, .slice (some ⟨w.heap.size, 0, none⟩) 1 1]).run P (w.alloc (.cells #[kv k] e)) = .ok v' w' ∧ KOwn e w' v' (ks ++ [k]) ∧ Ch (fun i => v.ownBlock = some i) w w' ∧ ∀ i, v'.ownBlock = some i → v.ownBlock = some i ∨ w.heap.size ≤ i := by
  obtain ⟨i, hi, hz, hs, hb⟩ := u32_parts he
  have hv' : KOwn e (w.alloc (.cells #[kv k] e)) v ks := hv.keep fun j hj => alloc_old w _ j (hv.lt hj)
  obtain ⟨v', w', hr, hown, hg, _, hat⟩ := run_append_own_at (P := P) (w.alloc (.cells #[kv k] e)) 0 t ty e i (.int .u32 0) 1 4 ht hi hz hs hb rfl (by omega) v ks.length (ks.map kv) hv' ⟨w.heap.size, 0, none⟩ 1 1 [kv k]
    rfl (fun j u hu => by
      have hj : j = 0 := by
        rcases Nat.eq_zero_or_pos j with h | h
        · exact h
        · rw [List.getElem?_eq_none (by simp only [List.length_cons, List.length_nil]; omega)] at hu; cases hu
      subst hj
      simp only [List.getElem?_cons_zero, Option.some.injEq] at hu
      subst hu
      have hb := Blk.new w e [kv k]
      exact hb.cell 0) (fun u hu => by simp only [List.mem_cons, List.not_mem_nil, or_false] at hu; subst hu; rfl) (by simp only [maxLen]; omega) (by omega) (Nat.zero_le _)
  refine ⟨v', w', hr, ?_, (Ch.alloc _ w _).trans (Ch.of_grown hg fun k hk => hk) fun i _ h => h, fun j hj => ?_⟩
  · unfold KOwn
    rw [List.length_append, List.map_append]
    exact hown
  · have hsz : (w.alloc (.cells #[kv k] e)).heap.size = w.heap.size + 1 := by simp
    rcases hat with h | h
    · exact .inl (h ▸ hj)
    · rw [h] at hj
      simp only [Option.some.injEq] at hj
      exact .inr (by omega)
end

/-- make(keys, 0, n) -/
theorem OpK.makeKeys {P : Program} {ρ : Operand → Value} {w : World} {K : Value → World → Prop} {d : Option Tmp} {ty : TypeId} {pos : String} {af : Array Edge} {g : Option (Nat × Bool)} {x y : Operand} {t e : TypeId} {n : Nat} (ht : P.underlying t = some (.slice e)) (he : U32 P e) (hx : ρ x = .int .i64 0) (hy : ρ y = .int .i64 (n : Int)) (hn : n ≤ 4294967296)
    (h : ∀ w' v, KOwn e w' v [] → v = .slice (some ⟨w.heap.size, 0, none⟩) 0 n → Ch (fun _ => False) w w' → w.heap.size < w'.heap.size → K v w') : OpK P ρ ⟨d, .makeSlice t x y, ty, pos, af, g⟩ w K := by
  obtain ⟨i, hi, hz, hs, hb⟩ := u32_parts he
  obtain ⟨w', hr, hown, hg⟩ := run_make_own (P := P) w 0 t e i (.int .u32 0) 1 ht hi hz hs .i64 .i64 n (by rw [hb]; omega) (by simp only [maxLen]; omega) (Nat.zero_le _)
  simp only [OpK, execOp, hx, hy, hr, Sem.run_bind, Result.andThen_ok, Sem.run_pure, After]
  exact h w' _ hown rfl (Ch.of_grown hg fun k hk => by cases hk) (KOwn.lt (e := e) (ks := []) hown rfl)

/-- What the library's sort does with the keys. -/
def SortIs (P : Program) (srt less : FuncId) (tS eT : TypeId) : Prop := Callable P srt ∧ ∀ (w : World) (g bo c : Nat) (ks : List Nat), Blk w bo tS [.slice (some ⟨g, 0, none⟩) ks.length c] → KOwn eT w (.slice (some ⟨g, 0, none⟩) ks.length c) ks → g ≠ bo → 0 < ks.length → ks.length ≤ 4294967296 → (∀ k ∈ ks, k < 4294967296) →
  Calls P srt #[.iface tS (.slice (some ⟨g, 0, none⟩) ks.length c), .func (.func less) #[] #[.pointer (some ⟨bo, 0, none⟩)]] w fun en w' => en = .returned (.tuple #[]) ∧ ∃ ds : List Nat, ds.Perm ks ∧ ds.Pairwise (· ≤ ·) ∧ Ch (fun k => k = g) w w' ∧ KOwn eT w' (.slice (some ⟨g, 0, none⟩) ks.length c) ds

/-- Keys that differ and are small are few. -/
theorem few_of_rising {N : Nat} : ∀ {t : List (Nat × List UInt8)} {m : Nat}, Rising t → (∀ y ∈ t, m ≤ y.1 ∧ y.1 < N) → m ≤ N → t.length + m ≤ N
  | [], m, _, _, hm => by simpa using hm
  | x :: t, m, h, hb, hm => by
    have h1 := hb x (List.mem_cons_self ..)
    have := few_of_rising (N := N) (t := t) (m := x.1 + 1) h.2 (fun y hy => ⟨h.1 y hy, (hb y (List.mem_cons_of_mem _ hy)).2⟩) (by omega)
    simp only [List.length_cons]
    omega
theorem few_tags {l : List (Nat × List UInt8)} (hn : (l.map (·.1)).Nodup) (hb : ∀ y ∈ l, y.1 < 4294967296) : l.length ≤ 4294967296 := by
  have := few_of_rising (N := 4294967296) (m := 0) (sortTags_rising (t := l) hn) (fun y hy => ⟨Nat.zero_le _, hb y (sortTags_mem.1 hy)⟩) (Nat.zero_le _)
  rw [sortTags_len] at this
  omega
end Go.Kx
