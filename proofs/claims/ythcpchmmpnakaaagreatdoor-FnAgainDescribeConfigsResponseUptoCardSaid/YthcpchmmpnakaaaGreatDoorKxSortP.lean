/- Library texts Each4 Each5 SortP, joined. -/
import Derived.Test.YthcpchmmpnakaaaGreatDoorKxEach3
import Derived.Laws.MakeOwn
import Derived.Sort.LotA
import Derived.Lib.OwnBridge
import Derived.Sort.Grow
/- Going through a map of tags: the slice of the keys. -/
namespace Go.Kx
open Go.RowKit
set_option linter.unusedSimpArgs false
set_option linter.unusedVariables false

def kv (k : Nat) : Value := .int .u32 (k : Int)
def U32 (P : Program) (e : TypeId) : Prop := (P.info? e).map (fun i => (i.zero, i.size, i.bytes)) = some (some (.int .u32 0), 1, 4)
/-- A slice of keys, its row its own. -/
def KOwn (e : TypeId) (w : World) (v : Value) (ks : List Nat) : Prop := w.ownsRow 0 e 1 v ks.length (ks.map kv)

theorem KOwn.lt {e : TypeId} {w : World} {v : Value} {ks : List Nat} (h : KOwn e w v ks) {k : Nat} (hk : v.ownBlock = some k) : k < w.heap.size := (World.ownsRow.lt h k hk).2
theorem KOwn.keep {e : TypeId} {w w' : World} {v : Value} {ks : List Nat} (h : KOwn e w v ks) (hk : ∀ k, v.ownBlock = some k → w'.heap[k]? = w.heap[k]?) : KOwn e w' v ks := by
  refine ⟨h.1, ?_⟩
  rcases h.2 with hn | ⟨g, cap, cur, rfl, hb, hg, rest⟩
  · exact .inl hn
  · exact .inr ⟨g, cap, cur, rfl, hb, (hk g rfl).trans hg, rest⟩

section
variable {P : Program} {w : World} {t e : TypeId}
theorem u32_parts (he : U32 P e) : ∃ i, P.info? e = some i ∧ i.zero = some (.int .u32 0) ∧ i.size = 1 ∧ i.bytes = 4 := by
  unfold U32 at he
  obtain ⟨i, hi, hh⟩ := Option.map_eq_some_iff.1 he
  simp only [Prod.mk.injEq] at hh
  exact ⟨i, hi, hh.1, hh.2.1, hh.2.2⟩
theorem run_bsK (ht : P.underlying t = some (.slice e)) (he : U32 P e) (k : Nat) :
    (Instr.buildSlice t 1 #[(0, kv k)]).run P w = .ok (.slice (some ⟨w.heap.size, 0, none⟩) 1 1) (w.alloc (.cells #[kv k] e)) := by
  obtain ⟨i, hi, hz, hs, hb⟩ := u32_parts he
  simp [Instr.buildSlice, run_underlying ht, sizeOf, typeInfo, hi, hs, hz, zeroValue, Instr.fill, Value.cells, newRow, kv]
  refine congrArg (fun c => w.alloc (.cells c e)) (Array.ext' ?_)
  simp [List.range_succ]

/-- append(keys, key): behind the row's own making. -/
theorem append_key {v : Value} {ks : List Nat} {ty : TypeId} (ht : P.underlying t = some (.slice e)) (he : U32 P e) (hv : KOwn e w v ks) (k : Nat) (hl : ks.length < 4294967296) :
    ∃ v' w', (Builtin.append_ #[t, t] ty #[v, .slice (some ⟨w.heap.size, 0, none⟩) 1 1]).run P (w.alloc (.cells #[kv k] e)) = .ok v' w' ∧ KOwn e w' v' (ks ++ [k]) ∧ Ch (fun i => v.ownBlock = some i) w w' ∧ ∀ i, v'.ownBlock = some i → v.ownBlock = some i ∨ w.heap.size ≤ i := by
  obtain ⟨i, hi, hz, hs, hb⟩ := u32_parts he
  have hv' : KOwn e (w.alloc (.cells #[kv k] e)) v ks := hv.keep fun j hj => alloc_old w _ j (hv.lt hj)
  obtain ⟨v', w', hr, hown, hg, _, hat⟩ := run_append_own_at (P := P) (w.alloc (.cells #[kv k] e)) 0 t ty e i (.int .u32 0) 1 4 ht hi hz hs hb rfl (by omega) v ks.length (ks.map kv) hv' ⟨w.heap.size, 0, none⟩ 1 1 [kv k]
    rfl (fun j u hu => by
      have hj : j = 0 := by
        rcases Nat.eq_zero_or_pos j with h | h
        · exact h
        · rw [List.getElem?_eq_none (by simp only [List.length_cons, List.length_nil]; omega)] at hu; cases hu
      subst hj
      simp only [List.getElem?_cons_zero, Option.some.injEq] at hu
      subst hu
      have hb := Blk.new w e [kv k]
      exact hb.cell 0) (fun u hu => by simp only [List.mem_cons, List.not_mem_nil, or_false] at hu; subst hu; rfl) (by simp only [maxLen]; omega) (by omega) (Nat.zero_le _)
  refine ⟨v', w', hr, ?_, (Ch.alloc _ w _).trans (Ch.of_grown hg fun k hk => hk) fun i _ h => h, fun j hj => ?_⟩
  · unfold KOwn
    rw [List.length_append, List.map_append]
    exact hown
  · have hsz : (w.alloc (.cells #[kv k] e)).heap.size = w.heap.size + 1 := by simp
    rcases hat with h | h
    · exact .inl (h ▸ hj)
    · rw [h] at hj
      simp only [Option.some.injEq] at hj
      exact .inr (by omega)
end

/-- make(keys, 0, n) -/
theorem OpK.makeKeys {P : Program} {ρ : Operand → Value} {w : World} {K : Value → World → Prop} {d : Option Tmp} {ty : TypeId} {pos : String} {af : Array Edge} {g : Option (Nat × Bool)} {x y : Operand} {t e : TypeId} {n : Nat} (ht : P.underlying t = some (.slice e)) (he : U32 P e) (hx : ρ x = .int .i64 0) (hy : ρ y = .int .i64 (n : Int)) (hn : n ≤ 4294967296)
    (h : ∀ w' v, KOwn e w' v [] → v = .slice (some ⟨w.heap.size, 0, none⟩) 0 n → Ch (fun _ => False) w w' → w.heap.size < w'.heap.size → K v w') : OpK P ρ ⟨d, .makeSlice t x y, ty, pos, af, g⟩ w K := by
  obtain ⟨i, hi, hz, hs, hb⟩ := u32_parts he
  obtain ⟨w', hr, hown, hg⟩ := run_make_own (P := P) w 0 t e i (.int .u32 0) 1 ht hi hz hs .i64 .i64 n (by rw [hb]; omega) (by simp only [maxLen]; omega) (Nat.zero_le _)
  simp only [OpK, execOp, hx, hy, hr, Sem.run_bind, Result.andThen_ok, Sem.run_pure, After]
  exact h w' _ hown rfl (Ch.of_grown hg fun k hk => by cases hk) (KOwn.lt (e := e) (ks := []) hown rfl)

/-- What the library's sort does with the keys. -/
def SortIs (P : Program) (srt less : FuncId) (tS eT : TypeId) : Prop := Callable P srt ∧ ∀ (w : World) (g bo c : Nat) (ks : List Nat), Blk w bo tS [.slice (some ⟨g, 0, none⟩) ks.length c] → KOwn eT w (.slice (some ⟨g, 0, none⟩) ks.length c) ks → g ≠ bo → 0 < ks.length → ks.length ≤ 4294967296 → (∀ k ∈ ks, k < 4294967296) →
  Calls P srt #[.iface tS (.slice (some ⟨g, 0, none⟩) ks.length c), .func (.func less) #[] #[.pointer (some ⟨bo, 0, none⟩)]] w fun en w' => en = .returned (.tuple #[]) ∧ ∃ ds : List Nat, ds.Perm ks ∧ ds.Pairwise (· ≤ ·) ∧ Ch (fun k => k = g) w w' ∧ KOwn eT w' (.slice (some ⟨g, 0, none⟩) ks.length c) ds

/-- Keys that differ and are small are few. -/
theorem few_of_rising {N : Nat} : ∀ {t : List (Nat × List UInt8)} {m : Nat}, Rising t → (∀ y ∈ t, m ≤ y.1 ∧ y.1 < N) → m ≤ N → t.length + m ≤ N
  | [], m, _, _, hm => by simpa using hm
  | x :: t, m, h, hb, hm => by
    have h1 := hb x (List.mem_cons_self ..)
    have := few_of_rising (N := N) (t := t) (m := x.1 + 1) h.2 (fun y hy => ⟨h.1 y hy, (hb y (List.mem_cons_of_mem _ hy)).2⟩) (by omega)
    simp only [List.length_cons]
    omega
theorem few_tags {l : List (Nat × List UInt8)} (hn : (l.map (·.1)).Nodup) (hb : ∀ y ∈ l, y.1 < 4294967296) : l.length ≤ 4294967296 := by
  have := few_of_rising (N := 4294967296) (m := 0) (sortTags_rising (t := l) hn) (fun y hy => ⟨Nat.zero_le _, hb y (sortTags_mem.1 hy)⟩) (Nat.zero_le _)
  rw [sortTags_len] at this
  omega
end Go.Kx

/- Going through a map of tags: what stands while the keys are collected. -/
namespace Go.Kx
open Go.RowKit
set_option linter.unusedSimpArgs false
set_option linter.unusedVariables false

/-- What turns elsewhere leaves the box. -/
theorem BoxSt.other {e : TypeId} {w0 : World} {d0 : Value} {bo : Nat} {tS : TypeId} {X X' : Nat → Prop} {w w' : World} {d : Value} {bs : List UInt8} (h : BoxSt e w0 d0 bo tS X w d bs) {Y : Nat → Prop} (hch : Ch Y w w')
    (hY : ∀ i, i < w.heap.size → Y i → w0.heap.size ≤ i ∧ i ≠ bo ∧ d.ownBlock ≠ some i) (hX : ∀ i, X' i → i < w'.heap.size ∧ d.ownBlock ≠ some i ∧ i ≠ bo) : BoxSt e w0 d0 bo tS X' w' d bs := by
  have hbo : bo < w.heap.size := h.blk.lt
  have kd : ∀ k, d.ownBlock = some k → w'.heap[k]? = w.heap[k]? := fun k hk => hch.block k (h.grew.own.lt hk) fun hy => (hY k (h.grew.own.lt hk) hy).2.2 hk
  refine ⟨h.blk.keep (hch.block bo hbo fun hy => (hY bo hbo hy).2.1 rfl), ⟨h.grew.own.keep kd, ?_, h.grew.blk⟩, h.ne, h.lo, hX⟩
  refine ⟨hch.os.trans h.grew.ch.os, hch.tape.trans h.grew.ch.tape, hch.output.trans h.grew.ch.output, Nat.le_trans h.grew.ch.size hch.size, fun k hk hn => ?_⟩
  have hkw : k < w.heap.size := Nat.lt_of_lt_of_le hk h.grew.ch.size
  rw [hch.block k hkw fun hy => by have := (hY k hkw hy).1; omega]
  exact h.grew.ch.block k hk hn

/-- Keys collected in a box of their own, beside the box of the slice that grows. -/
structure KSt (e eK tS tK : TypeId) (w0 : World) (d0 : Value) (bo : Nat) (d : Value) (bs : List UInt8) (B : Nat) (w : World) (v : Value) (ks : List Nat) : Prop where
  box : BoxSt e w0 d0 bo tS (fun _ => False) w d bs
  blk : Blk w B tK [v]
  own : KOwn eK w v ks
  ne : v.ownBlock ≠ some B
  lo : w0.heap.size ≤ B ∧ B ≠ bo ∧ d.ownBlock ≠ some B
  vlo : ∀ i, v.ownBlock = some i → w0.heap.size ≤ i ∧ i ≠ bo ∧ d.ownBlock ≠ some i

theorem KSt.other {e eK tS tK : TypeId} {w0 : World} {d0 : Value} {bo : Nat} {d : Value} {bs : List UInt8} {B : Nat} {w w' : World} {v : Value} {ks : List Nat} (h : KSt e eK tS tK w0 d0 bo d bs B w v ks) {Y : Nat → Prop} (hch : Ch Y w w')
    (hY : ∀ i, i < w.heap.size → Y i → w0.heap.size ≤ i ∧ i ≠ bo ∧ d.ownBlock ≠ some i ∧ i ≠ B ∧ v.ownBlock ≠ some i) : KSt e eK tS tK w0 d0 bo d bs B w' v ks := by
  refine ⟨h.box.other hch (fun i hi hy => ⟨(hY i hi hy).1, (hY i hi hy).2.1, (hY i hi hy).2.2.1⟩) (fun _ hf => hf.elim), h.blk.keep (hch.block B h.blk.lt fun hy => (hY B h.blk.lt hy).2.2.2.1 rfl), h.own.keep fun k hk => hch.block k (h.own.lt hk) fun hy => (hY k (h.own.lt hk) hy).2.2.2.2 hk, h.ne, h.lo, h.vlo⟩

/-- One key more, stored. -/
theorem KSt.push {e eK tS tK : TypeId} {w0 : World} {d0 : Value} {bo : Nat} {d : Value} {bs : List UInt8} {B : Nat} {w w' : World} {v v' : Value} {ks : List Nat} {k : Nat} (h : KSt e eK tS tK w0 d0 bo d bs B w v ks) (hch : Ch (fun i => v.ownBlock = some i) w w') (hown : KOwn eK w' v' (ks ++ [k]))
    (hv : ∀ i, v'.ownBlock = some i → v.ownBlock = some i ∨ w.heap.size ≤ i) : KSt e eK tS tK w0 d0 bo d bs B (w'.setCell ⟨B, 0, none⟩ v') v' (ks ++ [k]) ∧ Blk w' B tK [v] := by
  have hB : B < w.heap.size := h.blk.lt
  have hb' : Blk w' B tK [v] := h.blk.keep (hch.block B hB h.ne)
  have hne : v'.ownBlock ≠ some B := fun hh => by
    rcases hv B hh with h1 | h1
    · exact h.ne h1
    · omega
  have hsc : Ch (fun i => i = B) w' (w'.setCell ⟨B, 0, none⟩ v') := Ch.set (S := fun i => i = B) w' (a := ⟨B, 0, none⟩) rfl v'
  have hb1 : BoxSt e w0 d0 bo tS (fun _ => False) w' d bs := h.box.other hch (fun i hi hy => h.vlo i hy) (fun _ hf => hf.elim)
  have hb2 : BoxSt e w0 d0 bo tS (fun _ => False) (w'.setCell ⟨B, 0, none⟩ v') d bs := hb1.other hsc (fun i hi hy => by subst hy; exact h.lo) (fun _ hf => hf.elim)
  refine ⟨⟨hb2, by simpa using hb'.set 0 v', hown.keep fun i hi => hsc.block i (hown.lt hi) fun hy => hne (hy ▸ hi), hne, h.lo, fun i hi => ?_⟩, hb'⟩
  rcases hv i hi with h1 | h1
  · exact h.vlo i h1
  · have h2 := h.box.blk.lt
    have h3 := h.box.grew.ch.size
    exact ⟨by omega, by omega, fun hd => by have := h.box.grew.own.lt hd; omega⟩

def keyN (e : MapEntry) : Nat := match e.key with | .int _ n => n.toNat | _ => 0
theorem keys_of {w : World} {S : Nat → Prop} : ∀ {es : List MapEntry} {l : List (Nat × List UInt8)}, All2 (TagAt w S) es l → es.map keyN = l.map (·.1) ∧ ∀ e ∈ es, e.key = kv (keyN e)
  | _, _, .nil => ⟨rfl, fun _ h => by cases h⟩
  | e :: es, x :: l, .cons h t => by
    obtain ⟨h1, h2⟩ := keys_of t
    have hk : keyN e = x.1 := by unfold keyN; rw [h.1]; simp
    refine ⟨by simp [hk, h1], fun e' he => ?_⟩
    rcases List.mem_cons.1 he with rfl | he
    · rw [hk, h.1]; rfl
    · exact h2 e' he

theorem setBlock_ch (w : World) (r : Nat) (o : Obj) : Ch (fun i => i = r) w (ChangeMaps.setBlock w r o) := by
  refine ⟨rfl, rfl, rfl, by simp [ChangeMaps.setBlock], fun k hk hne => ?_⟩
  simp only [ChangeMaps.setBlock]
  rw [Array.getElem?_setIfInBounds, if_neg (fun e => hne e.symm)]
theorem setBlock_at {w : World} {r : Nat} (o : Obj) (h : r < w.heap.size) : (ChangeMaps.setBlock w r o).heap[r]? = some o := by
  simp only [ChangeMaps.setBlock]
  rw [Array.getElem?_setIfInBounds, if_pos rfl, if_pos h]
theorem step_ch {w w1 : World} (h : w1 = w ∨ w1 = w.drew) (r : Nat) (o : Obj) : Ch (fun i => i = r) w (ChangeMaps.setBlock w1 r o) := by
  rcases h with rfl | rfl
  · exact setBlock_ch _ r o
  · exact (Ch.drew (fun i => i = r) w).trans (setBlock_ch _ r o) fun i _ h => h
theorem step_at {w w1 : World} (h : w1 = w ∨ w1 = w.drew) {r : Nat} (o : Obj) (hr : r < w.heap.size) : (ChangeMaps.setBlock w1 r o).heap[r]? = some o := by
  rcases h with rfl | rfl
  · exact setBlock_at o hr
  · exact setBlock_at (w := w.drew) o hr

theorem OpK.makeIf {P : Program} {ρ : Operand → Value} {w : World} {K : Value → World → Prop} {d : Option Tmp} {ty : TypeId} {pos : String} {af : Array Edge} {g : Option (Nat × Bool)} {x : Operand} {t e : TypeId} {v : Value} (ht : P.underlying t = some (.slice e)) (hx : ρ x = v) (h : K (.iface t v) w) : OpK P ρ ⟨d, .makeInterface t x, ty, pos, af, g⟩ w K := by
  simp [OpK, execOp, hx, Instr.makeInterface, run_underlying ht, After]
  exact h

theorem calls_args {P : Program} {f : FuncId} {a b : Array Value} {w : World} {Q : Ending → World → Prop} (h : a = b) (hc : Calls P f a w Q) : Calls P f b w Q := h ▸ hc
end Go.Kx

/- The keys' own order: plain laws for the library's sort. -/
namespace Go.Kx
open Go.Sort Go.Proofs
set_option linter.unusedSimpArgs false
set_option linter.unusedVariables false
def ltNat (x y : Nat) : Bool := decide (x < y)
theorem swo_ltNat : SWO ltNat := by
  refine ⟨fun x => by simp [ltNat], fun x y z => by simp only [ltNat, decide_eq_true_eq]; omega, fun x y z => by simp only [ltNat, decide_eq_false_iff_not]; omega⟩
theorem nat_sorted_eq (d d' : Array Nat) (hp : PermIn 0 d.size d d') (hs : SortedIn ltNat 0 d.size d') : d' = (d.toList.mergeSort fun x y => decide (x ≤ y)).toArray := by
  have h := sorted_unique_holds (lt := ltNat) swo_ltNat (fun x y h1 h2 => by simp only [ltNat, decide_eq_false_iff_not] at h1 h2; omega) d d' hp hs
  have e : (fun x y : Nat => !ltNat y x) = fun x y => decide (x ≤ y) := by
    funext x y
    simp only [ltNat]
    by_cases h : x ≤ y
    · first | (simp [h]; done) | (simp [h]; omega)
    · first | (simp [h]; done) | (simp [h]; omega)
  rw [e] at h
  rw [← h]
theorem sorted_perm (ks : List Nat) : (ks.mergeSort fun x y => decide (x ≤ y)).Perm ks := List.mergeSort_perm _ _
theorem sorted_rises (ks : List Nat) : (ks.mergeSort fun x y => decide (x ≤ y)).Pairwise (· ≤ ·) := by
  have := List.pairwise_mergeSort (le := fun x y : Nat => decide (x ≤ y)) (fun a b c h1 h2 => by simp only [decide_eq_true_eq] at *; omega) (fun a b => by simp only [Bool.or_eq_true, decide_eq_true_eq]; omega) ks
  exact this.imp fun h => by simpa using h

theorem sort_end {e : TypeId} {w : World} {g c n : Nat} {ks ds : List Nat} {os : Array Obj} (hown : KOwn e w (.slice (some ⟨g, 0, none⟩) ks.length c) ks) (hl : ds.length = ks.length) :
    KOwn e (Sort.grow (putRow kv (Sort.ahead w n) g 0 ds.toArray) os) (.slice (some ⟨g, 0, none⟩) ks.length c) ds ∧ Ch (fun k => k = g) w (Sort.grow (putRow kv (Sort.ahead w n) g 0 ds.toArray) os) := by
  have hg : g < w.heap.size := hown.lt rfl
  have h1 := Lib.ownsRow_putRow (q := n) (k := ks.length) (ys := ds) hown hl (Nat.le_refl _)
  have hsz : (putRow kv (Sort.ahead w n) g 0 ds.toArray).heap.size = w.heap.size := by simp [putRow, mapBlock, Sort.ahead]
  have hgr : ∀ k, k < w.heap.size → (Sort.grow (putRow kv (Sort.ahead w n) g 0 ds.toArray) os).heap[k]? = (putRow kv (Sort.ahead w n) g 0 ds.toArray).heap[k]? := fun k hk => by
    simp only [Sort.grow]
    rw [Array.getElem?_append_left (by rw [hsz]; exact hk)]
  constructor
  · have h2 : KOwn e (putRow kv (Sort.ahead w n) g 0 ds.toArray) (.slice (some ⟨g, 0, none⟩) ks.length c) ds := by
      unfold KOwn
      rw [List.take_of_length_le (by omega), ← hl] at h1
      rw [← hl]
      exact h1
    exact h2.keep fun k hk => by
      simp only [Value.ownBlock, Option.some.injEq] at hk
      subst hk
      exact hgr _ hg
  · refine ⟨rfl, rfl, rfl, by simp [Sort.grow, hsz], fun k hk hne => ?_⟩
    rw [hgr k hk]
    simp only [putRow, mapBlock, Sort.ahead]
    rw [Array.getElem?_modify, if_neg (fun h => hne h.symm)]
theorem pw_one : ∀ {ks : List Nat}, ks.length = 1 → ks.Pairwise (· ≤ ·)
  | [_], _ => List.pairwise_singleton _ _
end Go.Kx
